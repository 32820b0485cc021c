/-
  LawS0282ASettle, walked.
-/
import Derived.Test.YbulkeuwLaw
namespace Go.Proofs.Ybulkeuw
open Go.RowKit Go.Conc

theorem info54 : (Yba.prog.info? 54).map (fun i => i.size) = some 2 := by kernel_rfl
theorem info72 : (Yba.prog.info? 72).map (fun i => i.size) = some 1 := by kernel_rfl
theorem ptr_neq (a : Addr) (w : World) : (binOp .neq 44 (.pointer (some a)) (.pointer (some a))).run Yba.prog w = .ok (.bool false) w := by
  obtain ⟨j, hj, _⟩ := Option.map_eq_some_iff.1 info54
  have h : ∀ d : Nat, (Op.equalIn (d + 1) 44 (.pointer (some a)) (.pointer (some a))).run Yba.prog w = .ok true w := fun d => by
    simp [Op.equalIn, run_underlying Yba.underlying44, sizeOf, typeInfo, hj, run_sameAddr_same]
  simp only [binOp]
  simp [Op.equal, Op.maxDepth, h 9999]
theorem err_neq (a : Addr) (w : World) : (binOp .neq 61 (.iface 70 (.pointer (some a))) (.iface 70 (.pointer (some a)))).run Yba.prog w = .ok (.bool false) w := by
  obtain ⟨j, hj, _⟩ := Option.map_eq_some_iff.1 info72
  have h : ∀ d : Nat, (Op.equalIn (d + 1) 70 (.pointer (some a)) (.pointer (some a))).run Yba.prog w = .ok true w := fun d => by
    simp [Op.equalIn, run_underlying Yba.underlying70, sizeOf, typeInfo, hj, run_sameAddr_same]
  have h2 : ∀ d : Nat, (Op.equalIn (d + 2) 61 (.iface 70 (.pointer (some a))) (.iface 70 (.pointer (some a)))).run Yba.prog w = .ok true w := fun d => by
    rw [Op.equalIn]
    have hc : Yba.t70.comparable = true := by kernel_rfl
    simp [run_underlying Yba.underlying61, h d, hc]
  simp only [binOp]
  simp [Op.equal, Op.maxDepth, h2 9998]

theorem below_okW {w : World} {C B base : Nat} {en vn : Int} (hB : base ≤ B) (hC : base ≤ C) : Below base w (okW w C B en vn) :=
  ((((Below.refl base w).setCell hB _).setCell hC _).setCell hB _)
theorem below_errW {w : World} {B base : Nat} {nm : ByteArray} {E : Addr} (hB : base ≤ B) (hs : base ≤ w.heap.size) : Below base w (errW w B nm E) :=
  (((Below.refl base w).setCell hB _).setCell hB _).alloc (by simpa [World.setCell] using hs) _

theorem settled_ok {w : World} {C Pb B : Nat} {x : Value} {a0 : Int} {a1 : ByteArray} (h : Set w C Pb B x a0 a1) (a5 : Int) (hx : Waits x none) :
    Calls Yba.prog 5 #[.pointer (some ⟨C, 0, none⟩), .pointer (some ⟨B, 0, none⟩), .iface 3 (.int .i64 a5), .nilIface] w fun e w' => e = .returned (.tuple #[]) ∧ Fine w' C Pb B a0 a5 ∧ ∀ base, base ≤ B → base ≤ C → Below base w w' := by
  obtain ⟨m, hm⟩ := h.place
  refine (settle_ok w C B x m a5 a0 hx h.value hm h.fB h.fC h.ended h.bc).mono ?_
  rintro e w' ⟨he, rfl⟩
  exact ⟨he, fine_of h, fun base h1 h2 => below_okW h1 h2⟩
theorem settled_err {w : World} {C Pb B : Nat} {x v : Value} {a0 : Int} {a1 : ByteArray} {E : Addr} (h : Set w C Pb B x a0 a1) (hx : Waits x none) :
    Calls Yba.prog 5 #[.pointer (some ⟨C, 0, none⟩), .pointer (some ⟨B, 0, none⟩), v, .iface 70 (.pointer (some E))] w fun e w' => e = .returned (.tuple #[]) ∧ Err w' C Pb B w.heap.size a0 a1 E ∧ ∀ base, base ≤ B → base ≤ w.heap.size → Below base w w' := by
  obtain ⟨m, hm⟩ := h.place
  refine (settle_err w C B Pb E x v m a1 hx h.value hm h.fB h.prov h.name).mono ?_
  rintro e w' ⟨he, rfl⟩
  exact ⟨he, err_of h, fun base h1 h2 => below_errW h1 h2⟩
/-- What waits there. -/
structure Wt (w : World) (C B W c : Nat) : Prop where
  done : w.cell? ⟨W, 2, none⟩ = some (.chan (some c))
  chan : w.heap[c]? = some (.chan 0 #[] false 0 0 false)
  bw : B ≠ W
  cw : C ≠ W
  bc : B ≠ c
  cc : C ≠ c
  wc : W ≠ c
theorem Wt.lt {w : World} {C B W c : Nat} (h : Wt w C B W c) : c < w.heap.size := (Array.getElem?_eq_some_iff.1 h.chan).1
theorem settled_ok_wait {w : World} {C Pb B W c : Nat} {a0 : Int} {a1 : ByteArray} (h : Set w C Pb B (.iface 55 (.pointer (some ⟨W, 0, none⟩))) a0 a1) (a5 : Int) (hw : Wt w C B W c) :
    Calls Yba.prog 5 #[.pointer (some ⟨C, 0, none⟩), .pointer (some ⟨B, 0, none⟩), .iface 3 (.int .i64 a5), .nilIface] w fun e w' => e = .returned (.tuple #[]) ∧ Fine w' C Pb B a0 a5 ∧ w'.cell? ⟨W, 2, none⟩ = some (.chan (some c)) ∧ w'.heap[c]? = some (.chan 0 #[] true 0 0 false) ∧ ∀ base, base ≤ B → base ≤ C → base ≤ c → Below base w w' := by
  obtain ⟨m, hm⟩ := h.place
  refine (settle_ok_wait w C B W c m a5 a0 h.value hm h.fB h.fC h.ended h.bc hw.done hw.bw hw.cw hw.bc hw.cc hw.chan).mono ?_
  rintro e w' ⟨he, rfl⟩
  refine ⟨he, fine_chan (fine_of h) ⟨hw.cc.symm, hw.bc.symm⟩, ?_, heap_setChan _ _ _ _ _ _ _ _ (by simpa [okW, World.setCell] using hw.lt), fun base h1 h2 h3 => below_setChan (below_okW h1 h2) h3 _ _ _ _ _ _⟩
  rw [chan_keeps hw.wc]
  exact okW_keeps hw.done (Or.inl hw.bw.symm) (Or.inl hw.bw.symm) (Or.inl hw.cw.symm)
theorem settled_err_wait {w : World} {C Pb B W c : Nat} {v : Value} {a0 : Int} {a1 : ByteArray} {E : Addr} (h : Set w C Pb B (.iface 55 (.pointer (some ⟨W, 0, none⟩))) a0 a1) (hw : Wt w C B W c) :
    Calls Yba.prog 5 #[.pointer (some ⟨C, 0, none⟩), .pointer (some ⟨B, 0, none⟩), v, .iface 70 (.pointer (some E))] w fun e w' => e = .returned (.tuple #[]) ∧ Err w' C Pb B w.heap.size a0 a1 E ∧ w'.cell? ⟨W, 2, none⟩ = some (.chan (some c)) ∧ w'.heap[c]? = some (.chan 0 #[] true 0 0 false) ∧ ∀ base, base ≤ B → base ≤ w.heap.size → base ≤ c → Below base w w' := by
  obtain ⟨m, hm⟩ := h.place
  refine (settle_err_wait w C B Pb W c E v m a1 h.value hm h.fB h.prov h.name hw.done hw.bw hw.bc hw.chan).mono ?_
  rintro e w' ⟨he, rfl⟩
  have hlt := hw.lt
  refine ⟨he, err_chan (err_of h) ⟨hw.cc.symm, hw.bc.symm, by omega⟩, ?_, heap_setChan _ _ _ _ _ _ _ _ (by simp [errW, World.setCell]; omega), fun base h1 h2 h3 => below_setChan (below_errW h1 h2) h3 _ _ _ _ _ _⟩
  rw [chan_keeps hw.wc]
  exact errW_keeps hw.done (Or.inl hw.bw.symm) (Or.inl hw.bw.symm)

end Go.Proofs.Ybulkeuw
