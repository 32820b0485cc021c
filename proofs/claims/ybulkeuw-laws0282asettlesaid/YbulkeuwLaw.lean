/-
  LawS0282ASettle, walked.
-/
import Derived.Test.YbulkeuwWalk
import Derived.BigQuiet
import Derived.Deep.QuietTactic
namespace Go.Proofs.Ybulkeuw
open Go.RowKit Go.Conc

theorem addr_ne {b b' k k' : Nat} (h : b ≠ b' ∨ k ≠ k') : (⟨b, k, none⟩ : Addr) ≠ ⟨b', k', none⟩ := by
  intro e; cases e; simp at h
theorem set_keeps {w : World} {b k b' k' : Nat} {v : Value} {x : Option Value} (h : w.cell? ⟨b, k, none⟩ = x) (hne : b ≠ b' ∨ k ≠ k') : (w.setCell ⟨b', k', none⟩ v).cell? ⟨b, k, none⟩ = x := by
  rw [World.cell?_setCell_other]
  · exact h
  · exact (addr_ne hne).symm
theorem set_same {w : World} {b k : Nat} {v u : Value} (h : w.cell? ⟨b, k, none⟩ = some u) : (w.setCell ⟨b, k, none⟩ v).cell? ⟨b, k, none⟩ = some v := by
  first | exact World.cell?_setCell_same _ _ _ h | exact World.cell?_setCell_same h
theorem alloc_keeps {w : World} {b k : Nat} {o : Obj} {x : Value} (h : w.cell? ⟨b, k, none⟩ = some x) : (w.alloc o).cell? ⟨b, k, none⟩ = some x := by
  rw [World.cell?_alloc_lt _ _ _ (World.block_lt_of_cell? _ _ h)]; exact h
theorem chan_keeps {w : World} {b k c cap s r : Nat} {buf : Array Value} {cl tm : Bool} (hne : b ≠ c) : (w.setChan c cap buf cl s r tm).cell? ⟨b, k, none⟩ = w.cell? ⟨b, k, none⟩ := by
  refine World.cell?_of_block (w := w) ?_
  show (w.heap.setIfInBounds c _)[b]? = _
  rw [Array.getElem?_setIfInBounds_ne (fun e => hne e.symm)]

theorem errW_keeps {w : World} {B b k : Nat} {nm : ByteArray} {E : Addr} {x : Value} (h : w.cell? ⟨b, k, none⟩ = some x) (h4 : b ≠ B ∨ k ≠ 4) (h5 : b ≠ B ∨ k ≠ 5) : (errW w B nm E).cell? ⟨b, k, none⟩ = some x :=
  alloc_keeps (set_keeps (set_keeps h h4) h5)
theorem errW_4 {w : World} {B : Nat} {nm : ByteArray} {E : Addr} {x : Value} (h : w.cell? ⟨B, 4, none⟩ = some x) : (errW w B nm E).cell? ⟨B, 4, none⟩ = some (.int .i32 (-2)) :=
  alloc_keeps (set_keeps (set_same h) (Or.inr (by decide)))
theorem errW_5 {w : World} {B : Nat} {nm : ByteArray} {E : Addr} {x : Value} (h : w.cell? ⟨B, 5, none⟩ = some x) : (errW w B nm E).cell? ⟨B, 5, none⟩ = some (.iface 64 (.pointer (some ⟨w.heap.size, 0, none⟩))) :=
  alloc_keeps (set_same (set_keeps h (Or.inr (by decide))))
theorem errW_new (w : World) (B k : Nat) (nm : ByteArray) (E : Addr) : (errW w B nm E).cell? ⟨w.heap.size, k, none⟩ = (#[.string nm, .iface 70 (.pointer (some E))] : Array Value)[k]? := by
  have h := World.cell?_alloc_mark ((w.setCell ⟨B, 4, none⟩ (.int .i32 (-2))).setCell ⟨B, 5, none⟩ (.iface 64 (.pointer (some ⟨w.heap.size, 0, none⟩)))) #[.string nm, .iface 70 (.pointer (some E))] 67 (0, 0) k
  simpa [errW, World.setCell] using h
theorem okW_keeps {w : World} {C B b k : Nat} {en vn : Int} {x : Value} (h : w.cell? ⟨b, k, none⟩ = some x) (h4 : b ≠ B ∨ k ≠ 4) (h5 : b ≠ B ∨ k ≠ 5) (h6 : b ≠ C ∨ k ≠ 6) : (okW w C B en vn).cell? ⟨b, k, none⟩ = some x :=
  set_keeps (set_keeps (set_keeps h h4) h6) h5
theorem okW_4 {w : World} {C B : Nat} {en vn : Int} {x : Value} (h : w.cell? ⟨B, 4, none⟩ = some x) : (okW w C B en vn).cell? ⟨B, 4, none⟩ = some (.int .i32 en) :=
  set_keeps (set_keeps (set_same h) (Or.inr (by decide))) (Or.inr (by decide))
theorem okW_5 {w : World} {C B : Nat} {en vn : Int} {x : Value} (h : w.cell? ⟨B, 5, none⟩ = some x) : (okW w C B en vn).cell? ⟨B, 5, none⟩ = some (.iface 3 (.int .i64 vn)) :=
  set_same (set_keeps (set_keeps h (Or.inr (by decide))) (Or.inr (by decide)))
theorem okW_6 {w : World} {C B : Nat} {en vn : Int} {x : Value} (h : w.cell? ⟨C, 6, none⟩ = some x) : (okW w C B en vn).cell? ⟨C, 6, none⟩ = some (.int .i32 (wrap32 (en + 1))) :=
  set_keeps (set_same (set_keeps h (Or.inr (by decide)))) (Or.inr (by decide))

/-- What the law sets up and settle keeps. -/
structure Set (w : World) (C Pb B : Nat) (x : Value) (a0 : Int) (a1 : ByteArray) : Prop where
  claimed : w.cell? ⟨C, 5, none⟩ = some (.int .i32 7)
  ended : w.cell? ⟨C, 6, none⟩ = some (.int .i32 a0)
  prov : w.cell? ⟨B, 0, none⟩ = some (.pointer (some ⟨Pb, 0, none⟩))
  index : w.cell? ⟨B, 3, none⟩ = some (.int .i32 3)
  place : ∃ m, w.cell? ⟨B, 4, none⟩ = some m
  value : w.cell? ⟨B, 5, none⟩ = some x
  name : w.cell? ⟨Pb, 0, none⟩ = some (.string a1)
  fB : ∀ k, w.frozen? ⟨B, k, none⟩ = false
  fC : ∀ k, w.frozen? ⟨C, k, none⟩ = false
  bc : B ≠ C
  bp : B ≠ Pb
  cp : C ≠ Pb

/-- What lies there behind settle with an error. -/
structure Err (w : World) (C Pb B X : Nat) (a0 : Int) (a1 : ByteArray) (E : Addr) : Prop where
  claimed : w.cell? ⟨C, 5, none⟩ = some (.int .i32 7)
  ended : w.cell? ⟨C, 6, none⟩ = some (.int .i32 a0)
  prov : w.cell? ⟨B, 0, none⟩ = some (.pointer (some ⟨Pb, 0, none⟩))
  index : w.cell? ⟨B, 3, none⟩ = some (.int .i32 3)
  place : w.cell? ⟨B, 4, none⟩ = some (.int .i32 (-2))
  value : w.cell? ⟨B, 5, none⟩ = some (.iface 64 (.pointer (some ⟨X, 0, none⟩)))
  name : w.cell? ⟨X, 0, none⟩ = some (.string a1)
  err : w.cell? ⟨X, 1, none⟩ = some (.iface 70 (.pointer (some E)))
/-- .. without one. -/
structure Fine (w : World) (C Pb B : Nat) (a0 a5 : Int) : Prop where
  claimed : w.cell? ⟨C, 5, none⟩ = some (.int .i32 7)
  ended : w.cell? ⟨C, 6, none⟩ = some (.int .i32 (wrap32 (a0 + 1)))
  prov : w.cell? ⟨B, 0, none⟩ = some (.pointer (some ⟨Pb, 0, none⟩))
  index : w.cell? ⟨B, 3, none⟩ = some (.int .i32 3)
  place : w.cell? ⟨B, 4, none⟩ = some (.int .i32 a0)
  value : w.cell? ⟨B, 5, none⟩ = some (.iface 3 (.int .i64 a5))

theorem err_of {w : World} {C Pb B : Nat} {x : Value} {a0 : Int} {a1 : ByteArray} {E : Addr} (h : Set w C Pb B x a0 a1) : Err (errW w B a1 E) C Pb B w.heap.size a0 a1 E := by
  obtain ⟨m, hm⟩ := h.place
  exact ⟨errW_keeps h.claimed (Or.inr (by decide)) (Or.inl h.bc.symm), errW_keeps h.ended (Or.inr (by decide)) (Or.inr (by decide)), errW_keeps h.prov (Or.inr (by decide)) (Or.inr (by decide)), errW_keeps h.index (Or.inr (by decide)) (Or.inr (by decide)), errW_4 hm, errW_5 h.value, errW_new _ _ 0 _ _, errW_new _ _ 1 _ _⟩
theorem fine_of {w : World} {C Pb B : Nat} {x : Value} {a0 a5 : Int} {a1 : ByteArray} (h : Set w C Pb B x a0 a1) : Fine (okW w C B a0 a5) C Pb B a0 a5 := by
  obtain ⟨m, hm⟩ := h.place
  exact ⟨okW_keeps h.claimed (Or.inr (by decide)) (Or.inl h.bc.symm) (Or.inr (by decide)), okW_6 h.ended, okW_keeps h.prov (Or.inr (by decide)) (Or.inr (by decide)) (Or.inr (by decide)), okW_keeps h.index (Or.inr (by decide)) (Or.inr (by decide)) (Or.inr (by decide)), okW_4 hm, okW_5 h.value⟩
theorem err_chan {w : World} {C Pb B X c : Nat} {a0 : Int} {a1 : ByteArray} {E : Addr} (h : Err w C Pb B X a0 a1 E) (hc : c ≠ C ∧ c ≠ B ∧ c ≠ X) : Err (w.setChan c 0 #[] true 0 0 false) C Pb B X a0 a1 E := by
  obtain ⟨c1, c2, c3⟩ := hc
  obtain ⟨h1, h2, h3, h4, h5, h6, h7, h8⟩ := h
  constructor <;> (rw [chan_keeps (by omega)]; assumption)
theorem fine_chan {w : World} {C Pb B c : Nat} {a0 a5 : Int} (h : Fine w C Pb B a0 a5) (hc : c ≠ C ∧ c ≠ B) : Fine (w.setChan c 0 #[] true 0 0 false) C Pb B a0 a5 := by
  obtain ⟨c1, c2⟩ := hc
  obtain ⟨h1, h2, h3, h4, h5, h6⟩ := h
  constructor <;> (rw [chan_keeps (by omega)]; assumption)
end Go.Proofs.Ybulkeuw
