/-
  The parser's small methods, each by its contract.
-/
import Derived.Test.YbulkeqoFmtBase
import Derived.WalkLawsBesides
import Derived.RegionTactic
import Derived.Defers
namespace Go.Proofs.YbulkeqoFmt
open Go.RowKit

/-- The token as a value. -/
abbrev TV (t : Tok) (i : Nat) : Value := .agg #[.int .u8 t.1, .string t.2, .int .i64 i, .int .i64 i]

set_option maxHeartbeats 400000 in
theorem next_ne (z : Pz) (w : World) (i : Nat) (d : Int) (h : St z w i d) (t : Tok) (ht : z.ts[i]? = some t) (hk : (t.1 != 0) = true) :
    Calls Ybaf.prog 11 #[.pointer (some ⟨z.P, 0, none⟩)] w fun e w' => e = .returned (TV t i) ∧ St z w' (i + 1) d ∧ But [z.P] w w' := by
  obtain ⟨k, s⟩ := t
  have h' := h
  obtain ⟨hP, hg, c0, c1, c2, c3, f2, f3⟩ := h.cells
  obtain ⟨t0, t1, t2, t3, hi⟩ := h.at ht
  have hn := h.len
  have hH : Hid _ := h'
  clear h h' ht
  go_enter Ybaf.func11, Ybaf.ntmps11
  go_wp2
  go_region
  all_goals go_wp2
  refine bodyPost_ret (v := TV (k, s) i) (by simp [results, Ybaf.results11, go_sem]) rfl ⟨rfl, ?_⟩
  have hb := ((((But.refl [z.P] w).set (p := ⟨z.P, 2, none⟩) (by simp) (.int .i64 (↑i + 1))).alloc (.cells #[.int .u8 k, .string s, .int .i64 i, .int .i64 i] 38)).alloc (.cells #[.int .u8 k, .string s, .int .i64 i, .int .i64 i] 38)).drew
  exact ⟨hH.out.step hb (by simpa using hH.out.bP) (by simpa using hH.out.gP) (blk_drew (blk_alloc (blk_alloc (PO_i z i (i + 1) d hH.out.par) _) _)), hb⟩

set_option maxHeartbeats 400000 in
theorem peek_any (z : Pz) (w : World) (i : Nat) (d : Int) (h : St z w i d) (t : Tok) (ht : z.ts[i]? = some t) :
    Calls Ybaf.prog 17 #[.pointer (some ⟨z.P, 0, none⟩)] w fun e w' => e = .returned (TV t i) ∧ St z w' i d ∧ But [] w w' := by
  obtain ⟨k, s⟩ := t
  have h' := h
  obtain ⟨hP, hg, c0, c1, c2, c3, f2, f3⟩ := h.cells
  obtain ⟨t0, t1, t2, t3, hi⟩ := h.at ht
  have hn := h.len
  have hH : Hid _ := h'
  clear h h' ht
  go_enter Ybaf.func17, Ybaf.ntmps17
  go_wp2
  go_region
  all_goals go_wp2
  refine bodyPost_ret (v := TV (k, s) i) (by simp [results, Ybaf.results17, go_sem]) rfl ⟨rfl, ?_⟩
  have hb := ((But.refl [] w).alloc (.cells #[.int .u8 k, .string s, .int .i64 i, .int .i64 i] 38)).drew
  exact ⟨hH.out.keep hb (by simp) (by simp) (by simp), hb⟩

/-- isSymbol where the kind is another. -/
theorem isSymbol_kind (z : Pz) (w : World) (i : Nat) (d : Int) (h : St z w i d) (t : Tok) (s : ByteArray) (ht : z.ts[i]? = some t) (hk : (t.1 == 4) = false) :
    Calls Ybaf.prog 16 #[.pointer (some ⟨z.P, 0, none⟩), .int .i64 i, .string s] w fun e w' => e = .returned (.bool false) ∧ w' = w := by
  obtain ⟨hP, hg, c0, c1, c2, c3, f2, f3⟩ := h.cells
  obtain ⟨t0, t1, t2, t3, hi⟩ := h.at ht
  have hn := h.len
  clear h ht
  go_enter Ybaf.func16, Ybaf.ntmps16
  go_wp2
  go_ret
  exact ⟨rfl, rfl⟩

/-- isSymbol at a symbol. -/
theorem isSymbol_text (z : Pz) (w : World) (i : Nat) (d : Int) (h : St z w i d) (u s : ByteArray) (ht : z.ts[i]? = some (4, u)) (b : Bool) (hb : (u.toList == s.toList) = b) :
    Calls Ybaf.prog 16 #[.pointer (some ⟨z.P, 0, none⟩), .int .i64 i, .string s] w fun e w' => e = .returned (.bool b) ∧ w' = w := by
  obtain ⟨hP, hg, c0, c1, c2, c3, f2, f3⟩ := h.cells
  obtain ⟨t0, t1, t2, t3, hi⟩ := h.at ht
  have hn := h.len
  clear h ht
  go_enter Ybaf.func16, Ybaf.ntmps16
  go_wp2
  go_ret
  exact ⟨rfl, rfl⟩

/-- accept, the kind is another. -/
theorem accept_kind (z : Pz) (w : World) (i : Nat) (d : Int) (h : St z w i d) (t : Tok) (s : ByteArray) (ht : z.ts[i]? = some t) (hk : (t.1 == 4) = false) :
    Calls Ybaf.prog 10 #[.pointer (some ⟨z.P, 0, none⟩), .string s] w fun e w' => e = .returned (.bool false) ∧ w' = w := by
  obtain ⟨hP, hg, c0, c1, c2, c3, f2, f3⟩ := h.cells
  go_enter Ybaf.func10, Ybaf.ntmps10
  go_wp2_with fail
  refine (isSymbol_kind z w i d h t s ht hk).mono ?_
  rintro e w' ⟨rfl, rfl⟩
  go_wp2
  go_ret
  exact ⟨rfl, rfl⟩

/-- accept, another symbol. -/
theorem accept_other (z : Pz) (w : World) (i : Nat) (d : Int) (h : St z w i d) (u s : ByteArray) (ht : z.ts[i]? = some (4, u)) (hb : (u.toList == s.toList) = false) :
    Calls Ybaf.prog 10 #[.pointer (some ⟨z.P, 0, none⟩), .string s] w fun e w' => e = .returned (.bool false) ∧ w' = w := by
  obtain ⟨hP, hg, c0, c1, c2, c3, f2, f3⟩ := h.cells
  go_enter Ybaf.func10, Ybaf.ntmps10
  go_wp2_with fail
  refine (isSymbol_text z w i d h u s ht false hb).mono ?_
  rintro e w' ⟨rfl, rfl⟩
  go_wp2
  go_ret
  exact ⟨rfl, rfl⟩

/-- accept, the very symbol. -/
theorem accept_yes (z : Pz) (w : World) (i : Nat) (d : Int) (h : St z w i d) (s : ByteArray) (ht : z.ts[i]? = some (4, s)) :
    Calls Ybaf.prog 10 #[.pointer (some ⟨z.P, 0, none⟩), .string s] w fun e w' => e = .returned (.bool true) ∧ St z w' (i + 1) d ∧ But [z.P] w w' := by
  obtain ⟨hP, hg, c0, c1, c2, c3, f2, f3⟩ := h.cells
  have hi := (h.at ht).2.2.2.2
  have hn := h.len
  go_enter Ybaf.func10, Ybaf.ntmps10
  go_wp2_with fail
  refine (isSymbol_text z w i d h s s ht true (by simp)).mono ?_
  rintro e w' ⟨rfl, rfl⟩
  go_wp2
  go_ret
  have hb := (But.refl [z.P] w').set (p := ⟨z.P, 2, none⟩) (by simp) (.int .i64 (↑i + 1))
  exact ⟨rfl, h.step hb (by simpa using h.bP) (by simpa using h.gP) (PO_i z i (i + 1) d h.par), hb⟩

/-- expect, the very symbol. -/
theorem expect_yes (z : Pz) (w : World) (i : Nat) (d : Int) (h : St z w i d) (s : ByteArray) (ht : z.ts[i]? = some (4, s)) :
    Calls Ybaf.prog 12 #[.pointer (some ⟨z.P, 0, none⟩), .string s] w fun e w' => e = .returned .nilIface ∧ St z w' (i + 1) d ∧ But [z.P] w w' := by
  go_enter Ybaf.func12, Ybaf.ntmps12
  go_wp2_with fail
  refine (accept_yes z w i d h s ht).mono ?_
  rintro e w' ⟨rfl, hs, hb⟩
  go_wp2
  go_ret
  exact ⟨rfl, hs, hb⟩

/-- isIdentifier at a name. -/
theorem isIdentifier_name (s : ByteArray) (p q : Int) (w : World) :
    Calls Ybaf.prog 13 #[.agg #[.int .u8 1, .string s, .int .i64 p, .int .i64 q]] w fun e w' => e = .returned (.bool true) ∧ But [] w w' := by
  go_enter Ybaf.func13, Ybaf.ntmps13
  go_wp2
  go_ret
  exact ⟨rfl, (But.refl [] w).alloc _⟩

/-- deeper, the first level. -/
theorem deeper_0 (z : Pz) (w : World) (i : Nat) (h : St z w i 0) :
    Calls Ybaf.prog 21 #[.pointer (some ⟨z.P, 0, none⟩)] w fun e w' => e = .returned .nilIface ∧ St z w' i 1 ∧ But [z.P] w w' := by
  obtain ⟨hP, hg, c0, c1, c2, c3, f2, f3⟩ := h.cells
  have hH : Hid _ := h
  clear h
  go_enter Ybaf.func21, Ybaf.ntmps21
  go_wp2
  go_ret
  have hb := (But.refl [z.P] w).set (p := ⟨z.P, 3, none⟩) (by simp) (.int .i64 1)
  exact ⟨rfl, hH.out.step hb (by simpa using hH.out.bP) (by simpa using hH.out.gP) (PO_d z i 0 1 hH.out.par), hb⟩

/-- restoreDepth, deferred. -/
theorem restore_deferred (z : Pz) (w : World) (i : Nat) (d d' : Int) (u : FrameMode) (h : St z w i d) :
    CallsD Ybaf.prog 20 #[.pointer (some ⟨z.P, 0, none⟩), .int .i64 d'] u w fun e u' w' => u' = u ∧ (e = .returned (.tuple #[]) ∧ St z w' i d' ∧ But [z.P] w w') := by
  obtain ⟨hP, hg, c0, c1, c2, c3, f2, f3⟩ := h.cells
  have hH : Hid _ := h
  clear h
  go_enter_d Ybaf.func20, Ybaf.ntmps20
  go_wp2
  go_end0
  have hb := (But.refl [z.P] w).set (p := ⟨z.P, 3, none⟩) (by simp) (.int .i64 d')
  exact ⟨rfl, hH.out.step hb (by simpa using hH.out.bP) (by simpa using hH.out.gP) (PO_d z i d d' hH.out.par), hb⟩

/-- The literal's block. -/
abbrev LO (s : ByteArray) (i : Nat) : Obj := .cells #[.int .u8 2, .string s, .string ⟨#[]⟩, .bool false, .int .i64 i] 50

set_option maxRecDepth 100000 in
set_option maxHeartbeats 800000 in
/-- term at a string. -/
theorem term_string (z : Pz) (w : World) (i : Nat) (d : Int) (h : St z w i d) (s : ByteArray) (ht : z.ts[i]? = some (5, s)) :
    Calls Ybaf.prog 27 #[.pointer (some ⟨z.P, 0, none⟩)] w fun e w' => ∃ l, e = .returned (.tuple #[.iface 46 (.pointer (some ⟨l, 0, none⟩)), .nilIface]) ∧ w.heap.size ≤ l ∧ w'.heap[l]? = some (LO s i) ∧ St z w' (i + 1) d ∧ But [z.P] w w' := by
  go_enter Ybaf.func27, Ybaf.ntmps27
  go_wp2_with fail
  refine (next_ne z w i d h (5, s) ht rfl).mono ?_
  rintro e w' ⟨rfl, hs, hb⟩
  go_wp2
  go_ret2
  have hc := ((But.refl [z.P] w').alloc (.cells #[.int .u8 5, .string s, .int .i64 i, .int .i64 i] 38)).alloc (LO s i)
  refine ⟨w'.heap.size + 1, rfl, by have := hb.size; omega, ?_, hs.step hc (by simpa using hs.bP) (by simpa using hs.gP) (blk_alloc (blk_alloc hs.par _) _), hb.trans hc⟩
  have := blk_new (w'.alloc (.cells #[.int .u8 5, .string s, .int .i64 i, .int .i64 i] 38)) (LO s i)
  simpa using this

set_option maxHeartbeats 400000 in
/-- prefix at a string. -/
theorem prefix_string (z : Pz) (w : World) (i : Nat) (d : Int) (h : St z w i d) (s : ByteArray) (ht : z.ts[i]? = some (5, s)) :
    Calls Ybaf.prog 22 #[.pointer (some ⟨z.P, 0, none⟩)] w fun e w' => ∃ l, e = .returned (.tuple #[.iface 46 (.pointer (some ⟨l, 0, none⟩)), .nilIface]) ∧ w.heap.size ≤ l ∧ w'.heap[l]? = some (LO s i) ∧ St z w' (i + 1) d ∧ But [z.P] w w' := by
  go_enter Ybaf.func22, Ybaf.ntmps22
  go_wp2_with fail
  refine (peek_any z w i d h (5, s) ht).mono ?_
  rintro e w' ⟨rfl, hs, hb⟩
  go_wp2_with fail
  have hc := (But.refl [] w').alloc (.cells #[.int .u8 5, .string s, .int .i64 i, .int .i64 i] 38)
  have hs2 := hs.keep hc (by simp) (by simp) (by simp)
  refine (term_string z _ i d hs2 s ht).mono ?_
  rintro e w2 ⟨l, rfl, hl, hL, hs3, hb3⟩
  go_wp2
  go_ret2
  exact ⟨l, rfl, by have := hb.size; have := hc.size; omega, hL, hs3, ((hb.trans hc).mono (by simp)).trans hb3⟩

set_option maxRecDepth 100000 in
set_option maxHeartbeats 800000 in
/-- expression at a string that a comma, a brace or the end follows. -/
theorem expression_string (z : Pz) (w : World) (i : Nat) (h : St z w i 0) (s : ByteArray) (ht : z.ts[i]? = some (5, s)) (t : Tok) (hn : z.ts[i + 1]? = some t) (hno : NoKey z.bm z.o t.2) :
    Calls Ybaf.prog 15 #[.pointer (some ⟨z.P, 0, none⟩), .int .i64 0] w fun e w' => ∃ l, e = .returned (.tuple #[.iface 46 (.pointer (some ⟨l, 0, none⟩)), .nilIface]) ∧ w.heap.size ≤ l ∧ w'.heap[l]? = some (LO s i) ∧ St z w' (i + 1) 0 ∧ But [z.P] w w' := by
  obtain ⟨hP, hg, c0, c1, c2, c3, f2, f3⟩ := h.cells
  go_enter_defers Ybaf.func15, Ybaf.ntmps15
  go_wp2_with fail
  refine (deeper_0 z w i h).mono ?_
  rintro e w1 ⟨rfl, hs1, hb1⟩
  go_wp2_with fail
  refine (prefix_string z w1 i 1 hs1 s ht).mono ?_
  rintro e w2 ⟨l, rfl, hl, hL, hs2, hb2⟩
  go_wp2_with fail
  refine wp_loop_rounds 1 ?_
  rw [rounds_succ]
  go_wp2_with fail
  refine (peek_any z w2 (i + 1) 1 hs2 t hn).mono ?_
  rintro e w3 ⟨rfl, hs3, hb3⟩
  have hs4 := fun o => hs3.keep ((But.refl [] w3).alloc o) (by simp) (by simp) (by simp)
  have hlook := fun o => hno _ (hs4 o).map
  have hglob := fun o => (hs4 o).glob
  have H1 : Hid _ := h
  have H4 : Hid _ := hs4
  clear hs4 h c0 c1 c2 c3 f2 f3
  go_wp2
  refine leaves_cons (f := 20) (args := #[.pointer (some ⟨z.P, 0, none⟩), .int .i64 0]) (by simp) (by simp [go_sem]) ?_
  refine (restore_deferred z _ (i + 1) 1 0 .returning (H4.out _)).mono ?_
  rintro e u' w4 ⟨rfl, rfl, hs5, hb5⟩
  have hlP : l ≠ z.P := fun e => by
    have h1 := hs2.par
    rw [← e, hL] at h1
    simp [PO] at h1
  have hb34 := hb3.trans ((But.refl [] w3).alloc (.cells #[.int .u8 t.1, .string t.2, .int .i64 (↑i + 1), .int .i64 (↑i + 1)] 38))
  refine ⟨_, results_tmp2 rfl _ _ _, l, rfl, by have := hb1.size; omega, ?_, hs5, (hb1.trans hb2).trans ((hb34.mono (by simp)).trans hb5)⟩
  rw [hb5.block l (by have := hb34.size; have := blk_lt hL; omega) (by simpa using hlP), hb34.block l (blk_lt hL) (by simp)]
  exact hL
end Go.Proofs.YbulkeqoFmt
