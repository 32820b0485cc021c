/-
  The selector's method of the parser, walked.
-/
import Derived.Test.YbulkeqoFmtInst
import Derived.Deep.RegionHeld3
import Derived.Deep.LoopGhost
import Derived.Maps.AppendAt
namespace Go.Proofs.YbulkeqoFmt
open Go.RowKit

structure Shape (z : Pz) (t0 : ByteArray) (rest : List ByteArray) (prs : List (ByteArray × ByteArray)) : Prop where
  h0 : z.ts[0]? = some (1, t0)
  dot : ∀ (j : Nat) (p : ByteArray), rest[j]? = some p → z.ts[1 + 2 * j]? = some (4, ⟨#[46]⟩) ∧ z.ts[2 + 2 * j]? = some (1, p)
  opn : z.ts[1 + 2 * rest.length]? = some (4, ⟨#[123]⟩)
  non : prs = [] → z.ts[2 + 2 * rest.length]? = some (4, ⟨#[58]⟩)
  fld : ∀ (j : Nat) (q : ByteArray × ByteArray), prs[j]? = some q → z.ts[2 + 2 * rest.length + 4 * j]? = some (1, q.1) ∧ z.ts[2 + 2 * rest.length + 4 * j + 1]? = some (4, ⟨#[58]⟩) ∧ z.ts[2 + 2 * rest.length + 4 * j + 2]? = some (5, q.2)
  sep : ∀ j : Nat, j + 1 < prs.length → z.ts[2 + 2 * rest.length + 4 * j + 3]? = some (4, ⟨#[44]⟩)

/-- What lies right behind the parts, or the fields: the brace, or the end. -/
def endAt (rest : List ByteArray) (prs : List (ByteArray × ByteArray)) : Nat := 2 + 2 * rest.length + (if prs = [] then 1 else 4 * prs.length - 1)

theorem info9 : (Ybaf.prog.info? 9).map (fun i => (i.zero, i.size, i.bytes)) = some (some (.string ⟨#[]⟩), 1, 16) := by kernel_rfl
theorem info45 : (Ybaf.prog.info? 45).map (fun i => (i.zero, i.size, i.bytes)) = some (some (.agg #[.string ⟨#[]⟩, .nilIface]), 2, 32) := by kernel_rfl

theorem ownsRow_form {w : World} {base : Nat} {e : TypeId} {size : Nat} {v : Value} {n : Nat} {xs : List Value} (h : w.ownsRow base e size v n xs) (hn : 0 < n) : ∃ g cap, v = .slice (some ⟨g, 0, none⟩) n cap := by
  rcases h.2 with ⟨_, rfl⟩ | ⟨g, cap, cur, rfl, _⟩
  · omega
  · exact ⟨g, cap, rfl⟩

theorem fieldText (k : Int) (s : ByteArray) (p q : Int) (w : World) : (Instr.field 38 (.agg #[.int .u8 k, .string s, .int .i64 p, .int .i64 q]) 1).run Ybaf.prog w = .ok (.string s) w := by kernel_rfl
theorem fieldPos (k : Int) (s : ByteArray) (p q : Int) (w : World) : (Instr.field 38 (.agg #[.int .u8 k, .string s, .int .i64 p, .int .i64 q]) 2).run Ybaf.prog w = .ok (.int .i64 p) w := by kernel_rfl

/-- The selector's value as it is made. -/
theorem in_start {z : Pz} {w : World} {i : Nat} {d : Int} (h : St z w i d) (t0 : ByteArray) (o : Obj) {w' : World} (he : w' = ((w.alloc o).alloc (.cells #[.string t0] 9)).alloc (.cells #[.slice (some ⟨w.heap.size + 1, 0, none⟩) 1 1, .slice none 0 0, .int .i64 0] 43)) :
    St z w' i d ∧ In z w.heap.size w' (w.heap.size + 1 + 1) [t0] [] ∧ But [z.P] w w' := by
  subst he
  have hb := (((But.refl [] w).alloc o).alloc (.cells #[.string t0] 9)).alloc (.cells #[.slice (some ⟨w.heap.size + 1, 0, none⟩) 1 1, .slice none 0 0, .int .i64 0] 43)
  have hz : z.B ≤ w.heap.size := by have := blk_lt h.par; have := h.bP; omega
  refine ⟨h.keep hb (by simp) (by simp) (by simp), ⟨hz, hb.size, by omega, ⟨_, _, ?_, ⟨by simp, Or.inr ⟨w.heap.size + 1, 1, #[.string t0], rfl, by omega, ?_, by simp, by simp [maxLen], by simp, by simp⟩⟩, World.ownsRow_nil _ _ _ _⟩, by simp⟩, hb.mono (by simp)⟩
  · have := blk_new ((w.alloc o).alloc (.cells #[.string t0] 9)) (.cells #[.slice (some ⟨w.heap.size + 1, 0, none⟩) 1 1, .slice none 0 0, .int .i64 0] 43)
    simpa [InsO] using this
  · have := blk_new (w.alloc o) (.cells #[.string t0] 9)
    exact blk_alloc (by simpa using this) _

theorem len_take1 (t0 : ByteArray) (rest : List ByteArray) (j : Nat) (h : j < rest.length) : (t0 :: rest.take j).length + 1 = j + 1 + 1 := by simp; omega
theorem take_snoc1 (t0 : ByteArray) (rest : List ByteArray) (j : Nat) (h : j < rest.length) : t0 :: rest.take (j + 1) = t0 :: rest.take j ++ [rest[j]] := by
  rw [List.take_succ_eq_append_getElem h]; rfl
theorem ne_sym : ((⟨#[123]⟩ : ByteArray).toList == (⟨#[46]⟩ : ByteArray).toList) = false ∧ ((⟨#[125]⟩ : ByteArray).toList == (⟨#[44]⟩ : ByteArray).toList) = false := by decide +kernel

/-- Which field of the tokens a field of the selector is. -/
def Match (rest : List ByteArray) (prs : List (ByteArray × ByteArray)) (fs : List Fl) : Prop :=
  ∀ (k : Nat) (f : Fl), fs[k]? = some f → prs[k]? = some (f.nm, f.vl) ∧ f.ps = 2 + 2 * rest.length + 4 * k + 2

theorem two_new (w : World) (x y : Value) (t : TypeId) : ∀ j u, [x, y][j]? = some u → (w.alloc (.cells #[x, y] t)).drew.cell? ((⟨w.heap.size, 0, none⟩ : Addr).add j) = some u := by
  intro j u hj
  match j, hj with
  | 0, hj => simp at hj; subst hj; simp [Addr.add]
  | 1, hj => simp at hj; subst hj; simp [Addr.add]
  | n + 2, hj => simp at hj
theorem fields_grown {b : Nat} {w w' : World} {I : Nat} {tv fv : Value} {n : Nat} {xs : List Value} (hI : w.heap[I]? = some (InsO tv fv)) (ht : w.ownsRow b 45 2 fv n xs) (hg : w.grownBy w' fv.ownBlock) : w'.heap[I]? = some (InsO tv fv) := by
  rw [hg.block I (blk_lt hI) (fun e => by
    obtain ⟨c, hc, _⟩ := ownsRow_own ht I e.symm
    rw [hI] at hc; simp [InsO] at hc)]
  exact hI

theorem accept_no (z : Pz) (w : World) (i : Nat) (d : Int) (h : St z w i d) (t : Tok) (ht : z.ts[i]? = some t) (hc : t = (4, ⟨#[125]⟩) ∨ t = (0, ⟨#[]⟩)) :
    Calls Ybaf.prog 10 #[.pointer (some ⟨z.P, 0, none⟩), .string ⟨#[44]⟩] w fun e w' => e = .returned (.bool false) ∧ w' = w := by
  rcases hc with rfl | rfl
  · exact accept_other z w i d h _ _ ht ne_sym.2
  · exact accept_kind z w i d h _ _ ht rfl

/-- What follows a field's value. -/
theorem follows {z : Pz} {w : World} {i : Nat} {d : Int} {t0 : ByteArray} {rest : List ByteArray} {prs : List (ByteArray × ByteArray)} (h : St z w i d) (hS : Shape z t0 rest prs) (hF : z.ts[endAt rest prs]? = some (4, ⟨#[125]⟩) ∨ z.ts[endAt rest prs]? = some (0, ⟨#[]⟩)) {j : Nat} (hj : j < prs.length) {N : Nat} (hN : N = 2 + 2 * rest.length + 4 * j) :
    ∃ t : Tok, z.ts[N + 2 + 1]? = some t ∧ NoKey z.bm z.o t.2 ∧ ((j + 1 < prs.length ∧ t = (4, ⟨#[44]⟩)) ∨ (j + 1 = prs.length ∧ endAt rest prs = N + 2 + 1 ∧ (t = (4, ⟨#[125]⟩) ∨ t = (0, ⟨#[]⟩)))) := by
  by_cases hlt : j + 1 < prs.length
  · refine ⟨(4, ⟨#[44]⟩), ?_, h.comma, Or.inl ⟨hlt, rfl⟩⟩
    have := hS.sep j hlt
    rw [hN]; exact this
  · have he : endAt rest prs = N + 2 + 1 := by
      have hp : prs ≠ [] := fun e => by simp [e] at hj
      simp [endAt, hp, hN]; omega
    rw [he] at hF
    rcases hF with hF | hF
    · exact ⟨_, hF, h.brace, Or.inr ⟨by omega, he, Or.inl rfl⟩⟩
    · exact ⟨_, hF, h.eof, Or.inr ⟨by omega, he, Or.inr rfl⟩⟩

theorem match_snoc {rest : List ByteArray} {prs : List (ByteArray × ByteArray)} {fs : List Fl} (h : Match rest prs fs) (hj : fs.length < prs.length) (lb N : Nat) (hN : N = 2 + 2 * rest.length + 4 * fs.length) : Match rest prs (fs ++ [⟨prs[fs.length].1, prs[fs.length].2, N + 2, lb⟩]) := by
  intro k f hk
  by_cases hlt : k < fs.length
  · rw [List.getElem?_append_left hlt] at hk
    exact h k f hk
  · rw [List.getElem?_append_right (by omega)] at hk
    have : k = fs.length := by
      have := (List.getElem?_eq_some_iff.1 hk).1
      simp at this; omega
    subst this
    simp at hk
    subst hk
    simp [hj, hN]

/-- What a call of expect gives for an error: none, or a pointer to one. -/
def IsErr (err : Value) : Prop := err = .nilIface ∨ ∃ eb : Nat, err = .iface 52 (.pointer (some ⟨eb, 0, none⟩))

/-- What it hands back. -/
def outOf (I : Nat) : Value → Value
  | .nilIface => .tuple #[.iface 39 (.pointer (some ⟨I, 0, none⟩)), .nilIface]
  | err => .tuple #[.nilIface, err]

set_option maxRecDepth 100000 in
set_option maxHeartbeats 1600000 in
theorem inst_walk (z : Pz) (w : World) (h : St z w 1 0) (t0 : ByteArray) (rest : List ByteArray) (prs : List (ByteArray × ByteArray)) (hS : Shape z t0 rest prs) (hF : z.ts[endAt rest prs]? = some (4, ⟨#[125]⟩) ∨ z.ts[endAt rest prs]? = some (0, ⟨#[]⟩))
    (R : World → World → Value → Prop) (hE : ∀ w1, St z w1 (endAt rest prs) 0 → But [z.P] w w1 → Calls Ybaf.prog 12 #[.pointer (some ⟨z.P, 0, none⟩), .string ⟨#[125]⟩] w1 fun e w2 => ∃ err, e = .returned err ∧ IsErr err ∧ R w1 w2 err) :
    Calls Ybaf.prog 8 #[.pointer (some ⟨z.P, 0, none⟩), TV (1, t0) 0] w fun e w' => ∃ I fs err w1, e = .returned (outOf I err) ∧ IsErr err ∧ R w1 w' err ∧ St z w1 (endAt rest prs) 0 ∧ In z w.heap.size w1 I (t0 :: rest) fs ∧ fs.length = prs.length ∧ Match rest prs fs ∧ But [z.P] w w1 := by
  have hlen := h.len
  have hrl : rest.length ≤ 4000 := by have := (List.getElem?_eq_some_iff.1 hS.opn).1; omega
  obtain ⟨i9, hi9, hz0, hz1, hz2⟩ := info_parts info9
  obtain ⟨i45, hi45, hy0, hy1, hy2⟩ := info_parts info45
  have hpn : prs.length ≤ 4000 := by
    by_cases hp : prs = []
    · simp [hp]
    · have hpl : 0 < prs.length := List.length_pos_iff.2 hp
      have := (List.getElem?_eq_some_iff.1 (hS.fld (prs.length - 1) prs[prs.length - 1] (by simp)).1).1
      omega
  have HE : Hid _ := hE
  clear hE
  go_enter Ybaf.func8, Ybaf.ntmps8
  go_wp2_with fail
  have hst := in_start h t0 (.cells #[.int .u8 1, .string t0, .int .i64 0, .int .i64 0] 38) rfl
  generalize hIe : w.heap.size + 1 + 1 = I at hst ⊢
  clear hIe
  go_loopg [] rest.length (fun k wr => ∃ j : Nat, j ≤ rest.length ∧ k = rest.length - j ∧ St z wr (1 + 2 * j) 0 ∧ In z w.heap.size wr I (t0 :: rest.take j) [] ∧ But [z.P] w wr)
  case atStart => exact ⟨0, Nat.zero_le _, rfl, by simpa using hst.1, by simpa using hst.2.1, hst.2.2⟩
  case round =>
    clear hst
    obtain ⟨j, hj, rfl, hs, hin, hb⟩ := hrel
    by_cases hlt : j < rest.length
    · obtain ⟨d1, d2⟩ := hS.dot j rest[j] (by simp [hlt])
      go_wp2_with fail
      refine (accept_yes z wr _ 0 hs _ d1).mono ?_
      rintro e w1 ⟨rfl, hs1, hb1⟩
      have hin1 := hin.keepP hs (m := [z.P]) (by simp) hb1
      go_wp2_with fail
      have bd := (But.refl [] w1).drew
      have hs1d := hs1.keep bd (by simp) (by simp) (by simp)
      have hin1d := hin1.keepP hs1 (m := []) (by simp) bd
      obtain ⟨tv, fv, hI, ht, hf⟩ := hin1d.ins
      have hft := fieldText
      have hIc : w1.cell? ⟨I, 0, none⟩ = some tv := by have := blk_cell (k := 0) hI; exact this
      go_region_law (first
        | (refine step_append_own rfl (.tmp 26) (.tmp 30) 22 rfl 9 i9 (.string ⟨#[]⟩) 1 16 Ybaf.underlying22 hi9 hz0 hz1 hz2 rfl (by decide) w.heap.size tv (t0 :: rest.take j).length ((t0 :: rest.take j).map Value.string) rfl (ht2.alloc _) ⟨w2.heap.size, 0, none⟩ 1 1 [.string rest[j]] rfl rfl (Go.cell_one_new _ _ _) (by intro u hu; simp at hu; subst hu; rfl) (by simp [maxLen]; omega) (by simp; omega) (by have := hin2.bw; simp; omega) ?_; intro v' w3 hown3 hgrow3; have hI3 := type_grown (blk_alloc hI2 _) (ht2.alloc _) hgrow3; have hI3c : w3.cell? ⟨I, 0, none⟩ = some tv := (by rw [blk_cell hI3]; rfl); have hI3f : w3.frozen? ⟨I, 0, none⟩ = false := blk_free hI3 0; obtain ⟨g3, cap3, hv3⟩ := ownsRow_form hown3 (by simp); rw [hv3])
        | (go_simp; go_at_call 11; refine (next_ne z _ _ 0 hs1d (1, rest[j]) (by rw [show 1 + 2 * j + 1 = 2 + 2 * j from by omega]; exact d2) rfl).mono ?_; rintro e w2 ⟨rfl, hs2, hb2⟩; dsimp only [TV]; have hin2 := hin1d.keepP hs1d (m := [z.P]) (by simp) hb2; have hI2 : w2.heap[I]? = some (InsO tv fv) := (hb2.block I (blk_lt hI) (fun c => by have hp := hs1d.par; rw [← List.mem_singleton.1 c, hI] at hp; simp [InsO, PO] at hp)).trans hI; have hI2c : w2.cell? ⟨I, 0, none⟩ = some tv := (by rw [blk_cell hI2]; rfl); have hI2a : ∀ o, (w2.alloc o).cell? ⟨I, 0, none⟩ = some tv := (fun o => by rw [blk_cell (blk_alloc hI2 o)]; rfl); have ht2 := ownsRow_but ht hb2 (by intro g c hg; rw [List.mem_singleton.1 hg, hs1d.par]; simp [PO])))
      all_goals
        have R := in_type (p := rest[j]) hs2 hin2 hI2 ht2 (ownsRow_but hf hb2 (by intro g c hg; rw [List.mem_singleton.1 hg, hs1d.par]; simp [PO])) hown3 hgrow3 (((hb.trans hb1).trans (bd.mono (by simp))).trans hb2) (Nat.le_refl _) rfl
        rw [hv3, len_take1 t0 rest j hlt] at R
        obtain ⟨R1, R2, R3⟩ := R
        clear hown3 hgrow3 hI3 hI3c hI3f hI2a hI2c hI2 ht2 hin2 hs2 hb2 hIc hft hI ht hf hin1d hs1d bd hin1 hs1 hb1
        go_wp2
        go_roundg (rest.length - (j + 1))
        case measure => omega
        case rel => exact ⟨j + 1, by omega, rfl, by rw [show 1 + 2 * (j + 1) = 1 + 2 * j + 1 + 1 from by omega]; exact R1, by rw [take_snoc1 t0 rest j hlt]; exact R2, R3⟩
    · obtain rfl : j = rest.length := by omega
      rw [List.take_length] at hin
      have o1 := hS.opn
      go_wp2_with fail
      refine (accept_other z wr _ 0 hs _ _ o1 ne_sym.1).mono ?_
      rintro e w1 ⟨rfl, rfl⟩
      go_wp2_with fail
      refine (next_ne z w1 _ 0 hs _ o1 rfl).mono ?_
      rintro e w2 ⟨rfl, hs2, hb2⟩
      have hin2 := hin.keepP hs (m := [z.P]) (by simp) hb2
      go_wp2_with fail
      by_cases hp : prs = []
      · have hend : endAt rest prs = 1 + 2 * rest.length + 1 + 1 := by simp [endAt, hp]; omega
        refine (accept_yes z w2 _ 0 hs2 _ (by rw [show 1 + 2 * rest.length + 1 = 2 + 2 * rest.length from by omega]; exact hS.non hp)).mono ?_
        rintro e w3 ⟨rfl, hs3, hb3⟩
        have hin3 := hin2.keepP hs2 (m := [z.P]) (by simp) hb3
        rw [← hend] at hs3
        go_wp2_with fail
        refine (HE.out w3 hs3 ((hb.trans hb2).trans hb3)).mono ?_
        rintro e w4 ⟨err, rfl, herr, hR⟩
        have fin : ∀ err', err' = err → ∃ I' fs err₁ w₁, Ending.returned (outOf I err') = .returned (outOf I' err₁) ∧ IsErr err₁ ∧ R w₁ w4 err₁ ∧ St z w₁ (endAt rest prs) 0 ∧ In z w.heap.size w₁ I' (t0 :: rest) fs ∧ fs.length = prs.length ∧ Match rest prs fs ∧ But [z.P] w w₁ := fun err' e =>
          ⟨I, [], err, w3, by rw [e], herr, hR, hs3, hin3, by simp [hp], by intro k f hk; simp at hk, (hb.trans hb2).trans hb3⟩
        have HF : Hid _ := fin
        clear fin hin3 hs3 hb3 hin2 hs2 hb2 hb hs hin hR
        rcases herr with rfl | ⟨eb, rfl⟩
        · go_wp2
          go_ret2
          exact HF.out _ rfl
        · go_wp2
          go_ret2
          exact HF.out _ rfl
      · have hpl : 0 < prs.length := List.length_pos_iff.2 hp
        have f0 := (hS.fld 0 prs[0] (by simp [hpl])).1
        rw [show 2 + 2 * rest.length + 4 * 0 = 1 + 2 * rest.length + 1 from by omega] at f0
        refine (accept_kind z w2 _ 0 hs2 _ _ f0 rfl).mono ?_
        rintro e w3 ⟨rfl, rfl⟩
        have hbw := hb.trans hb2
        clear hb hb2 hs hin f0 o1
        go_wp2_with fail
        go_loopg [] prs.length (fun k wr => ∃ (j : Nat) (fs : List Fl), j < prs.length ∧ k = prs.length - j ∧ St z wr (2 + 2 * rest.length + 4 * j) 0 ∧ In z w.heap.size wr I (t0 :: rest) fs ∧ fs.length = j ∧ Match rest prs fs ∧ But [z.P] w wr)
        case atStart => exact ⟨0, [], hpl, rfl, by rw [show 2 + 2 * rest.length + 4 * 0 = 1 + 2 * rest.length + 1 from by omega]; exact hs2, hin2, rfl, by intro k f hk; simp at hk, hbw⟩
        case round =>
          rename_i wr0 _ _
          clear hs2 hin2 hbw
          obtain ⟨j, fs, hj, rfl, hs, hin, hfl, hmt, hb⟩ := hrel
          obtain ⟨N, hN⟩ : ∃ N, N = 2 + 2 * rest.length + 4 * j := ⟨_, rfl⟩
          obtain ⟨t, ht, hno, hnext⟩ := follows hs hS hF hj hN
          obtain ⟨g1, g2, g3⟩ := hS.fld j prs[j] (by simp [hj])
          rw [← hN] at hs g1 g2 g3
          have HN : Hid _ := hN
          clear hN
          go_wp2_with fail
          refine (next_ne z _ _ 0 hs _ g1 rfl).mono ?_
          rintro e w1 ⟨rfl, hs1, hb1⟩
          have hin1 := hin.keepP hs (m := [z.P]) (by simp) hb1
          dsimp only [TV]
          go_wp2_with fail
          refine (isIdentifier_name _ _ _ _).mono ?_
          rintro e w2 ⟨rfl, hb2⟩
          have ba := (But.refl [] w1).alloc (.cells #[.int .u8 1, .string prs[j].1, .int .i64 N, .int .i64 N] 38)
          have hnb2 : w2.heap[w1.heap.size]? = some (.cells #[.int .u8 1, .string prs[j].1, .int .i64 N, .int .i64 N] 38 (0, 0)) := by
            rw [hb2.block _ (by simp) (by simp)]; exact blk_new _ _
          have hba := ba.trans hb2
          have hs2 := hs1.keep hba (by simp) (by simp) (by simp)
          have hin2 := hin1.keepP hs1 (m := []) (by simp) hba
          go_wp2_with fail
          refine (expect_yes z w2 _ 0 hs2 _ g2).mono ?_
          rintro e w3 ⟨rfl, hs3, hb3⟩
          have hin3 := hin2.keepP hs2 (m := [z.P]) (by simp) hb3
          have hnP : w1.heap.size ≠ z.P := fun e => by
            have hp := hs2.par
            rw [← e, hnb2] at hp; simp [PO] at hp
          have hnb3 : w3.heap[w1.heap.size]? = some (.cells #[.int .u8 1, .string prs[j].1, .int .i64 N, .int .i64 N] 38 (0, 0)) := by
            rw [hb3.block _ (blk_lt hnb2) (by simpa using hnP)]; exact hnb2
          go_wp2_with fail
          refine (expression_string z w3 _ hs3 _ g3 t ht hno).mono ?_
          rintro e w4 ⟨l, rfl, hl, hL, hs4, hb4⟩
          have hin4 := hin3.keepP hs3 (m := [z.P]) (by simp) hb4
          have hnb4 : w4.heap[w1.heap.size]? = some (.cells #[.int .u8 1, .string prs[j].1, .int .i64 N, .int .i64 N] 38 (0, 0)) := by
            rw [hb4.block _ (blk_lt hnb3) (by simpa using hnP)]; exact hnb3
          have hbAll : But [z.P] w w4 := (((hb.trans hb1).trans (hba.mono (by simp))).trans hb3).trans hb4
          go_wp2_with fail
          have hnm : ∀ o, (w4.alloc o).cell? ⟨w1.heap.size, 1, none⟩ = some (.string prs[j].1) := fun o => by rw [blk_cell (blk_alloc hnb4 o)]; rfl
          have hnm0 : w4.cell? ⟨w1.heap.size, 1, none⟩ = some (.string prs[j].1) := by rw [blk_cell hnb4]; rfl
          clear hs hin hb hs1 hb1 hin1 hb2 ba hnb2 hba hs2 hin2 hs3 hb3 hin3 hnb3 hb4 hnP hnb4
          have bd := (But.refl [] w4).drew
          have hs4d := hs4.keep bd (by simp) (by simp) (by simp)
          have hin4d := hin4.keepP hs4 (m := []) (by simp) bd
          obtain ⟨tv, fv, hI, htv, hfv⟩ := hin4d.ins
          have hIc : w4.cell? ⟨I, 1, none⟩ = some fv := by have := blk_cell (k := 1) hI; exact this
          have hIa : ∀ o, (w4.alloc o).cell? ⟨I, 1, none⟩ = some fv := fun o => by have := blk_cell (k := 1) (blk_alloc hI o); exact this
          go_region_law (first
            | (refine step_append_own rfl (.tmp 70) (.tmp 75) 41 rfl 45 i45 (.agg #[.string ⟨#[]⟩, .nilIface]) 2 32 Ybaf.underlying41 hi45 hy0 hy1 hy2 rfl (by decide) w.heap.size fv fs.length (flCells fs) rfl (by exact (hfv.alloc _)) ⟨w4.heap.size, 0, none⟩ 1 1 [.string prs[j].1, .iface 46 (.pointer (some ⟨l, 0, none⟩))] rfl rfl (by exact two_new _ _ _ _) (by intro u hu; simp at hu; rcases hu with hu | hu <;> (subst hu; rfl)) (by simp [maxLen]; omega) (by omega) (by have := hin4.bw; simp; omega) ?_; intro v' w5 hown5 hgrow5; have hI5 := fields_grown (blk_alloc hI _) (hfv.alloc _) hgrow5; have hI5c : w5.cell? ⟨I, 1, none⟩ = some fv := (by rw [blk_cell hI5]; rfl); have hI5f : w5.frozen? ⟨I, 1, none⟩ = false := blk_free hI5 1; obtain ⟨g5, cap5, hv5⟩ := ownsRow_form hown5 (by simp); rw [hv5]))
          all_goals
            have hfsj : fs.length < prs.length := by omega
            obtain ⟨f, hf⟩ : ∃ f : Fl, f = ⟨prs[j].1, prs[j].2, N + 2, l⟩ := ⟨_, rfl⟩
            have R0 := in_field (f := f) (w := w) hs4d hin4d hI htv hfv (by rw [hf]; exact hL) (by rw [hf]; exact hown5) (by exact hgrow5) (hbAll.trans (bd.mono (by simp))) (Nat.le_refl _) rfl
            have hM : Match rest prs (fs ++ [f]) := by
              have hjj := hfl
              subst hjj
              rw [hf]; exact match_snoc hmt hfsj l N HN.out
            rw [hv5, hfl] at R0
            obtain ⟨R1, R2, R3⟩ := R0
            clear hown5 hgrow5 hI5 hI5c hI5f hIc hIa hI htv hfv hin4d hs4d bd hbAll hnm hnm0 hin4 hs4 hL hmt hf
            have hfl2 : (fs ++ [f]).length = j + 1 := by simp [hfl]
            generalize fs ++ [f] = fs2 at R2 hM hfl2
            clear hfl hfsj
            go_wp2_with fail
            rcases hnext with ⟨hlt2, rfl⟩ | ⟨heq, hend, hcase⟩
            · refine (accept_yes z _ _ 0 R1 _ ht).mono ?_
              rintro e w6 ⟨rfl, hs6, hb6⟩
              have hin6 := R2.keepP R1 (m := [z.P]) (by simp) hb6
              go_wp2
              go_roundg (prs.length - (j + 1))
              case measure => omega
              case rel => exact ⟨j + 1, fs2, hlt2, rfl, by rw [show 2 + 2 * rest.length + 4 * (j + 1) = N + 2 + 1 + 1 from by have := HN.out; omega]; exact hs6, hin6, hfl2, hM, R3.trans hb6⟩
            · have hs5 := R1
              have hacc := accept_no z _ _ 0 R1 t ht hcase
              rw [show N + 1 + 1 + 1 = endAt rest prs from by rw [hend]] at hs5
              have hfl3 : Hid (fs2.length = prs.length) := by rw [hfl2, heq]; rfl
              clear heq hend hfl2 hcase
              refine hacc.mono ?_
              rintro e w6 ⟨rfl, rfl⟩
              go_wp2_with fail
              refine (HE.out _ hs5 R3).mono ?_
              rintro e w7 ⟨err, rfl, herr, hR⟩
              have fin : ∀ err', err' = err → ∃ I' fs err₁ w₁, Ending.returned (outOf I err') = .returned (outOf I' err₁) ∧ IsErr err₁ ∧ R w₁ w7 err₁ ∧ St z w₁ (endAt rest prs) 0 ∧ In z w.heap.size w₁ I' (t0 :: rest) fs ∧ fs.length = prs.length ∧ Match rest prs fs ∧ But [z.P] w w₁ := fun err' e =>
                ⟨I, fs2, err, _, by rw [e], herr, hR, hs5, R2, hfl3.out, hM, R3⟩
              have HFin : Hid _ := fin
              clear fin hs5 R1 R2 R3 hM hR hacc
              rcases herr with rfl | ⟨eb, rfl⟩
              · go_wp2
                go_ret2
                exact HFin.out _ rfl
              · go_wp2
                go_ret2
                exact HFin.out _ rfl
end Go.Proofs.YbulkeqoFmt
