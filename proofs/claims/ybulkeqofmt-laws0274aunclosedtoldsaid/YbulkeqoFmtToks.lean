/-
  The tokens are made: zzs0274aadd, zzs0274atoks; and zzs0274aparts, zzs0274an.
-/
import Derived.Test.YbulkeqoFmtInst
import Derived.Deep.DeepMust
import Derived.Deep.LoopGhost
import Derived.Maps.AppendAt
namespace Go.Proofs.YbulkeqoFmt
open Go.RowKit
theorem info38 : (Ybaf.prog.info? 38).map (fun i => (i.zero, i.size, i.bytes)) = some (some (.agg #[.int .u8 0, .string ⟨#[]⟩, .int .i64 0, .int .i64 0]), 4, 40) := by kernel_rfl

theorem four_new (w : World) (x y z u : Value) (t : TypeId) : ∀ j v, [x, y, z, u][j]? = some v → (w.alloc (.cells #[x, y, z, u] t)).cell? ((⟨w.heap.size, 0, none⟩ : Addr).add j) = some v := by
  intro j v hj
  match j, hj with
  | 0, hj => simp at hj; subst hj; simp [Addr.add]
  | 1, hj => simp at hj; subst hj; simp [Addr.add]
  | 2, hj => simp at hj; subst hj; simp [Addr.add]
  | 3, hj => simp at hj; subst hj; simp [Addr.add]
  | n + 4, hj => simp at hj

/-- The cells of the tokens. -/
def tkCells : Nat → List Tok → List Value
  | _, [] => []
  | i, t :: ts => .int .u8 t.1 :: .string t.2 :: .int .i64 (i : Int) :: .int .i64 (i : Int) :: tkCells (i + 1) ts
theorem tkCells_snoc (ts : List Tok) (t : Tok) : ∀ i, tkCells i (ts ++ [t]) = tkCells i ts ++ [.int .u8 t.1, .string t.2, .int .i64 ((i + ts.length : Nat) : Int), .int .i64 ((i + ts.length : Nat) : Int)] := by
  induction ts with
  | nil => intro i; simp [tkCells]
  | cons x xs ih => intro i; simp only [List.cons_append, tkCells, ih, List.length_cons]; rw [show i + 1 + xs.length = i + (xs.length + 1) from by omega]
theorem tkCells_length (ts : List Tok) : ∀ i, (tkCells i ts).length = ts.length * 4 := by
  induction ts with
  | nil => intro i; rfl
  | cons x xs ih => intro i; simp [tkCells, ih]; omega
theorem tkCells_at (ts : List Tok) : ∀ i j t, ts[j]? = some t → (tkCells i ts)[j * 4]? = some (.int .u8 t.1) ∧ (tkCells i ts)[j * 4 + 1]? = some (.string t.2) ∧ (tkCells i ts)[j * 4 + 2]? = some (.int .i64 ((i + j : Nat) : Int)) ∧ (tkCells i ts)[j * 4 + 3]? = some (.int .i64 ((i + j : Nat) : Int)) := by
  induction ts with
  | nil => intro i j t h; simp at h
  | cons x xs ih =>
    intro i j t h
    cases j with
    | zero => simp at h; subst h; simp [tkCells]
    | succ j =>
      simp at h
      obtain ⟨h0, h1, h2, h3⟩ := ih (i + 1) j t h
      rw [show (j + 1) * 4 = j * 4 + 4 from by omega]
      refine ⟨?_, ?_, ?_, ?_⟩
      · simpa [tkCells] using h0
      · simpa [tkCells] using h1
      · rw [show i + (j + 1) = i + 1 + j from by omega]; simpa [tkCells] using h2
      · rw [show i + (j + 1) = i + 1 + j from by omega]; simpa [tkCells] using h3

/-- The tokens so far, in a row of the call's own. -/
def Tk (b : Nat) (w : World) (v : Value) (ts : List Tok) : Prop := w.ownsRow b 38 4 v ts.length (tkCells 0 ts) ∧ ∃ g c, v = .slice (some ⟨g, 0, none⟩) ts.length c

set_option maxHeartbeats 400000 in
theorem add_any (b : Nat) (v : Value) (ts : List Tok) (t : Tok) (w : World) (hb : b ≤ w.heap.size) (hn : ts.length ≤ 100000) (hT : Tk b w v ts) :
    Calls Ybaf.prog 9 #[v, .int .u8 t.1, .string t.2] w fun e w' => ∃ v', e = .returned v' ∧ Tk b w' v' (ts ++ [t]) ∧ Below b w w' := by
  obtain ⟨k, s⟩ := t
  obtain ⟨i38, hi, hz0, hz1, hz2⟩ := info_parts info38
  obtain ⟨hown, g, c, hv⟩ := hT
  rw [hv] at hown ⊢
  clear hv
  go_enter Ybaf.func9, Ybaf.ntmps9
  go_wp2_with (at_builtin; (refine wpList_append_own _ rfl (.tmp 10) (.tmp 16) 25 rfl b 38 i38 (.agg #[.int .u8 0, .string ⟨#[]⟩, .int .i64 0, .int .i64 0]) 4 40 Ybaf.underlying25 hi hz0 hz1 hz2 rfl (by decide) _ _ _ rfl (hown.alloc _) ⟨w.heap.size, 0, none⟩ 1 1 [.int .u8 k, .string s, .int .i64 ts.length, .int .i64 ts.length] rfl rfl (four_new _ _ _ _ _ _) (by intro u hu; simp at hu; rcases hu with rfl | rfl | rfl <;> rfl) (by simp [maxLen]; omega) (by omega) (by simp; omega) ?_); intro v' w1 hown' hgrow _)
  go_ret
  refine ⟨v', rfl, ⟨by simpa [tkCells_snoc] using hown', ?_⟩, ?_⟩
  · rcases hown'.2 with ⟨_, h⟩ | ⟨g', cap, cur, h, _⟩
    · omega
    · exact ⟨g', cap, by simpa using h⟩
  · exact ((Below.refl b w).alloc hb _).grown hgrow (by simp; omega) (fun k e => by obtain ⟨_, _, h⟩ := ownsRow_own hown k e; exact h)
/-! ### The tokens, as a list -/
def dots (rest : List ByteArray) : List Tok := rest.flatMap fun p => [(4, ⟨#[46]⟩), (1, p)]
def f3 (q : ByteArray × ByteArray) : List Tok := [(1, q.1), (4, ⟨#[58]⟩), (5, q.2)]
def fl : List (ByteArray × ByteArray) → List Tok
  | [] => []
  | q :: qs => f3 q ++ qs.flatMap fun q => (4, ⟨#[44]⟩) :: f3 q
def headOf (t0 : ByteArray) (rest : List ByteArray) : List Tok := (1, t0) :: dots rest
def bodyOf (t0 : ByteArray) (rest : List ByteArray) (prs : List (ByteArray × ByteArray)) : List Tok := headOf t0 rest ++ [(4, ⟨#[123]⟩)] ++ (if prs = [] then [(4, ⟨#[58]⟩)] else fl prs)
def toksOf (t0 : ByteArray) (rest : List ByteArray) (prs : List (ByteArray × ByteArray)) (close : Bool) : List Tok := bodyOf t0 rest prs ++ (if close then [(4, ⟨#[125]⟩)] else []) ++ [(0, ⟨#[]⟩)]

theorem head_snoc (t0 : ByteArray) (rest : List ByteArray) (j : Nat) (h : j < rest.length) : headOf t0 (rest.take (j + 1)) = headOf t0 (rest.take j) ++ [(4, ⟨#[46]⟩)] ++ [(1, rest[j])] := by
  rw [List.take_succ_eq_append_getElem h]; simp only [headOf, dots, List.flatMap_append, List.flatMap_cons, List.flatMap_nil, List.cons_append, List.append_assoc, List.append_nil, List.nil_append]
theorem fl_snoc0 (prs : List (ByteArray × ByteArray)) (h : 0 < prs.length) : fl (prs.take 1) = fl (prs.take 0) ++ [((1, prs[0].1) : Tok)] ++ [((4, ⟨#[58]⟩) : Tok)] ++ [((5, prs[0].2) : Tok)] := by
  match prs, h with
  | q :: qs, _ => simp [fl, f3]
theorem fl_snoc (prs : List (ByteArray × ByteArray)) (j : Nat) (h : j < prs.length) (h0 : 0 < j) : fl (prs.take (j + 1)) = fl (prs.take j) ++ [(4, ⟨#[44]⟩)] ++ [(1, prs[j].1)] ++ [(4, ⟨#[58]⟩)] ++ [(5, prs[j].2)] := by
  match prs, j, h0 with
  | q :: qs, k + 1, _ =>
    have hk : k < qs.length := by simpa using h
    rw [List.take_succ_cons, List.take_succ_cons, List.take_succ_eq_append_getElem hk]; simp only [fl, f3, List.flatMap_append, List.flatMap_cons, List.flatMap_nil, List.cons_append, List.append_assoc, List.append_nil, List.nil_append, List.getElem_cons_succ]
theorem head_length (t0 : ByteArray) (rest : List ByteArray) : (headOf t0 rest).length = 1 + 2 * rest.length := by
  simp [headOf, dots, List.length_flatMap, List.map_const']; omega
theorem fl_length (prs : List (ByteArray × ByteArray)) : (fl prs).length = 4 * prs.length - 1 := by
  match prs with
  | [] => rfl
  | q :: qs => simp [fl, f3, List.length_flatMap, List.map_const']; omega

theorem add_at (b : Nat) (v : Value) (ts : List Tok) (k : Int) (s : ByteArray) (w w0 : World) (hw : Below b w0 w) (hb : b ≤ w0.heap.size) (hn : ts.length ≤ 100000) (hT : Tk b w v ts) :
    Calls Ybaf.prog 9 #[v, .int .u8 k, .string s] w fun e w' => ∃ v', e = .returned v' ∧ Tk b w' v' (ts ++ [(k, s)]) ∧ Below b w0 w' :=
  (add_any b v ts (k, s) w (Nat.le_trans hb hw.size) hn hT).mono fun _ _ ⟨v', h1, h2, h3⟩ => ⟨v', h1, h2, hw.trans h3⟩

set_option maxRecDepth 100000 in
set_option maxHeartbeats 1600000 in
theorem toks_any (w : World) (pb po pc : Nat) (t0 : ByteArray) (rest : List ByteArray) (na va : Option Addr) (nl nc vl vc : Nat) (prs : List (ByteArray × ByteArray)) (close : Bool)
    (hp0 : w.cell? ⟨pb, po, none⟩ = some (.string t0)) (hp : ∀ j p, rest[j]? = some p → w.cell? ⟨pb, po + (j + 1), none⟩ = some (.string p))
    (hnv : ∀ j q, prs[j]? = some q → ∃ nb no vb vo, na = some ⟨nb, no, none⟩ ∧ w.cell? ⟨nb, no + j, none⟩ = some (.string q.1) ∧ va = some ⟨vb, vo, none⟩ ∧ w.cell? ⟨vb, vo + j, none⟩ = some (.string q.2))
    (l1 : rest.length ≤ 300) (l2 : prs.length ≤ 300) (hnl : prs.length ≤ nl) (hvl : prs.length ≤ vl) (hnm : nl ≤ 300) (hvm : vl ≤ 300) :
    Calls Ybaf.prog 7 #[.slice (some ⟨pb, po, none⟩) (rest.length + 1) pc, .slice na nl nc, .slice va vl vc, .int .i64 prs.length, .bool close] w fun e w' => ∃ v', e = .returned v' ∧ Tk w.heap.size w' v' (toksOf t0 rest prs close) ∧ Below w.heap.size w w' := by
  obtain ⟨i38, hi, hz0, hz1, hz2⟩ := info_parts info38
  have hpaB : pb < w.heap.size := World.block_lt_of_cell? _ _ hp0
  go_enter Ybaf.func7, Ybaf.ntmps7
  go_wp2_with (first
    | (at_make; refine wpList_make_own _ rfl _ _ 25 rfl w.heap.size 38 i38 (.agg #[.int .u8 0, .string ⟨#[]⟩, .int .i64 0, .int .i64 0]) 4 Ybaf.underlying25 hi hz0 hz1 _ _ _ (2 * (rest.length + 1) + 4 * prs.length + 4) rfl rfl (by omega) (by rw [hz2]; omega) (by unfold maxLen; omega) (Nat.le_refl _) ?_; intro w0 hown0 hgrow0; have hB0 := (Below.refl w.heap.size w).grown hgrow0 (Nat.le_refl _) (fun k e => by cases e); have hp00 : w0.cell? ⟨pb, po, none⟩ = some (.string t0) := (hB0.cell (by exact hpaB)).trans hp0))
  refine (add_at w.heap.size _ [] 1 t0 w0 w hB0 (Nat.le_refl _) (by simp) ⟨hown0, _, _, rfl⟩).mono ?_
  rintro e w1 ⟨v1, rfl, hT1, hB1⟩
  clear hown0 hgrow0 hB0 hp00
  go_wp2_with fail
  go_loopg [11, 12] rest.length (fun k s11 s12 wr => ∃ j : Nat, j ≤ rest.length ∧ k = rest.length - j ∧ s12 = .int .i64 ((j + 1 : Nat) : Int) ∧ Tk w.heap.size wr s11 (headOf t0 (rest.take j)) ∧ Below w.heap.size w wr)
  case atStart => exact ⟨0, Nat.zero_le _, rfl, rfl, hT1, hB1⟩
  case round =>
    clear hT1 hB1
    obtain ⟨j, hj, rfl, rfl, hT, hB⟩ := hrel
    by_cases hlt : j < rest.length
    · have hlt' : ((j : Int) + 1) < (rest.length : Int) + 1 := by omega
      have hhl := head_length t0 (rest.take j)
      have hhl2 : (headOf t0 (rest.take j)).length ≤ 700 := by rw [hhl]; simp; omega
      clear hhl
      go_wp2_with fail
      refine (add_at w.heap.size u11 _ 4 ⟨#[46]⟩ wr w hB (Nat.le_refl _) (by omega) hT).mono ?_
      rintro e w2 ⟨v2, rfl, hT2, hB2⟩
      have hc2 : w2.cell? ⟨pb, po + (j + 1), none⟩ = some (.string rest[j]) := (hB2.cell (by exact hpaB)).trans (hp j rest[j] (by simp [hlt]))
      go_wp2_with fail
      refine (add_at w.heap.size v2 _ 1 rest[j] w2 w hB2 (Nat.le_refl _) (by simp; omega) hT2).mono ?_
      rintro e w3 ⟨v3, rfl, hT3, hB3⟩
      rw [← head_snoc t0 rest j hlt] at hT3
      clear hc2 hT2 hB2 hT hB
      go_wp2
      go_roundg (rest.length - (j + 1))
      case measure => omega
      case rel => exact ⟨j + 1, by omega, rfl, by go_num, hT3, hB3⟩
    · obtain rfl : j = rest.length := by omega
      rw [List.take_length] at hT
      have hhl := head_length t0 rest
      have hhl2 : (headOf t0 rest).length ≤ 700 := by rw [hhl]; omega
      clear hhl
      go_wp2_with fail
      refine (add_at w.heap.size u11 _ 4 ⟨#[123]⟩ wr w hB (Nat.le_refl _) (by omega) hT).mono ?_
      rintro e w2 ⟨v2, rfl, hT2, hB2⟩
      clear hT hB
      by_cases hprs : prs = []
      · subst hprs
        go_wp2_with fail
        refine (add_at w.heap.size v2 _ 4 ⟨#[58]⟩ w2 w hB2 (Nat.le_refl _) (by simp; omega) hT2).mono ?_
        rintro e w3 ⟨v3, rfl, hT3, hB3⟩
        clear hT2 hB2
        have hbl : (headOf t0 rest ++ [((4, ⟨#[123]⟩) : Tok)] ++ [((4, ⟨#[58]⟩) : Tok)]).length ≤ 702 := by simp; omega
        have hbd : bodyOf t0 rest [] = headOf t0 rest ++ [((4, ⟨#[123]⟩) : Tok)] ++ [((4, ⟨#[58]⟩) : Tok)] := by simp [bodyOf]
        rw [← hbd] at hT3 hbl
        clear hbd
        cases close
        · go_wp2_with fail
          refine (add_at w.heap.size v3 _ 0 ⟨#[]⟩ w3 w hB3 (Nat.le_refl _) (by omega) hT3).mono ?_
          rintro e w4 ⟨v4, rfl, hT4, hB4⟩
          go_wp2
          go_ret
          exact ⟨v4, rfl, by simpa [toksOf] using hT4, hB4⟩
        · go_wp2_with fail
          refine (add_at w.heap.size v3 _ 4 ⟨#[125]⟩ w3 w hB3 (Nat.le_refl _) (by omega) hT3).mono ?_
          rintro e w4 ⟨v4, rfl, hT4, hB4⟩
          go_wp2_with fail
          refine (add_at w.heap.size v4 _ 0 ⟨#[]⟩ w4 w hB4 (Nat.le_refl _) (by simp; omega) hT4).mono ?_
          rintro e w5 ⟨v5, rfl, hT5, hB5⟩
          go_wp2
          go_ret
          exact ⟨v5, rfl, by simpa [toksOf] using hT5, hB5⟩
      · have hpl : 0 < prs.length := List.length_pos_iff.2 hprs
        have hz : ((prs.length : Int) == 0) = false := by simp; omega
        go_wp2_with fail
        go_loopg [11, 13] prs.length (fun k s11 s13 wr => ∃ j : Nat, j ≤ prs.length ∧ k = prs.length - j ∧ s13 = .int .i64 (j : Int) ∧ Tk w.heap.size wr s11 (headOf t0 rest ++ [(4, ⟨#[123]⟩)] ++ fl (prs.take j)) ∧ Below w.heap.size w wr)
        case atStart => exact ⟨0, Nat.zero_le _, rfl, rfl, by simpa [fl] using hT2, hB2⟩
        case round =>
          clear hT2 hB2
          obtain ⟨j, hj, rfl, rfl, hT, hB⟩ := hrel
          have hfl1 : (headOf t0 rest ++ [((4, ⟨#[123]⟩) : Tok)] ++ fl (prs.take j)).length ≤ 2000 := by simp only [List.length_append, fl_length, List.length_cons, List.length_nil, List.length_take]; omega
          by_cases hlt : j < prs.length
          · obtain ⟨nb, no, vb, vo, rfl, hcn, rfl, hcv⟩ := hnv j prs[j] (by simp [hlt])
            have hnB : nb < w.heap.size := World.block_lt_of_cell? _ _ hcn
            have hvB : vb < w.heap.size := World.block_lt_of_cell? _ _ hcv
            have hltz : (j : Int) < (prs.length : Int) := by omega
            have hjn : (j : Int) < (nl : Int) := by omega
            have hjv : (j : Int) < (vl : Int) := by omega
            by_cases hj0 : j = 0
            · subst hj0
              rw [Nat.add_zero] at hcn hcv
              have hcn1 : wr.cell? ⟨nb, no, none⟩ = some (.string prs[0].1) := (hB.cell (by exact hnB)).trans hcn
              go_wp2_with fail
              refine (add_at w.heap.size u11 _ 1 prs[0].1 wr w hB (Nat.le_refl _) (by simp only [List.length_append, List.length_cons, List.length_nil] at hfl1 ⊢; omega) hT).mono ?_
              rintro e w4 ⟨v4, rfl, hT4, hB4⟩
              clear hcn1
              go_wp2_with fail
              refine (add_at w.heap.size v4 _ 4 ⟨#[58]⟩ w4 w hB4 (Nat.le_refl _) (by simp only [List.length_append, List.length_cons, List.length_nil] at hfl1 ⊢; omega) hT4).mono ?_
              rintro e w5 ⟨v5, rfl, hT5, hB5⟩
              have hcv1 : w5.cell? ⟨vb, vo, none⟩ = some (.string prs[0].2) := (hB5.cell (by exact hvB)).trans hcv
              go_wp2_with fail
              refine (add_at w.heap.size v5 _ 5 prs[0].2 w5 w hB5 (Nat.le_refl _) (by simp only [List.length_append, List.length_cons, List.length_nil] at hfl1 ⊢; omega) hT5).mono ?_
              rintro e w6 ⟨v6, rfl, hT6, hB6⟩
              clear hcv1 hT4 hB4 hT5 hB5
              go_wp2
              go_roundg (prs.length - (0 + 1))
              case measure => omega
              case rel => exact ⟨0 + 1, by omega, rfl, by go_num, by rw [fl_snoc0 prs hpl]; simpa [List.append_assoc] using hT6, hB6⟩
            · have hj1 : (0 : Int) < (j : Int) := by omega
              go_wp2_with fail
              refine (add_at w.heap.size u11 _ 4 ⟨#[44]⟩ wr w hB (Nat.le_refl _) (by omega) hT).mono ?_
              rintro e w3 ⟨v3, rfl, hT3, hB3⟩
              clear hT hB
              have hcn1 : w3.cell? ⟨nb, no + j, none⟩ = some (.string prs[j].1) := (hB3.cell (by exact hnB)).trans hcn
              go_wp2_with fail
              refine (add_at w.heap.size v3 _ 1 prs[j].1 w3 w hB3 (Nat.le_refl _) (by simp only [List.length_append, List.length_cons, List.length_nil] at hfl1 ⊢; omega) hT3).mono ?_
              rintro e w4 ⟨v4, rfl, hT4, hB4⟩
              clear hcn1
              go_wp2_with fail
              refine (add_at w.heap.size v4 _ 4 ⟨#[58]⟩ w4 w hB4 (Nat.le_refl _) (by simp only [List.length_append, List.length_cons, List.length_nil] at hfl1 ⊢; omega) hT4).mono ?_
              rintro e w5 ⟨v5, rfl, hT5, hB5⟩
              have hcv1 : w5.cell? ⟨vb, vo + j, none⟩ = some (.string prs[j].2) := (hB5.cell (by exact hvB)).trans hcv
              go_wp2_with fail
              refine (add_at w.heap.size v5 _ 5 prs[j].2 w5 w hB5 (Nat.le_refl _) (by simp only [List.length_append, List.length_cons, List.length_nil] at hfl1 ⊢; omega) hT5).mono ?_
              rintro e w6 ⟨v6, rfl, hT6, hB6⟩
              clear hcv1 hT4 hB4 hT5 hB5
              go_wp2
              go_roundg (prs.length - (j + 1))
              case measure => omega
              case rel => exact ⟨j + 1, by omega, rfl, by go_num, by rw [fl_snoc prs j hlt (by omega)]; simpa [List.append_assoc] using hT6, hB6⟩
          · obtain rfl : j = prs.length := by omega
            rw [List.take_length] at hT hfl1
            have hbd : bodyOf t0 rest prs = headOf t0 rest ++ [((4, ⟨#[123]⟩) : Tok)] ++ fl prs := by simp [bodyOf, hprs]
            rw [← hbd] at hT hfl1
            clear hbd
            cases close
            · go_wp2_with fail
              refine (add_at w.heap.size u11 _ 0 ⟨#[]⟩ wr w hB (Nat.le_refl _) (by omega) hT).mono ?_
              rintro e w4 ⟨v4, rfl, hT4, hB4⟩
              go_wp2
              go_ret
              exact ⟨v4, rfl, by simpa [toksOf] using hT4, hB4⟩
            · go_wp2_with fail
              refine (add_at w.heap.size u11 _ 4 ⟨#[125]⟩ wr w hB (Nat.le_refl _) (by omega) hT).mono ?_
              rintro e w4 ⟨v4, rfl, hT4, hB4⟩
              go_wp2_with fail
              refine (add_at w.heap.size v4 _ 0 ⟨#[]⟩ w4 w hB4 (Nat.le_refl _) (by simp; omega) hT4).mono ?_
              rintro e w5 ⟨v5, rfl, hT5, hB5⟩
              go_wp2
              go_ret
              exact ⟨v5, rfl, by simpa [toksOf] using hT5, hB5⟩
end Go.Proofs.YbulkeqoFmt
