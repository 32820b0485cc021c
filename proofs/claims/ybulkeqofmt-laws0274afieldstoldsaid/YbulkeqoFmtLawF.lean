/-
  LawS0274AFields, walked.
-/
import Derived.Test.YbulkeqoFmtLawA
import Derived.BigQuiet
import Derived.Deep.QuietTactic
namespace Go.Proofs.YbulkeqoFmt
open Go.RowKit

theorem assert_err (a : Addr) (w : World) : (Instr.typeAssert (.iface 52 (.pointer (some a))) 33 52 true).run Ybaf.prog w = .ok (.tuple #[.pointer (some a), .bool true]) w := by kernel_rfl

theorem But.drewN {m : List Nat} {a w : World} (h : But m a w) (n : Nat) : But m a (w.drewN n) := ⟨h.os, h.tape, h.output, h.size, h.block⟩

theorem assert_inst (a : Addr) (w : World) : (Instr.typeAssert (.iface 39 (.pointer (some a))) 31 39 true).run Ybaf.prog w = .ok (.tuple #[.pointer (some a), .bool true]) w := by kernel_rfl
theorem assert_lit (a : Addr) (w : World) : (Instr.typeAssert (.iface 46 (.pointer (some a))) 31 46 true).run Ybaf.prog w = .ok (.tuple #[.pointer (some a), .bool true]) w := by kernel_rfl

/-- What the selector's fields are, for the walk. -/
theorem fields_of {w : World} {b n : Nat} {fv : Value} {xs : List Value} (h : w.ownsRow b 45 2 fv n xs) : ∃ ao cf, fv = .slice ao n cf ∧ ∀ j u, xs[j]? = some u → ∃ gf, ao = some ⟨gf, 0, none⟩ ∧ w.cell? ⟨gf, j, none⟩ = some u := by
  rcases h.2 with ⟨h1, h2⟩ | ⟨g, cap, cur, h1, _⟩
  · subst h2
    have : xs = [] := List.eq_nil_of_length_eq_zero (by rw [h.1])
    exact ⟨none, 0, h1, by simp [this]⟩
  · exact ⟨some ⟨g, 0, none⟩, cap, h1, fun j u hj => ⟨g, rfl, row_cell h h1 j u hj⟩⟩
theorem flCells_at (fs : List Fl) : ∀ (j : Nat) (f : Fl), fs[j]? = some f → (flCells fs)[2 * j]? = some (.string f.nm) ∧ (flCells fs)[2 * j + 1]? = some (.iface 46 (.pointer (some ⟨f.lb, 0, none⟩))) := by
  induction fs with
  | nil => intro j f h; simp at h
  | cons x xs ih =>
    intro j f h
    cases j with
    | zero => simp at h; subst h; simp [flCells]
    | succ j =>
      simp at h
      obtain ⟨h1, h2⟩ := ih j f h
      rw [show 2 * (j + 1) = 2 * j + 2 from by omega]
      exact ⟨by simpa [flCells] using h1, by simpa [flCells] using h2⟩

set_option maxRecDepth 100000 in
theorem early_f (w : World) (ta na va : Option Addr) (tl nl vl tc nc vc : Nat) (h : 300 < tl ∨ 300 < nl ∨ 300 < vl) :
    Calls Ybaf.prog 3 #[.slice ta tl tc, .slice na nl nc, .slice va vl vc] w fun e w' => e = .returned (.bool true) ∧ w' = w := by
  by_cases h1 : 300 < tl
  · have h1' : (300 : Int) < (tl : Int) := by omega
    go_enter Ybaf.func3, Ybaf.ntmps3
    go_wp2
    go_ret
    exact ⟨rfl, rfl⟩
  · have h1' : ¬ (300 : Int) < (tl : Int) := by omega
    by_cases h2 : 300 < nl
    · have h2' : (300 : Int) < (nl : Int) := by omega
      go_enter Ybaf.func3, Ybaf.ntmps3
      go_wp2
      go_ret
      exact ⟨rfl, rfl⟩
    · have h2' : ¬ (300 : Int) < (nl : Int) := by omega
      have h3' : (300 : Int) < (vl : Int) := by omega
      go_enter Ybaf.func3, Ybaf.ntmps3
      go_wp2
      go_ret
      exact ⟨rfl, rfl⟩

set_option maxRecDepth 100000 in
set_option maxHeartbeats 800000 in
theorem law_f (w : World) (ta na va : Option Addr) (tc nc vc : Nat) (ts ns vs : List ByteArray) (hT : Strs w ta ts) (hN : Strs w na ns) (hV : Strs w va vs) (l1 : ts.length ≤ 300) (l2 : ns.length ≤ 300) (l3 : vs.length ≤ 300)
    (bm : Nat) (o : Obj) (hglob : w.cell? ⟨0, 0, none⟩ = some (.map (some bm))) (hmap : w.heap[bm]? = some o) (k1 : NoKey bm o ⟨#[44]⟩) (k2 : NoKey bm o ⟨#[125]⟩) (k3 : NoKey bm o ⟨#[]⟩) :
    Calls Ybaf.prog 3 #[.slice ta ts.length tc, .slice na ns.length nc, .slice va vs.length vc] w fun e w' => e = .returned (.bool true) ∧ Below w.heap.size w w' := by
  have h1' : ¬ (300 : Int) < (ts.length : Int) := by omega
  have h2' : ¬ (300 : Int) < (ns.length : Int) := by omega
  have h3' : ¬ (300 : Int) < (vs.length : Int) := by omega
  obtain ⟨prs, hprs⟩ : ∃ prs, prs = ns.zip vs := ⟨_, rfl⟩
  have hzl : prs.length = min ns.length vs.length := by rw [hprs]; exact List.length_zip
  have HZ : Hid _ := hzl
  have HP : Hid _ := hprs
  clear hzl hprs
  go_enter Ybaf.func3, Ybaf.ntmps3
  go_wp2_with fail
  refine (parts_any w ta tc ts hT l1).mono ?_
  rintro e w1 ⟨pb, po, pc, t0, rest, rfl, hrl, hc0, hcs, hb1⟩
  go_wp2_with fail
  refine (n_any w1 na va ns.length vs.length nc vc prs.length HZ.out).mono ?_
  rintro e w2 ⟨rfl, rfl⟩
  have hzc := zip_cells (hN.but hb1) (hV.but hb1)
  rw [← HP.out] at hzc
  go_wp2_with fail
  refine (toks_any w2 pb po pc t0 rest na va ns.length nc vs.length vc prs true hc0 hcs hzc hrl (by have := HZ.out; omega) (by have := HZ.out; omega) (by have := HZ.out; omega) l2 l3).mono ?_
  rintro e w3 ⟨v, rfl, hTk, hB3⟩
  clear hzc
  obtain ⟨hat, hlen⟩ := closed_at t0 rest prs
  have hle : endAt rest prs ≤ 3000 := by
    unfold endAt
    have := HZ.out
    split <;> omega
  obtain ⟨z, hzt, hzP, hzB, hv, hst⟩ := st_start hTk hB3 hb1 hglob hmap k1 k2 k3 (by omega)
  have hS := shape z t0 rest prs true hzt
  have hq := hst.at hS.h0
  simp only [Nat.zero_mul, Nat.zero_add] at hq
  obtain ⟨q0, q1, q2, q3, _⟩ := hq
  have hin := inst_walk z _ hst t0 rest prs hS (by rw [hzt]; exact Or.inl hat) (fun w1 w2 err => err = .nilIface ∧ St z w2 (endAt rest prs + 1) 0 ∧ But [z.P] w1 w2)
    (fun w1 hs1 _ => (expect_yes z w1 _ 0 hs1 _ (by rw [hzt]; exact hat)).mono fun e w2 ⟨he, h1, h2⟩ => ⟨_, he, Or.inl rfl, rfl, h1, h2⟩)
  rw [hv] at hin hst q0 q1 q2 q3 ⊢
  rw [hlen] at hin hst q0 q1 q2 q3 ⊢
  have hgP : z.g < w3.heap.size := by
    have := hst.gP
    obtain ⟨cur, hc, _⟩ := hst.tok
    have h1 := blk_lt hc
    simp at h1
    omega
  rw [hzP] at hin
  have HI : Hid (Calls Ybaf.prog 8 _ _ _) := hin
  have HL : Hid _ := hlen
  have HV : Hid _ := hv
  have HZT : Hid _ := hzt
  have HZP : Hid _ := hzP
  have HZB : Hid _ := hzB
  clear hin hlen hv hzt hzP hzB hat
  go_wp2_with fail
  refine HI.out.mono ?_
  rintro e w4 ⟨I, fs, err, w5, rfl, _, ⟨rfl, hst4, hb5⟩, hst5, hin5, hfl, hmt, hb45⟩
  have hin4 := hin5.keepP hst5 (m := [w3.heap.size]) (by simp [HZP.out]) hb5
  have hfin : Hid (Below w.heap.size w w4) := by
    have s1 := hb1.size
    have s3 := hB3.size
    have a1 : Below w.heap.size w w2 := hb1.below (Nat.le_refl _) (by simp)
    have a2 : Below w.heap.size w w3 := a1.trans (hB3.mono s1)
    have a3 := a2.alloc (by omega) (.cells #[.string ⟨#[]⟩, .slice (some ⟨z.g, 0, none⟩) (endAt rest prs + 2) z.cap, .int .i64 1, .int .i64 0] 29)
    have a4 := a3.trans (hb45.below (B := w.heap.size) (by simp; omega) (by simp; omega))
    exact a4.trans (hb5.below (by have := hb45.size; simp at this; omega) (by simp; omega))
  have hB24 : Below w2.heap.size w2 w4 := by
    have s3 := hB3.size
    have a3 := hB3.alloc s3 (.cells #[.string ⟨#[]⟩, .slice (some ⟨z.g, 0, none⟩) (endAt rest prs + 2) z.cap, .int .i64 1, .int .i64 0] 29)
    have a4 := a3.trans (hb45.below (B := w2.heap.size) (by simp; omega) (by simp; omega))
    exact a4.trans (hb5.below (by have := hb45.size; simp at this; omega) (by simp; omega))
  obtain ⟨tv, fv, hI, htv, hfv⟩ := hin4.ins
  obtain ⟨gt, ct, htf⟩ := ownsRow_form htv (by simp)
  obtain ⟨ao, cf, hff, hfc⟩ := fields_of hfv
  have htc := row_cell htv htf
  rw [htf, hff, hfl] at hI
  simp only [List.length_cons] at hI
  have i0 : w4.cell? ⟨I, 0, none⟩ = some (.slice (some ⟨gt, 0, none⟩) (rest.length + 1) ct) := by rw [blk_cell hI]; rfl
  have i1 : w4.cell? ⟨I, 1, none⟩ = some (.slice ao prs.length cf) := by rw [blk_cell hI]; rfl
  have i2 : w4.cell? ⟨I, 2, none⟩ = some (.int .i64 0) := by rw [blk_cell hI]; rfl
  have hIlt := blk_lt hI
  have p2 : w4.cell? ⟨w3.heap.size, 2, none⟩ = some (.int .i64 ((endAt rest prs + 1 : Nat) : Int)) := by rw [← HZP.out]; exact hst4.cells.2.2.2.2.1
  have hPlt : w3.heap.size < w4.heap.size := World.block_lt_of_cell? _ _ p2
  have hpcells : ∀ j p, (t0 :: rest)[j]? = some p → w4.cell? ⟨pb, po + j, none⟩ = some (.string p) ∧ w4.cell? ⟨gt, j, none⟩ = some (.string p) := fun j p hj => by
    have hpb : pb < w2.heap.size := World.block_lt_of_cell? _ _ hc0
    refine ⟨?_, htc j _ (by rw [List.getElem?_map, hj]; rfl)⟩
    rw [hB24.cell (p := ⟨pb, po + j, none⟩) hpb]
    cases j with
    | zero => simp at hj; subst hj; exact hc0
    | succ j => exact hcs j p (by simpa using hj)
  have hta := assert_inst
  have htl := assert_lit
  have hNV := zip_cells hN hV
  rw [← HP.out] at hNV
  have H1 : Hid (∀ j p, (t0 :: rest)[j]? = some p → w4.cell? ⟨pb, po + j, none⟩ = some (.string p) ∧ w4.cell? ⟨gt, j, none⟩ = some (.string p)) := hpcells
  have H2 : Hid (∀ j u, (flCells fs)[j]? = some u → ∃ gf, ao = some ⟨gf, 0, none⟩ ∧ w4.cell? ⟨gf, j, none⟩ = some u) := hfc
  have H3 : Hid (∀ j q, prs[j]? = some q → ∃ nb no vb vo, na = some ⟨nb, no, none⟩ ∧ w.cell? ⟨nb, no + j, none⟩ = some (.string q.1) ∧ va = some ⟨vb, vo, none⟩ ∧ w.cell? ⟨vb, vo + j, none⟩ = some (.string q.2)) := hNV
  have H4 : Hid (∀ f ∈ fs, w4.heap[f.lb]? = some (LO f.vl f.ps)) := hin4.lits
  have HM : Hid (fs.length = prs.length ∧ Match rest prs fs) := ⟨hfl, hmt⟩
  clear hpcells hfc hNV hfl hmt htc htf hff htv hfv hI hin4 hin5 hst5 hst4 hb45 hb5 HI hst q0 q1 q2 q3 hTk hB3 hB24 hc0 hcs hT hN hV hglob hmap k1 k2 k3
  dsimp only [outOf]
  go_wp2_with fail
  go_loopg [15] (rest.length + 1) (fun k s15 wr => ∃ j : Nat, j ≤ rest.length + 1 ∧ k = rest.length + 1 - j ∧ s15 = .int .i64 (j : Int) ∧ But [] w4 wr)
  case atStart => exact ⟨0, Nat.zero_le _, rfl, rfl, But.refl [] w4⟩
  case round =>
    obtain ⟨j, hj, rfl, rfl, hb⟩ := hrel
    by_cases hlt : j < rest.length + 1
    · obtain ⟨p, hp⟩ : ∃ p, (t0 :: rest)[j]? = some p := ⟨_, List.getElem?_eq_getElem (by simpa using hlt)⟩
      obtain ⟨e1, e2⟩ := H1.out j p hp
      have r0 : wr.cell? ⟨I, 0, none⟩ = some (.slice (some ⟨gt, 0, none⟩) (rest.length + 1) ct) := by rw [hb.cell (p := ⟨I, 0, none⟩) hIlt (by simp)]; exact i0
      have r1 : wr.cell? ⟨pb, po + j, none⟩ = some (.string p) := by rw [hb.cell (World.block_lt_of_cell? _ _ e1) (by simp)]; exact e1
      have r2 : wr.cell? ⟨gt, j, none⟩ = some (.string p) := by rw [hb.cell (World.block_lt_of_cell? _ _ e2) (by simp)]; exact e2
      have hltz : (j : Int) < (rest.length : Int) + 1 := by omega
      clear hp e1 e2 i0 i1 i2 p2
      go_wp2_with fail
      go_region
      all_goals go_wp2
      all_goals
        go_roundg (rest.length + 1 - (j + 1))
        case measure => omega
        case rel => exact ⟨j + 1, by omega, rfl, by go_num, hb.drew⟩
    · obtain rfl : j = rest.length + 1 := by omega
      go_wp2_with fail
      go_loopg [17] prs.length (fun k s17 wr2 => ∃ j : Nat, j ≤ prs.length ∧ k = prs.length - j ∧ s17 = .int .i64 (j : Int) ∧ But [] w4 wr2)
      case atStart => exact ⟨0, Nat.zero_le _, rfl, rfl, hb⟩
      case round =>
        clear hb
        obtain ⟨j, hj, rfl, rfl, hb⟩ := hrel
        rename_i wr1 _ _ _ _
        by_cases hlt : j < prs.length
        · obtain ⟨f, hf⟩ : ∃ f, fs[j]? = some f := ⟨_, List.getElem?_eq_getElem (by have := HM.out.1; omega)⟩
          obtain ⟨m1, m2⟩ := HM.out.2 j f hf
          obtain ⟨nb, no, vb, vo, rfl, n1, rfl, n2⟩ := H3.out j _ m1
          obtain ⟨c1, c2⟩ := flCells_at fs j f hf
          obtain ⟨gf, rfl, g1⟩ := H2.out _ _ c1
          obtain ⟨gf', hge, g2⟩ := H2.out _ _ c2
          obtain rfl : gf' = gf := by cases hge; rfl
          clear hge
          have hl := H4.out f (List.mem_of_getElem? hf)
          obtain ⟨nm, vl, ps, lb⟩ := f
          have hlp : ((ps : Nat) : Int) = 2 * ((rest.length : Int) + 1) + 4 * (j : Int) + 2 := by simp only at m2; omega
          simp only at n1 n2 g1 g2 hl
          dsimp only [LO] at hl
          rw [hlp] at hl
          rw [show 2 * j = j * 2 from by omega] at g1 g2
          have hw4 := hfin.out
          have r1 : wr.cell? ⟨I, 1, none⟩ = some (.slice (some ⟨gf', 0, none⟩) prs.length cf) := by rw [hb.cell (p := ⟨I, 1, none⟩) hIlt (by simp)]; exact i1
          have a1 : wr.cell? ⟨gf', j * 2, none⟩ = some (.string nm) := by rw [hb.cell (World.block_lt_of_cell? _ _ g1) (by simp)]; exact g1
          have a2 : wr.cell? ⟨gf', j * 2 + 1, none⟩ = some (.iface 46 (.pointer (some ⟨lb, 0, none⟩))) := by rw [hb.cell (World.block_lt_of_cell? _ _ g2) (by simp)]; exact g2
          have hb' : ∀ o, But [] w4 (wr.alloc o) := fun o => hb.alloc o
          have b1 : ∀ o, (wr.alloc o).cell? ⟨nb, no + j, none⟩ = some (.string nm) := fun o => by
            have h1 : nb < w.heap.size := World.block_lt_of_cell? _ _ n1
            rw [(hb' o).cell (p := ⟨nb, no + j, none⟩) (by have := hw4.size; show nb < _; omega) (by simp), hw4.cell (p := ⟨nb, no + j, none⟩) h1]; exact n1
          have b2 : ∀ o, (wr.alloc o).cell? ⟨vb, vo + j, none⟩ = some (.string vl) := fun o => by
            have h1 : vb < w.heap.size := World.block_lt_of_cell? _ _ n2
            rw [(hb' o).cell (p := ⟨vb, vo + j, none⟩) (by have := hw4.size; show vb < _; omega) (by simp), hw4.cell (p := ⟨vb, vo + j, none⟩) h1]; exact n2
          have hl2 : ∀ o, (wr.alloc o).heap[lb]? = some (.cells #[.int .u8 2, .string vl, .string ⟨#[]⟩, .bool false, .int .i64 (2 * ((rest.length : Int) + 1) + 4 * (j : Int) + 2)] 50) := fun o => by
            rw [(hb' o).block lb (blk_lt hl) (by simp)]; exact hl
          have l0 : ∀ o, (wr.alloc o).cell? ⟨lb, 0, none⟩ = some (.int .u8 2) := fun o => by rw [blk_cell (hl2 o)]; rfl
          have l1' : ∀ o, (wr.alloc o).cell? ⟨lb, 1, none⟩ = some (.string vl) := fun o => by rw [blk_cell (hl2 o)]; rfl
          have l4 : ∀ o, (wr.alloc o).cell? ⟨lb, 4, none⟩ = some (.int .i64 (2 * ((rest.length : Int) + 1) + 4 * (j : Int) + 2)) := fun o => by rw [blk_cell (hl2 o)]; rfl
          have hltz : (j : Int) < (prs.length : Int) := by omega
          have hzz := HZ.out
          have hjn : (j : Int) < (ns.length : Int) := by omega
          have hjv : (j : Int) < (vs.length : Int) := by omega
          clear hl2 hb' hw4 hl hlp n1 n2 g1 g2 c1 c2 m1 m2 hf i0 i1 i2 p2 hzz
          go_wp2_with fail
          go_region
          all_goals go_wp2_with fail
          all_goals go_quiet (fail)
          all_goals go_wp2
          all_goals
            go_roundg (prs.length - (j + 1))
            case measure => omega
            case rel => exact ⟨j + 1, by omega, rfl, by go_num, (hb.alloc _).drewN _⟩
        · obtain rfl : j = prs.length := by omega
          have p2' : wr.cell? ⟨w3.heap.size, 2, none⟩ = some (.int .i64 ((endAt rest prs : Int) + 1)) := by rw [hb.cell (p := ⟨w3.heap.size, 2, none⟩) hPlt (by simp)]; simpa using p2
          clear i0 i1 i2 p2
          go_wp2_with fail
          go_ret
          exact ⟨congrArg (fun b => Ending.returned (.bool b)) (beq_iff_eq.2 (by omega)), hfin.out.trans (hb.below (by have := hfin.out.size; omega) (by simp))⟩
end Go.Proofs.YbulkeqoFmt
