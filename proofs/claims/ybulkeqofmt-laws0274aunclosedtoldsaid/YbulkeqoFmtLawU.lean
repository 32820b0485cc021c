/-
  LawS0274AUnclosed, walked.
-/
import Derived.Test.YbulkeqoFmtLawA
namespace Go.Proofs.YbulkeqoFmt
open Go.RowKit

theorem assert_err (a : Addr) (w : World) : (Instr.typeAssert (.iface 52 (.pointer (some a))) 33 52 true).run Ybaf.prog w = .ok (.tuple #[.pointer (some a), .bool true]) w := by kernel_rfl

theorem early_u (w : World) (ta na va : Option Addr) (tl nl vl tc nc vc : Nat) (h : 300 < tl ∨ 300 < nl ∨ 300 < vl) :
    Calls Ybaf.prog 4 #[.slice ta tl tc, .slice na nl nc, .slice va vl vc] w fun e w' => e = .returned (.bool true) ∧ w' = w := by
  by_cases h1 : 300 < tl
  · have h1' : (300 : Int) < (tl : Int) := by omega
    go_enter Ybaf.func4, Ybaf.ntmps4
    go_wp2
    go_ret
    exact ⟨rfl, rfl⟩
  · have h1' : ¬ (300 : Int) < (tl : Int) := by omega
    by_cases h2 : 300 < nl
    · have h2' : (300 : Int) < (nl : Int) := by omega
      go_enter Ybaf.func4, Ybaf.ntmps4
      go_wp2
      go_ret
      exact ⟨rfl, rfl⟩
    · have h2' : ¬ (300 : Int) < (nl : Int) := by omega
      have h3' : (300 : Int) < (vl : Int) := by omega
      go_enter Ybaf.func4, Ybaf.ntmps4
      go_wp2
      go_ret
      exact ⟨rfl, rfl⟩

set_option maxRecDepth 100000 in
set_option maxHeartbeats 800000 in
theorem law_u (F : Stop.Interp) (w : World) (ta na va : Option Addr) (tc nc vc : Nat) (ts ns vs : List ByteArray) (hF : F.answers w.tape) (hT : Strs w ta ts) (hN : Strs w na ns) (hV : Strs w va vs) (l1 : ts.length ≤ 300) (l2 : ns.length ≤ 300) (l3 : vs.length ≤ 300)
    (bm : Nat) (o : Obj) (hglob : w.cell? ⟨0, 0, none⟩ = some (.map (some bm))) (hmap : w.heap[bm]? = some o) (k1 : NoKey bm o ⟨#[44]⟩) (k2 : NoKey bm o ⟨#[125]⟩) (k3 : NoKey bm o ⟨#[]⟩) :
    Calls Ybaf.prog 4 #[.slice ta ts.length tc, .slice na ns.length nc, .slice va vs.length vc] w fun e w' => e = .returned (.bool true) ∧ Below w.heap.size w w' := by
  have h1' : ¬ (300 : Int) < (ts.length : Int) := by omega
  have h2' : ¬ (300 : Int) < (ns.length : Int) := by omega
  have h3' : ¬ (300 : Int) < (vs.length : Int) := by omega
  obtain ⟨prs, hprs⟩ : ∃ prs, prs = ns.zip vs := ⟨_, rfl⟩
  have hzl : prs.length = min ns.length vs.length := by rw [hprs]; exact List.length_zip
  have HZ : Hid _ := hzl
  have HP : Hid _ := hprs
  clear hzl hprs
  go_enter Ybaf.func4, Ybaf.ntmps4
  go_wp2_with fail
  refine (parts_any w ta tc ts hT l1).mono ?_
  rintro e w1 ⟨pb, po, pc, t0, rest, rfl, hrl, hc0, hcs, hb1⟩
  go_wp2_with fail
  refine (n_any w1 na va ns.length vs.length nc vc prs.length HZ.out).mono ?_
  rintro e w2 ⟨rfl, rfl⟩
  have hzc := zip_cells (hN.but hb1) (hV.but hb1)
  rw [← HP.out] at hzc
  go_wp2_with fail
  refine (toks_any w2 pb po pc t0 rest na va ns.length nc vs.length vc prs false hc0 hcs hzc hrl (by have := HZ.out; omega) (by have := HZ.out; omega) (by have := HZ.out; omega) l2 l3).mono ?_
  rintro e w3 ⟨v, rfl, hTk, hB3⟩
  clear hzc
  obtain ⟨hat, hlen⟩ := open_at t0 rest prs
  have hle : endAt rest prs ≤ 3000 := by
    unfold endAt
    have := HZ.out
    split <;> omega
  obtain ⟨z, hzt, hzP, hzB, hv, hst⟩ := st_start hTk hB3 hb1 hglob hmap k1 k2 k3 (by omega)
  have hS := shape z t0 rest prs false hzt
  have hq := hst.at hS.h0
  simp only [Nat.zero_mul, Nat.zero_add] at hq
  obtain ⟨q0, q1, q2, q3, _⟩ := hq
  have hin := inst_walk z _ hst t0 rest prs hS (by rw [hzt]; exact Or.inr hat) (fun w1 w2 err => ∃ eb msg, err = .iface 52 (.pointer (some ⟨eb, 0, none⟩)) ∧ w2.heap[eb]? = some (.cells #[.int .i64 (endAt rest prs : Nat), .string msg] 55 (0, 0)) ∧ But [] w1 w2)
    (fun w1 hs1 hb => (expect_end F z w1 _ 0 hs1 (by rw [hb.tape]; show F.answers w3.tape; rw [hB3.tape, hb1.tape]; exact hF) (by rw [hzt]; exact hat)).mono fun e w2 ⟨eb, msg, he, h1, _, h2⟩ => ⟨_, he, Or.inr ⟨eb, rfl⟩, eb, msg, rfl, h1, h2⟩)
  rw [hv] at hin hst q0 q1 q2 q3 ⊢
  rw [hlen] at hin hst q0 q1 q2 q3 ⊢
  have hgP : z.g < w3.heap.size := by
    have := hst.gP
    obtain ⟨cur, hc, _⟩ := hst.tok
    have h1 := blk_lt hc
    simp at h1
    omega
  rw [hzP] at hin
  have HI : Hid (Calls Ybaf.prog 8 _ _ _) := hin
  have HL : Hid _ := hlen
  have HV : Hid _ := hv
  have HZT : Hid _ := hzt
  have HZP : Hid _ := hzP
  have HZB : Hid _ := hzB
  clear hin hlen hv hzt hzP hzB hat
  go_wp2_with fail
  refine HI.out.mono ?_
  rintro e w4 ⟨I, fs, err, w5, rfl, _, ⟨eb, msg, rfl, hE, hb5⟩, hst5, hin5, _, _, hb45⟩
  have hEc : w4.cell? ⟨eb, 0, none⟩ = some (.int .i64 (endAt rest prs : Nat)) := by rw [blk_cell hE]; rfl
  have hfin : Hid (Below w.heap.size w w4) := by
    have s1 := hb1.size
    have s3 := hB3.size
    have a1 : Below w.heap.size w w2 := hb1.below (Nat.le_refl _) (by simp)
    have a2 : Below w.heap.size w w3 := a1.trans (hB3.mono s1)
    have a3 := a2.alloc (by omega) (.cells #[.string ⟨#[]⟩, .slice (some ⟨z.g, 0, none⟩) (endAt rest prs + 1) z.cap, .int .i64 1, .int .i64 0] 29)
    have a4 := a3.trans (hb45.below (B := w.heap.size) (by simp; omega) (by simp; omega))
    exact a4.trans (hb5.below (by have := hb45.size; simp at this; omega) (by simp))
  clear HI hst5 hin5 hb45 hb5 hE hst q0 q1 q2 q3 hTk hB3
  dsimp only [outOf]
  have hta := assert_err
  go_wp2
  go_ret
  exact ⟨by simp, hfin.out⟩
end Go.Proofs.YbulkeqoFmt
