/-
  LawS0276BLastOfName, walked.
-/
import Derived.Test.YbulkerqWalkF
import Derived.Deep.RegionWith
import Derived.Deep.RegionHeld
namespace Go.Proofs.Ybulkerq
open Go.RowKit

/-- zzs0276bname. -/
def nameOf (k : Int) : ByteArray := if k % 4 = 0 then ⟨#[]⟩ else if k % 4 = 1 then ⟨#[97]⟩ else if k % 4 = 2 then ⟨#[98]⟩ else ⟨#[97, 98]⟩

theorem name_any (k : Int) (h0 : 0 ≤ k) (h1 : k ≤ 255) (w : World) : Calls Yba.prog 5 #[.int .u8 k] w fun e w' => e = .returned (.string (nameOf k)) ∧ w' = w := by
  rcases (show k % 4 = 0 ∨ k % 4 = 1 ∨ k % 4 = 2 ∨ k % 4 = 3 from by omega) with h | h | h | h
  all_goals
    go_enter Yba.func5, Yba.ntmps5
    go_wp2
    go_ret
    exact ⟨by simp [nameOf, h], rfl⟩

/-- A slice of items, as the walk reads it. -/
def Its (w : World) (a : Option Addr) (its : List (Int × ByteArray)) : Prop := ∀ (j : Nat) (q : Int × ByteArray), its[j]? = some q → ∃ b o, a = some ⟨b, o, none⟩ ∧ w.cell? ⟨b, o + j * 2, none⟩ = some (.int .u8 q.1) ∧ w.cell? ⟨b, o + j * 2 + 1, none⟩ = some (.string q.2) ∧ 0 ≤ q.1 ∧ q.1 ≤ 255

def msL (its : List (Int × ByteArray)) : List (ByteArray × ByteArray) := its.map fun q => (nameOf q.1, q.2)

theorem mb_two3 {w w' w1 : World} {M n j : Nat} {ms : List (ByteArray × ByteArray)} {q : ByteArray × ByteArray} {nv rv : Value} {s1 s2 : ByteArray} {c1 c2 : Nat} {f1 f2 : Nat × Nat} (hb1 : But [M] w1 w) (h : Mb w M n ms) (hlj : ms.length = j) (hlt : j < n)
    (hw : w' = ((((w.setCell ⟨M, j * 2, none⟩ nv).setCell ⟨M, j * 2 + 1, none⟩ rv).alloc (.cells (bytesRow s1 c1) 5 f1)).alloc (.cells (bytesRow s2 c2) 5 f2)).drew.drew.drew)
    (hv : (nv = .slice (some ⟨w.heap.size + 1, 0, none⟩) s2.size c2 ∧ rv = .slice (some ⟨w.heap.size, 0, none⟩) s1.size c1 ∧ q = (s2, s1)) ∨ (nv = .slice (some ⟨w.heap.size, 0, none⟩) s1.size c1 ∧ rv = .slice (some ⟨w.heap.size + 1, 0, none⟩) s2.size c2 ∧ q = (s1, s2))) :
    Mb w' M n (ms ++ [q]) ∧ But [M] w1 w' := by
  obtain ⟨a, b⟩ := mb_two hb1 h hlj hlt rfl hv (f1 := f1) (f2 := f2)
  subst hw
  exact ⟨⟨a.row⟩, b.drew⟩

set_option maxRecDepth 100000 in
set_option maxHeartbeats 800000 in
theorem last_walk (w : World) (ia : Option Addr) (ic : Nat) (its : List (Int × ByteArray)) (qy : Int) (hq0 : 0 ≤ qy) (hq1 : qy ≤ 255) (hI : Its w ia its) (hl : its.length ≤ 1024) :
    Calls Yba.prog 3 #[.slice ia its.length ic, .int .u8 qy] w fun e w' => e = .returned (.bool true) ∧ Below w.heap.size w w' := by
  obtain ⟨i29, hi, hz0, hz1, hz2⟩ := info_parts info29
  have hl' : ¬ (1024 : Int) < (its.length : Int) := by omega
  go_enter Yba.func3, Yba.ntmps3
  go_wp2_with (at_make; refine wpList_make_full _ rfl _ _ 23 rfl w.heap.size 29 i29 (.agg #[.slice none 0 0, .slice none 0 0]) 2 Yba.underlying23 hi hz0 hz1 _ _ _ _ its.length rfl rfl rfl rfl (by rw [hz2]; omega) (by unfold maxLen; omega) (Nat.le_refl _) ?_; intro w1 hown1 hgrow1)
  have hmb1 := mb_start hown1
  have hM1 : w.heap.size < w1.heap.size := by obtain ⟨cur, hc, _⟩ := hmb1.row; exact blk_lt hc
  have hB1 : Below w.heap.size w w1 := (Below.refl w.heap.size w).grown hgrow1 (Nat.le_refl _) (fun k e => by cases e)
  have hcv := fun (wx : World) (s : ByteArray) => run_bytes_of_string (P := Yba.prog) wx 9 24 5 s Yba.underlying9 Yba.underlying24 Yba.underlying5
  clear hown1 hgrow1
  go_loopg [6] its.length (fun k s6 wr => ∃ j : Nat, j ≤ its.length ∧ k = its.length - j ∧ s6 = .int .i64 (j : Int) ∧ Mb wr w.heap.size its.length ((msL its).take j) ∧ But [w.heap.size] w1 wr)
  case atStart => exact ⟨0, Nat.zero_le _, rfl, rfl, hmb1, But.refl _ _⟩
  case round =>
    clear hmb1
    obtain ⟨j, hj, rfl, rfl, hmb, hb⟩ := hrel
    by_cases hlt : j < its.length
    · obtain ⟨q, hn⟩ : ∃ q, its[j]? = some q := ⟨_, List.getElem?_eq_getElem hlt⟩
      obtain ⟨b, o, rfl, hc0, hc1, k0, k1⟩ := hI j q hn
      obtain ⟨k, s⟩ := q
      simp only at hc0 hc1 k0 k1
      have hbw : b < w.heap.size := World.block_lt_of_cell? _ _ hc0
      have hW : Below w.heap.size w wr := hB1.trans (hb.below (by omega) (by simp))
      have hc : wr.cell? ⟨b, o + j * 2, none⟩ = some (.int .u8 k) := (hW.cell (by exact hbw)).trans hc0
      have hd : wr.cell? ⟨b, o + j * 2 + 1, none⟩ = some (.string s) := (hW.cell (by exact hbw)).trans hc1
      obtain ⟨⟨x0, m0⟩, ⟨x1, m1⟩, mf, mlt⟩ := hmb.there hlt
      have hltz : (j : Int) < (its.length : Int) := by omega
      have hne : ¬ b = w.heap.size := by omega
      have hne2 : ¬ w.heap.size = b := by omega
      have hbr : b < wr.heap.size := by omega
      have hbr1 : b < wr.heap.size + 1 := by omega
      have hq : (msL its)[j]? = some (nameOf k, s) := by simp [msL, hn]
      have HQ : Hid _ := hq
      have HMB : Hid (Mb wr w.heap.size its.length ((msL its).take j)) := hmb
      clear hc0 hc1 hI hn hq hmb
      go_wp2_with fail
      go_region_held (fun w' => w'.cell? ⟨b, o + j * 2, none⟩ = some (.int .u8 k) ∧ w'.cell? ⟨b, o + j * 2 + 1, none⟩ = some (.string s)) (simp [go_sem, World.cell?_alloc_past, *]) (first
        | (go_at_call 5; refine (name_any k k0 k1 _).mono ?_; rintro e w' ⟨rfl, rfl⟩))
      all_goals go_wp2
      all_goals
        have hlen : ((msL its).take j).length = j := by rw [List.length_take, msL, List.length_map]; omega
        go_roundg (its.length - (j + 1))
        case measure => omega
        case rel =>
          refine ⟨j + 1, by omega, rfl, by go_num, ?_⟩
          rw [take_snoc HQ.out]
          first
            | exact mb_two3 hb HMB.out hlen hlt rfl (Or.inl ⟨rfl, rfl, rfl⟩)
            | exact mb_two3 hb HMB.out hlen hlt rfl (Or.inr ⟨rfl, rfl, rfl⟩)
            | exact mb_two hb HMB.out hlen hlt rfl (Or.inl ⟨rfl, rfl, rfl⟩)
            | exact mb_two hb HMB.out hlen hlt rfl (Or.inr ⟨rfl, rfl, rfl⟩)
    · obtain rfl : j = its.length := by omega
      have hml : (msL its).length = its.length := by rw [msL, List.length_map]
      rw [← hml, List.take_length] at hmb
      have hW : Below w.heap.size w wr := hB1.trans (hb.below (by omega) (by simp))
      have hck := check_any wr w.heap.size (msL its) (nameOf qy) hmb (by rw [hml]; exact hl)
      rw [hml] at hck
      have HC : Hid (Calls Yba.prog 6 _ _ _) := hck
      clear hck hmb
      go_wp2_with fail
      refine (name_any qy hq0 hq1 _).mono ?_
      rintro e w2 ⟨rfl, rfl⟩
      go_wp2_with fail
      refine HC.out.mono ?_
      rintro e w2 ⟨rfl, hb2⟩
      go_wp2
      go_ret
      exact ⟨rfl, hW.trans (hb2.below hW.size (by simp))⟩
theorem last_early (w : World) (ia : Option Addr) (il ic : Nat) (qy : Int) (h : 1024 < il) :
    Calls Yba.prog 3 #[.slice ia il ic, .int .u8 qy] w fun e w' => e = .returned (.bool true) ∧ w' = w := by
  have h' : (1024 : Int) < (il : Int) := by omega
  go_enter Yba.func3, Yba.ntmps3
  go_wp2
  go_ret
  exact ⟨rfl, rfl⟩
end Go.Proofs.Ybulkerq
