/-
  LawS0276BFreeNames, walked.
-/
import Derived.Test.YbulkerqWalkC
import Derived.OwnWalk
namespace Go.Proofs.Ybulkerq
open Go.RowKit

/-- The members: each name with its raw bytes, or none. -/
def msOf : List ByteArray → List ByteArray → List (ByteArray × ByteArray)
  | [], _ => []
  | n :: ns, [] => (n, ⟨#[]⟩) :: msOf ns []
  | n :: ns, r :: rs => (n, r) :: msOf ns rs
theorem msOf_length : ∀ (ns rs : List ByteArray), (msOf ns rs).length = ns.length
  | [], _ => rfl
  | n :: ns, [] => by simp [msOf, msOf_length ns []]
  | n :: ns, r :: rs => by simp [msOf, msOf_length ns rs]
theorem msOf_at : ∀ (ns rs : List ByteArray) (j : Nat) (n : ByteArray), ns[j]? = some n → (msOf ns rs)[j]? = some (n, (rs[j]?).getD ⟨#[]⟩)
  | [], _, j, n, h => by simp at h
  | x :: ns, [], 0, n, h => by simp at h; subst h; simp [msOf]
  | x :: ns, r :: rs, 0, n, h => by simp at h; subst h; simp [msOf]
  | x :: ns, [], j + 1, n, h => by
    simp at h
    have := msOf_at ns [] j n h
    simpa [msOf] using this
  | x :: ns, r :: rs, j + 1, n, h => by
    simp at h
    have := msOf_at ns rs j n h
    simpa [msOf] using this

/-- A slice of strings, as the walk reads it. -/
def Strs (w : World) (a : Option Addr) (ss : List ByteArray) : Prop := ∀ (j : Nat) (s : ByteArray), ss[j]? = some s → ∃ b o, a = some ⟨b, o, none⟩ ∧ w.cell? ⟨b, o + j, none⟩ = some (.string s)

theorem info29 : (Yba.prog.info? 29).map (fun i => (i.zero, i.size, i.bytes)) = some (some (.agg #[.slice none 0 0, .slice none 0 0]), 2, 48) := by kernel_rfl

/-- The row as it is made. -/
theorem mb_start {w : World} {b M n : Nat} {xs : List Value} (h : w.ownsRow b 29 2 (.slice (some ⟨M, 0, none⟩) n n) n xs) : Mb w M n [] := by
  rcases h.2 with ⟨h1, _⟩ | ⟨g, cap, cur, h1, _, hh, _, _, hs, _⟩
  · cases h1
  · cases h1
    exact ⟨⟨cur, hh, hs, fun k q hq => by simp at hq⟩⟩

theorem size_set2 (w : World) (a b : Addr) (x y : Value) : ((w.setCell a x).setCell b y).heap.size = w.heap.size := by simp [World.setCell]

/-- A member is laid: two slices of bytes made, the first then the second, both values stored. -/
theorem mb_two {w w' w1 : World} {M n j : Nat} {ms : List (ByteArray × ByteArray)} {q : ByteArray × ByteArray} {nv rv : Value} {s1 s2 : ByteArray} {c1 c2 : Nat} {f1 f2 : Nat × Nat} (hb1 : But [M] w1 w) (h : Mb w M n ms) (hlj : ms.length = j) (hlt : j < n)
    (hw : w' = ((((w.setCell ⟨M, j * 2, none⟩ nv).setCell ⟨M, j * 2 + 1, none⟩ rv).alloc (.cells (bytesRow s1 c1) 5 f1)).alloc (.cells (bytesRow s2 c2) 5 f2)).drew.drew)
    (hv : (nv = .slice (some ⟨w.heap.size + 1, 0, none⟩) s2.size c2 ∧ rv = .slice (some ⟨w.heap.size, 0, none⟩) s1.size c1 ∧ q = (s2, s1)) ∨ (nv = .slice (some ⟨w.heap.size, 0, none⟩) s1.size c1 ∧ rv = .slice (some ⟨w.heap.size + 1, 0, none⟩) s2.size c2 ∧ q = (s1, s2))) :
    Mb w' M n (ms ++ [q]) ∧ But [M] w1 w' := by
  subst hlj
  have hz := size_set2 w ⟨M, ms.length * 2, none⟩ ⟨M, ms.length * 2 + 1, none⟩ nv rv
  have hb0 := ((But.refl [M] w).set (p := ⟨M, ms.length * 2, none⟩) (by simp) nv).set (p := ⟨M, ms.length * 2 + 1, none⟩) (by simp) rv
  have y1 := by_made ((w.setCell ⟨M, ms.length * 2, none⟩ nv).setCell ⟨M, ms.length * 2 + 1, none⟩ rv) s1 c1 f1
  have y2 := by_made (((w.setCell ⟨M, ms.length * 2, none⟩ nv).setCell ⟨M, ms.length * 2 + 1, none⟩ rv).alloc (.cells (bytesRow s1 c1) 5 f1)) s2 c2 f2
  have hz2 : (((w.setCell ⟨M, ms.length * 2, none⟩ nv).setCell ⟨M, ms.length * 2 + 1, none⟩ rv).alloc (.cells (bytesRow s1 c1) 5 f1)).heap.size = w.heap.size + 1 := by rw [World.size_alloc, hz]
  rw [hz] at y1
  rw [hz2] at y2
  have z1 : By w' (.slice (some ⟨w.heap.size, 0, none⟩) s1.size c1) s1 := by
    rw [hw]
    exact y1.but (((But.refl [] _).alloc (.cells (bytesRow s2 c2) 5 f2)).drew).drew (by simp)
  have z2 : By w' (.slice (some ⟨w.heap.size + 1, 0, none⟩) s2.size c2) s2 := by
    rw [hw]
    exact y2.but ((But.refl [] _).drew).drew (by simp)
  have hb : But [M] w w' := by rw [hw]; exact (((hb0.alloc _).alloc _).drew).drew
  have hM : ∀ cur, w.heap[M]? = some (.cells cur 29 (0, 0)) → w'.heap[M]? = some (.cells ((cur.setIfInBounds (ms.length * 2) nv).setIfInBounds (ms.length * 2 + 1) rv) 29 (0, 0)) := fun cur hc => by
    rw [hw]; exact blk_drew (blk_drew (blk_alloc (blk_alloc (blk_set (blk_set hc nv) rv) _) _))
  refine ⟨?_, hb1.trans hb⟩
  rcases hv with ⟨rfl, rfl, rfl⟩ | ⟨rfl, rfl, rfl⟩
  · exact h.step hlt hb z2 z1 hM
  · exact h.step hlt hb z1 z2 hM

/-- .. where there are no raw bytes. -/
theorem mb_one {w w' w1 : World} {M n j : Nat} {ms : List (ByteArray × ByteArray)} {s1 : ByteArray} {c1 : Nat} {f1 : Nat × Nat} (hb1 : But [M] w1 w) (h : Mb w M n ms) (hlj : ms.length = j) (hlt : j < n)
    (hw : w' = (((w.setCell ⟨M, j * 2, none⟩ (.slice (some ⟨w.heap.size, 0, none⟩) s1.size c1)).setCell ⟨M, j * 2 + 1, none⟩ (.slice none 0 0)).alloc (.cells (bytesRow s1 c1) 5 f1)).drew) :
    Mb w' M n (ms ++ [(s1, ⟨#[]⟩)]) ∧ But [M] w1 w' := by
  subst hlj
  have hz := size_set2 w ⟨M, ms.length * 2, none⟩ ⟨M, ms.length * 2 + 1, none⟩ (.slice (some ⟨w.heap.size, 0, none⟩) s1.size c1) (.slice none 0 0)
  have hb0 := ((But.refl [M] w).set (p := ⟨M, ms.length * 2, none⟩) (by simp) (.slice (some ⟨w.heap.size, 0, none⟩) s1.size c1)).set (p := ⟨M, ms.length * 2 + 1, none⟩) (by simp) (.slice none 0 0)
  have y1 := by_made ((w.setCell ⟨M, ms.length * 2, none⟩ (.slice (some ⟨w.heap.size, 0, none⟩) s1.size c1)).setCell ⟨M, ms.length * 2 + 1, none⟩ (.slice none 0 0)) s1 c1 f1
  rw [hz] at y1
  have z1 : By w' (.slice (some ⟨w.heap.size, 0, none⟩) s1.size c1) s1 := by
    rw [hw]
    exact y1.but (But.refl [] _).drew (by simp)
  have hb : But [M] w w' := by rw [hw]; exact (hb0.alloc _).drew
  refine ⟨h.step hlt hb z1 (by_nil w') (fun cur hc => ?_), hb1.trans hb⟩
  rw [hw]; exact blk_drew (blk_alloc (blk_set (blk_set hc _) _) _)

theorem take_snoc {ms : List (ByteArray × ByteArray)} {j : Nat} {q : ByteArray × ByteArray} (h : ms[j]? = some q) : ms.take (j + 1) = ms.take j ++ [q] := by
  obtain ⟨hlt, e⟩ := List.getElem?_eq_some_iff.1 h
  rw [List.take_succ_eq_append_getElem hlt, e]

set_option maxRecDepth 100000 in
set_option maxHeartbeats 800000 in
theorem free_walk (w : World) (na ra : Option Addr) (nc rc : Nat) (ns rs : List ByteArray) (nm : ByteArray) (hN : Strs w na ns) (hR : Strs w ra rs) (hl : ns.length ≤ 1024) :
    Calls Yba.prog 4 #[.slice na ns.length nc, .slice ra rs.length rc, .string nm] w fun e w' => e = .returned (.bool true) ∧ Below w.heap.size w w' := by
  obtain ⟨i29, hi, hz0, hz1, hz2⟩ := info_parts info29
  have hl' : ¬ (1024 : Int) < (ns.length : Int) := by omega
  go_enter Yba.func4, Yba.ntmps4
  go_wp2_with (at_make; refine wpList_make_full _ rfl _ _ 23 rfl w.heap.size 29 i29 (.agg #[.slice none 0 0, .slice none 0 0]) 2 Yba.underlying23 hi hz0 hz1 _ _ _ _ ns.length rfl rfl rfl rfl (by rw [hz2]; omega) (by unfold maxLen; omega) (Nat.le_refl _) ?_; intro w1 hown1 hgrow1)
  have hmb1 := mb_start hown1
  have hM1 : w.heap.size < w1.heap.size := by obtain ⟨cur, hc, _⟩ := hmb1.row; exact blk_lt hc
  have hB1 : Below w.heap.size w w1 := (Below.refl w.heap.size w).grown hgrow1 (Nat.le_refl _) (fun k e => by cases e)
  have hcv := fun (wx : World) (s : ByteArray) => run_bytes_of_string (P := Yba.prog) wx 9 24 5 s Yba.underlying9 Yba.underlying24 Yba.underlying5
  clear hown1 hgrow1
  go_loopg [8] ns.length (fun k s8 wr => ∃ j : Nat, j ≤ ns.length ∧ k = ns.length - j ∧ s8 = .int .i64 (j : Int) ∧ Mb wr w.heap.size ns.length ((msOf ns rs).take j) ∧ But [w.heap.size] w1 wr)
  case atStart => exact ⟨0, Nat.zero_le _, rfl, rfl, hmb1, But.refl _ _⟩
  case round =>
    clear hmb1
    obtain ⟨j, hj, rfl, rfl, hmb, hb⟩ := hrel
    by_cases hlt : j < ns.length
    · obtain ⟨n, hn⟩ : ∃ n, ns[j]? = some n := ⟨_, List.getElem?_eq_getElem hlt⟩
      obtain ⟨b, o, rfl, hc0⟩ := hN j n hn
      have hbw : b < w.heap.size := World.block_lt_of_cell? _ _ hc0
      have hW : Below w.heap.size w wr := hB1.trans (hb.below (by omega) (by simp))
      have hc : wr.cell? ⟨b, o + j, none⟩ = some (.string n) := (hW.cell (by exact hbw)).trans hc0
      have hca : ∀ x, (wr.alloc x).cell? ⟨b, o + j, none⟩ = some (.string n) := fun x => by rw [World.cell?_alloc_past _ _ _ (by show b < wr.heap.size; have := hW.size; omega)]; exact hc
      obtain ⟨⟨x0, m0⟩, ⟨x1, m1⟩, mf, mlt⟩ := hmb.there hlt
      have hltz : (j : Int) < (ns.length : Int) := by omega
      by_cases hr : j < rs.length
      · obtain ⟨r, hrr⟩ : ∃ r, rs[j]? = some r := ⟨_, List.getElem?_eq_getElem hr⟩
        obtain ⟨b2, o2, rfl, hc2⟩ := hR j r hrr
        have hb2w : b2 < w.heap.size := World.block_lt_of_cell? _ _ hc2
        have hcr : wr.cell? ⟨b2, o2 + j, none⟩ = some (.string r) := (hW.cell (by exact hb2w)).trans hc2
        have hrz : (j : Int) < (rs.length : Int) := by omega
        have hq : (msOf ns rs)[j]? = some (n, r) := by rw [msOf_at ns rs j n hn, hrr]; rfl
        have HQ : Hid _ := hq
        have HMB : Hid (Mb wr w.heap.size ns.length ((msOf ns rs).take j)) := hmb
        clear hc0 hc2 hN hR hn hrr hq hmb
        go_wp2
        have hlen : ((msOf ns rs).take j).length = j := by rw [List.length_take, msOf_length]; omega
        go_roundg (ns.length - (j + 1))
        case measure => omega
        case rel =>
          refine ⟨j + 1, by omega, rfl, by go_num, ?_⟩
          rw [take_snoc HQ.out]
          exact mb_two hb HMB.out hlen hlt rfl (Or.inl ⟨rfl, rfl, rfl⟩)
      · have hrz : ¬ (j : Int) < (rs.length : Int) := by omega
        have hq : (msOf ns rs)[j]? = some (n, ⟨#[]⟩) := by rw [msOf_at ns rs j n hn, List.getElem?_eq_none (by omega)]; rfl
        have HQ : Hid _ := hq
        have HMB : Hid (Mb wr w.heap.size ns.length ((msOf ns rs).take j)) := hmb
        clear hc0 hN hR hn hq hmb
        go_wp2
        have hlen : ((msOf ns rs).take j).length = j := by rw [List.length_take, msOf_length]; omega
        go_roundg (ns.length - (j + 1))
        case measure => omega
        case rel =>
          refine ⟨j + 1, by omega, rfl, by go_num, ?_⟩
          rw [take_snoc HQ.out]
          exact mb_one hb HMB.out hlen hlt rfl
    · obtain rfl : j = ns.length := by omega
      rw [← msOf_length ns rs, List.take_length] at hmb
      have hW : Below w.heap.size w wr := hB1.trans (hb.below (by omega) (by simp))
      have hck := check_any wr w.heap.size (msOf ns rs) nm hmb (by rw [msOf_length]; exact hl)
      rw [msOf_length] at hck
      have HC : Hid (Calls Yba.prog 6 _ _ _) := hck
      clear hck hmb
      go_wp2_with fail
      refine HC.out.mono ?_
      rintro e w2 ⟨rfl, hb2⟩
      go_wp2
      go_ret
      exact ⟨rfl, hW.trans (hb2.below hW.size (by simp))⟩
theorem free_early (w : World) (na ra : Option Addr) (nl nc rl rc : Nat) (nm : ByteArray) (h : 1024 < nl) :
    Calls Yba.prog 4 #[.slice na nl nc, .slice ra rl rc, .string nm] w fun e w' => e = .returned (.bool true) ∧ w' = w := by
  have h' : (1024 : Int) < (nl : Int) := by omega
  go_enter Yba.func4, Yba.ntmps4
  go_wp2
  go_ret
  exact ⟨rfl, rfl⟩
end Go.Proofs.Ybulkerq
