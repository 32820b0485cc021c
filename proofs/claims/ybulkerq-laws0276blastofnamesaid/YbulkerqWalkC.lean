/-
  lookup and zzs0276bcheck, walked.
-/
import Derived.Test.YbulkerqBase
import Derived.WalkLawsBesides
import Derived.WalkSpells
import Derived.RegionTactic
import Derived.BigQuiet
import Derived.Deep.QuietTactic
import Derived.Deep.LoopGhost
import Derived.LaidEqlPtr
namespace Go.Proofs.Ybulkerq
open Go.RowKit

/-- The test of one name. -/
def hit (ms : List (ByteArray × ByteArray)) (nm : ByteArray) (i : Nat) : Bool := ((ms[i]?).getD (⟨#[]⟩, ⟨#[]⟩)).1.toList == nm.toList

theorem last_succ (ms : List (ByteArray × ByteArray)) (nm : ByteArray) (i : Nat) : lastUpTo ms nm (i + 1) = if hit ms nm i = true then (i : Int) else lastUpTo ms nm i := rfl

theorem hit_at {ms : List (ByteArray × ByteArray)} {nm : ByteArray} {i : Nat} {q : ByteArray × ByteArray} (h : ms[i]? = some q) : (q.1.toList == nm.toList) = hit ms nm i := by simp [hit, h]

set_option maxHeartbeats 400000 in
theorem lookup_any (w : World) (M : Nat) (ms : List (ByteArray × ByteArray)) (nm : ByteArray) (h : Mb w M ms.length ms) (hl : ms.length ≤ 1024) :
    Calls Yba.prog 7 #[.slice (some ⟨M, 0, none⟩) ms.length ms.length, .string nm] w fun e w' => w' = w ∧
      ((lastUpTo ms nm ms.length = -1 ∧ e = .returned (.tuple #[.slice none 0 0, .bool false])) ∨ ∃ (i : Nat) (q : ByteArray × ByteArray) (rv : Value), lastUpTo ms nm ms.length = i ∧ ms[i]? = some q ∧ w.cell? ⟨M, i * 2 + 1, none⟩ = some rv ∧ By w rv q.2 ∧ e = .returned (.tuple #[rv, .bool true])) := by
  go_enter Yba.func7, Yba.ntmps7
  go_wp2_with fail
  go_loopg [6] ms.length (fun k s6 wr => ∃ i : Nat, i ≤ ms.length ∧ k = i ∧ s6 = .int .i64 ((i : Int) - 1) ∧ wr = w ∧ (∀ t, i ≤ t → t < ms.length → hit ms nm t = false))
  case atStart => exact ⟨ms.length, Nat.le_refl _, rfl, rfl, rfl, fun t h1 h2 => by omega⟩
  case round =>
    obtain ⟨i, hi, rfl, rfl, rfl, hno⟩ := hrel
    have HNO : Hid (∀ t, gk ≤ t → t < ms.length → hit ms nm t = false) := hno
    clear hno
    match gk, hi, HNO with
    | 0, _, HNO =>
      have hlast := last_keeps ms nm 0 ms.length (fun k _ h2 => HNO.out k (Nat.zero_le _) (by omega))
      rw [Nat.zero_add] at hlast
      have HL : Hid (lastUpTo ms nm ms.length = -1) := hlast
      clear hlast
      go_wp2
      go_ret2
      exact ⟨rfl, Or.inl ⟨HL.out, rfl⟩⟩
    | i + 1, hi, HNO =>
      have hlt : i < ms.length := by omega
      obtain ⟨q, hq⟩ : ∃ q, ms[i]? = some q := ⟨_, List.getElem?_eq_getElem hlt⟩
      obtain ⟨nv, rv, c1, c2, b1, b2⟩ := h.at hq
      have hcv := b1.conv
      have hh := hit_at (nm := nm) hq
      rw [show ((i + 1 : Nat) : Int) - 1 = (i : Int) from by omega]
      have hltz : (i : Int) < (ms.length : Int) := by omega
      have hB2 : Hid (By wr rv q.2) := b2
      clear b1 b2
      cases hb : hit ms nm i
      · rw [hb] at hh
        go_wp2
        go_roundg i
        case measure => omega
        case rel =>
          refine ⟨i, by omega, rfl, rfl, rfl, fun t h1 h2 => ?_⟩
          by_cases e : t = i
          · rw [e]; exact hb
          · exact HNO.out t (by omega) h2
      · rw [hb] at hh
        have hlast := last_keeps ms nm (i + 1) (ms.length - (i + 1)) (fun k h1 h2 => HNO.out k h1 (by omega))
        rw [show i + 1 + (ms.length - (i + 1)) = ms.length from by omega, last_succ, hb] at hlast
        have HL : Hid (lastUpTo ms nm ms.length = i) := hlast
        clear hlast hb
        go_wp2
        go_ret2
        exact ⟨rfl, Or.inr ⟨i, q, rv, HL.out, hq, c2, hB2.out, rfl⟩⟩
theorem nil_eql (w : World) : (binOp .eql 24 (.slice none 0 0) (.slice none 0 0)).run Yba.prog w = .ok (.bool true) w := by kernel_rfl
theorem info5 : (Yba.prog.info? 5).map (fun i => (i.zero, i.size, i.bytes)) = some (some (.int .u8 0), 1, 1) := by kernel_rfl
theorem ptr_neq (a : Addr) (w : World) : (binOp .neq 36 (.pointer (some a)) (.pointer (some a))).run Yba.prog w = .ok (.bool false) w := by
  obtain ⟨j, hj, _⟩ := info_parts info5
  have h : ∀ d : Nat, (Op.equalIn (d + 1) 36 (.pointer (some a)) (.pointer (some a))).run Yba.prog w = .ok true w := fun d => by
    simp [Op.equalIn, run_underlying Yba.underlying36, sizeOf, typeInfo, hj, run_sameAddr_same]
  simp only [binOp]
  simp [Op.equal, Op.maxDepth, h 9999]
theorem But.drewN {m : List Nat} {a w : World} (h : But m a w) (n : Nat) : But m a (w.drewN n) := ⟨h.os, h.tape, h.output, h.size, h.block⟩

set_option maxHeartbeats 800000 in
theorem check_any (w : World) (M : Nat) (ms : List (ByteArray × ByteArray)) (nm : ByteArray) (h : Mb w M ms.length ms) (hl : ms.length ≤ 1024) :
    Calls Yba.prog 6 #[.slice (some ⟨M, 0, none⟩) ms.length ms.length, .string nm] w fun e w' => e = .returned (.bool true) ∧ But [] w w' := by
  go_enter Yba.func6, Yba.ntmps6
  go_wp2_with fail
  go_loopg [5, 6] ms.length (fun k s5 s6 wr => ∃ i : Nat, i ≤ ms.length ∧ k = ms.length - i ∧ s6 = .int .i64 (i : Int) ∧ s5 = .int .i64 (lastUpTo ms nm i) ∧ wr = w)
  case atStart => exact ⟨0, Nat.zero_le _, rfl, rfl, rfl, rfl⟩
  case round =>
    obtain ⟨i, hi, rfl, rfl, rfl, rfl⟩ := hrel
    by_cases hlt : i < ms.length
    · obtain ⟨q, hq⟩ : ∃ q, ms[i]? = some q := ⟨_, List.getElem?_eq_getElem hlt⟩
      obtain ⟨nv, rv, c1, c2, b1, b2⟩ := h.at hq
      have hcv := b1.conv
      have hh := hit_at (nm := nm) hq
      have hs := last_succ ms nm i
      have hltz : (i : Int) < (ms.length : Int) := by omega
      have HS : Hid _ := hs
      clear b1 b2 hq hs c2
      cases hb : hit ms nm i
      · rw [hb] at hh
        have HB : Hid _ := hb
        clear hb
        go_wp2
        go_roundg (ms.length - (i + 1))
        case measure => omega
        case rel => exact ⟨i + 1, by omega, rfl, by go_num, by rw [HS.out, HB.out]; rfl, rfl⟩
      · rw [hb] at hh
        have HB : Hid _ := hb
        clear hb
        go_wp2
        go_roundg (ms.length - (i + 1))
        case measure => omega
        case rel => exact ⟨i + 1, by omega, rfl, by go_num, by rw [HS.out, HB.out]; rfl, rfl⟩
    · obtain rfl : i = ms.length := by omega
      go_wp2_with fail
      refine (lookup_any _ M ms nm h hl).mono ?_
      rintro e w1 ⟨rfl, ⟨hm, rfl⟩ | ⟨i, q, rv, hm, hq, hc, hby, rfl⟩⟩
      · rw [hm]
        clear hm
        have hne := nil_eql
        go_wp2
        go_ret
        exact ⟨rfl, But.refl [] _⟩
      · rw [hm]
        have hcv := hby.conv
        have hilt : i < ms.length := (List.getElem?_eq_some_iff.1 hq).1
        have hltz : (i : Int) < (ms.length : Int) := by omega
        obtain ⟨ao, cap, hrv, hcs⟩ := hby
        rw [hrv] at hcv hc ⊢
        clear hm hrv
        have hpn := ptr_neq
        obtain ⟨q1, q2⟩ := q
        simp only at hcs hcv hc ⊢
        have hcs2 : q2.size ≠ 0 → ∃ b, ao = some ⟨b, 0, none⟩ := fun hn => by obtain ⟨b, _, _, e, _⟩ := hcs hn; exact ⟨b, e⟩
        clear hcs
        generalize q2.size = sz at hcs2 hcv hc ⊢
        by_cases hz : sz = 0
        · subst hz
          clear hcs2
          go_wp2_with fail
          go_region
          go_wp2
          go_ret
          exact ⟨rfl, (But.refl [] _).drew⟩
        · obtain ⟨b, rfl⟩ := hcs2 hz
          obtain ⟨k, rfl⟩ : ∃ k, sz = k + 1 := ⟨sz - 1, by omega⟩
          clear hcs2 hz
          go_wp2_with fail
          go_region
          go_wp2
          go_ret
          exact ⟨rfl, (But.refl [] _).drew⟩
end Go.Proofs.Ybulkerq
