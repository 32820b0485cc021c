/-
  The law where no fault is handed in.
-/
import Derived.Test.YbulkerqFmtBase
import Derived.Deep.RegionHeld
namespace Go.Proofs.YbulkerqFmt
open Go.RowKit Go.Lib

set_option maxRecDepth 100000 in
theorem law_early (w : World) (ka fa : Option Addr) (kl kc fl fc : Nat) (hf : Bool) (hl : 1024 < kl) :
    Calls Ybaf.prog 3 #[.slice ka kl kc, .slice fa fl fc, .bool hf] w fun e w' => e = .returned (.bool true) ∧ w' = w := by
  have h : (1024 : Int) < (kl : Int) := by omega
  go_enter Ybaf.func3, Ybaf.ntmps3
  go_wp2
  go_ret
  exact ⟨rfl, rfl⟩

set_option maxRecDepth 100000 in
set_option maxHeartbeats 2000000 in
theorem law_n (w : World) (ka fa : Option Addr) (kc fl fc : Nat) (L : List Int) (hK : U8s w ka L) (hl : L.length ≤ 1024) :
    Calls Ybaf.prog 3 #[.slice ka L.length kc, .slice fa fl fc, .bool false] w fun e w' => e = .returned (.bool true) ∧ But [] w w' := by
  obtain ⟨i32, hi32, hp32⟩ := Option.map_eq_some_iff.1 info32z
  obtain ⟨i32', hi32', hs32⟩ := Option.map_eq_some_iff.1 info32s
  rw [hi32] at hi32'
  cases hi32'
  obtain ⟨z0, z1⟩ := Option.isSome_iff_exists.1 hs32
  have z2 : i32.size = 9 := congrArg Prod.fst hp32
  have z3 : i32.bytes = 104 := congrArg Prod.snd hp32
  have hl' : ¬ (1024 : Int) < (L.length : Int) := by omega
  have HKS : Hid (U8s w ka L) := hK
  generalize hN : L.length = n at *
  clear hK hp32 hs32
  go_enter Ybaf.func3, Ybaf.ntmps3
  go_wp2_with (at_make; refine wpList_make_n rfl _ _ 24 rfl 32 i32 z0 9 Ybaf.underlying24 hi32 z1 z2 .i64 .i64 n rfl rfl (by rw [z3]; omega) hl ?_; intro w1 e1; have HL1 : Hid (Fl w.heap.size n 0 (kz L) w1) := (by rw [e1]; exact Fl.start n _ _ w); have HB1 : Hid (But [w.heap.size] w w1) := (by rw [e1]; exact (But.refl _ w).alloc _); clear e1)
  go_loopg [9] n (fun k s9 wr => ∃ i : Nat, i ≤ n ∧ k = n - i ∧ s9 = .int .i64 (i : Int) ∧ Fl w.heap.size n i (kz L) wr ∧ But [w.heap.size] w wr)
  case atStart => exact ⟨0, Nat.zero_le _, rfl, rfl, HL1.out, HB1.out⟩
  case round =>
    obtain ⟨i, hin, rfl, rfl, hr, hbt⟩ := hrel
    clear HL1 HB1
    by_cases hlt : i < n
    · have hz : (i : Int) < (n : Int) := by omega
      obtain ⟨x, hx⟩ : ∃ x, L[i]? = some x := ⟨_, List.getElem?_eq_getElem (by omega)⟩
      obtain ⟨b, o, rfl, hc, x0, x1⟩ := HKS.out i x hx
      have hbw : b < w.heap.size := World.block_lt_of_cell? _ _ hc
      rw [← hbt.cell hbw (by simp; omega)] at hc
      have HC : Hid (Calls Ybaf.prog 4 _ wr _) := key_any x x0 x1 wr
      have HKZ : Hid (kt (kz L i) = kt (x % 4).toNat) := by show kt (kz L i) = _; unfold kz; rw [List.getD_eq_getElem?_getD, hx]; rfl
      have HR : Hid (Fl w.heap.size n i (kz L) wr) := hr
      have HB : Hid (But [w.heap.size] w wr) := hbt
      have HT : Hid ((wr.alloc TB).there w.heap.size (i * 9) 9) := (hr.on (m := []) ((But.refl _ wr).alloc TB) (by simp)).there hlt
      generalize kt (x % 4).toNat = key at *
      clear hr hbt
      go_wp2_with fail
      refine HC.out.mono ?_
      rintro e w2 ⟨rfl, rfl⟩
      go_wp2_with (refine wpList_store_n rfl 32 (.tmp 39) (.tmp 38) rfl w.heap.size (i * 9) (FL key) rfl rfl HT.out info32n (FL_one key) ?_; intro w3 e3; obtain ⟨hl3, hb3⟩ := after_flag HR.out HB.out hlt HKZ.out e3; have HL3 : Hid (Fl w.heap.size n (i + 1) (kz L) w3) := hl3; have HB3 : Hid (But [w.heap.size] w w3) := hb3; clear e3 hl3 hb3)
      go_roundg (n - (i + 1))
      case measure => omega
      case rel => exact ⟨i + 1, by omega, rfl, by go_num, HL3.out, HB3.out⟩
    · have hz : ¬ (i : Int) < (n : Int) := by omega
      have hieq : i = n := by omega
      have HL : Hid (Fl w.heap.size n n (kz L) wr) := by rw [hieq] at hr; exact hr
      have HB : Hid (But [] w wr) := hbt.cut (Nat.le_refl _)
      have HC := fun v w => firstFault_nil v w
      clear hr hbt hieq
      go_wp2_with (go_at_call 6; refine (HC _ _).mono ?_; rintro e w2 ⟨rfl, rfl⟩)
      clear HC
      go_loopg [13] n (fun k s13 wy => ∃ i : Nat, i ≤ n ∧ k = n - i ∧ s13 = .int .i64 (i : Int) ∧ Fl w.heap.size n n (kz L) wy ∧ But [] w wy)
      case atStart => exact ⟨0, Nat.zero_le _, rfl, rfl, HL.out, HB.out⟩
      case round =>
        obtain ⟨i, hin, rfl, rfl, hr, hbt⟩ := hrel
        clear HL HB
        by_cases hlt : i < n
        · have hz2 : (i : Int) < (n : Int) := by omega
          obtain ⟨x, hx⟩ : ∃ x, L[i]? = some x := ⟨_, List.getElem?_eq_getElem (by omega)⟩
          obtain ⟨b, o, rfl, hc, x0, x1⟩ := HKS.out i x hx
          have hbw : b < w.heap.size := World.block_lt_of_cell? _ _ hc
          rw [← hbt.cell hbw (by simp)] at hc
          have hbs : b < wr.heap.size := by have := hbt.size; omega
          have hfs : w.heap.size < wr.heap.size := hr.lt
          have hck := hr.cell hlt
          have hkz : kt (kz L i) = kt (x % 4).toNat := by unfold kz; rw [List.getD_eq_getElem?_getD, hx]; rfl
          rw [hkz] at hck
          have HC : Hid (∀ w, Calls Ybaf.prog 4 #[.int .u8 x] w _) := fun w => key_any x x0 x1 w
          have HR : Hid (Fl w.heap.size n n (kz L) wr) := hr
          have HB : Hid (But [] w wr) := hbt
          generalize kt (x % 4).toNat = key at *
          clear hr hbt hkz
          go_wp2_with fail
          go_region_held (fun w' => w'.cell? ⟨b, o + i, none⟩ = some (.int .u8 x) ∧ w'.cell? ⟨w.heap.size, i * 9, none⟩ = some (.string key)) (simp [go_sem, World.cell?_alloc_past, *]) (first
            | (go_at_call 4; refine (HC.out _).mono ?_; rintro e w3 ⟨rfl, rfl⟩))
          go_wp2
          go_roundg (n - (i + 1))
          case measure => omega
          case rel => exact ⟨i + 1, by omega, rfl, by go_num, HR.out.on (m := []) ((But.refl _ wr).alloc TB).drew (by simp), (HB.out.alloc TB).drew⟩
        · have hz2 : ¬ (i : Int) < (n : Int) := by omega
          have HB : Hid (But [] w wr) := hbt
          clear hr hbt
          go_wp2
          go_ret
          exact ⟨rfl, HB.out⟩
end Go.Proofs.YbulkerqFmt
