/-
  The law where faults are handed in.
-/
import Derived.Test.YbulkerqFmtWant
import Derived.Deep.RegionHeld
namespace Go.Proofs.YbulkerqFmt
open Go.RowKit Go.Lib Go.Extern.Stop Go.Stop

theorem FirstOk.on {k0 : Nat → Nat} {n : Nat} {E : Nat → Value} {r : Value} {w w' : World} (h : FirstOk k0 n E r w) (b : But [] w w') : FirstOk k0 n E r w' := by
  rcases h with h | ⟨x, pb, a, h1, h2, h3, h4⟩
  · exact Or.inl h
  · exact Or.inr ⟨x, pb, a, h1, h2, by rw [b.cell (World.block_lt_of_cell? _ _ h3) (by simp)]; exact h3, h4⟩
theorem Fa.flt {ab n : Nat} {E : Nat → Value} {w : World} (h : Fa ab n E w) (i : Nat) : E i = .nilIface ∨ ∃ b s, E i = .iface 41 (.pointer (some ⟨b, 0, none⟩)) ∧ b < w.heap.size ∧ w.cell? ⟨b, 0, none⟩ = some (.string s) := by
  rcases h.val i with e | ⟨b, e, hb⟩
  · exact Or.inl e
  · exact Or.inr ⟨b, faultText, e, blk_lt hb, (blk_cell hb).trans rfl⟩
theorem info35z : (Ybaf.prog.info? 35).map (fun i => (i.zero, i.size, i.bytes)) = some (some .nilIface, 1, 16) := by kernel_rfl
theorem new_any (s : ByteArray) (w : World) : Calls Ybaf.prog 5 #[.string s] w fun e w' => e = .returned (.iface 41 (.pointer (some ⟨w.heap.size, 0, none⟩))) ∧ w' = w.alloc (.cells #[.string s] 43) := by
  go_enter Ybaf.func5, Ybaf.ntmps5
  go_wp2
  go_ret
  exact ⟨rfl, rfl⟩

set_option maxRecDepth 100000 in
set_option maxHeartbeats 4000000 in
theorem law_f (FF : Stop.Interp) (w : World) (ka fa : Option Addr) (kc fc : Nat) (L : List Int) (M : List Bool) (hFF : FF.answers w.tape) (hK : U8s w ka L) (hM : Bls w fa M) (hl : L.length ≤ 1024) :
    Calls Ybaf.prog 3 #[.slice ka L.length kc, .slice fa M.length fc, .bool true] w fun e w' => e = .returned (.bool true) ∧ But [] w w' := by
  have HFF : Hid (FF.answers w.tape) := hFF
  have HMS : Hid (Bls w fa M) := hM
  clear hFF hM
  obtain ⟨i35, hi35, hp35⟩ := Option.map_eq_some_iff.1 info35z
  have y1 : i35.zero = some .nilIface := congrArg Prod.fst hp35
  have y2 : i35.size = 1 := congrArg (fun q => q.2.1) hp35
  have y3 : i35.bytes = 16 := congrArg (fun q => q.2.2) hp35
  clear hp35
  generalize hfl : M.length = fl at *
  obtain ⟨i32, hi32, hp32⟩ := Option.map_eq_some_iff.1 info32z
  obtain ⟨i32', hi32', hs32⟩ := Option.map_eq_some_iff.1 info32s
  rw [hi32] at hi32'
  cases hi32'
  obtain ⟨z0, z1⟩ := Option.isSome_iff_exists.1 hs32
  have z2 : i32.size = 9 := congrArg Prod.fst hp32
  have z3 : i32.bytes = 104 := congrArg Prod.snd hp32
  have hl' : ¬ (1024 : Int) < (L.length : Int) := by omega
  have HKS : Hid (U8s w ka L) := hK
  generalize hN : L.length = n at *
  clear hK hp32 hs32
  go_enter Ybaf.func3, Ybaf.ntmps3
  go_wp2_with (at_make; refine wpList_make_n rfl _ _ 24 rfl 32 i32 z0 9 Ybaf.underlying24 hi32 z1 z2 .i64 .i64 n rfl rfl (by rw [z3]; omega) hl ?_; intro w1 e1; have HL1 : Hid (Fl w.heap.size n 0 (kz L) w1) := (by rw [e1]; exact Fl.start n _ _ w); have HB1 : Hid (But [w.heap.size] w w1) := (by rw [e1]; exact (But.refl _ w).alloc _); clear e1)
  go_loopg [9] n (fun k s9 wr => ∃ i : Nat, i ≤ n ∧ k = n - i ∧ s9 = .int .i64 (i : Int) ∧ Fl w.heap.size n i (kz L) wr ∧ But [w.heap.size] w wr)
  case atStart => exact ⟨0, Nat.zero_le _, rfl, rfl, HL1.out, HB1.out⟩
  case round =>
    obtain ⟨i, hin, rfl, rfl, hr, hbt⟩ := hrel
    clear HL1 HB1
    by_cases hlt : i < n
    · have hz : (i : Int) < (n : Int) := by omega
      obtain ⟨x, hx⟩ : ∃ x, L[i]? = some x := ⟨_, List.getElem?_eq_getElem (by omega)⟩
      obtain ⟨b, o, rfl, hc, x0, x1⟩ := HKS.out i x hx
      have hbw : b < w.heap.size := World.block_lt_of_cell? _ _ hc
      rw [← hbt.cell hbw (by simp; omega)] at hc
      have HC : Hid (Calls Ybaf.prog 4 _ wr _) := key_any x x0 x1 wr
      have HKZ : Hid (kt (kz L i) = kt (x % 4).toNat) := by show kt (kz L i) = _; unfold kz; rw [List.getD_eq_getElem?_getD, hx]; rfl
      have HR : Hid (Fl w.heap.size n i (kz L) wr) := hr
      have HB : Hid (But [w.heap.size] w wr) := hbt
      have HT : Hid ((wr.alloc TB).there w.heap.size (i * 9) 9) := (hr.on (m := []) ((But.refl _ wr).alloc TB) (by simp)).there hlt
      generalize kt (x % 4).toNat = key at *
      clear hr hbt
      go_wp2_with fail
      refine HC.out.mono ?_
      rintro e w2 ⟨rfl, rfl⟩
      go_wp2_with (refine wpList_store_n rfl 32 (.tmp 39) (.tmp 38) rfl w.heap.size (i * 9) (FL key) rfl rfl HT.out info32n (FL_one key) ?_; intro w3 e3; obtain ⟨hl3, hb3⟩ := after_flag HR.out HB.out hlt HKZ.out e3; have HL3 : Hid (Fl w.heap.size n (i + 1) (kz L) w3) := hl3; have HB3 : Hid (But [w.heap.size] w w3) := hb3; clear e3 hl3 hb3)
      go_roundg (n - (i + 1))
      case measure => omega
      case rel => exact ⟨i + 1, by omega, rfl, by go_num, HL3.out, HB3.out⟩
    · have hz : ¬ (i : Int) < (n : Int) := by omega
      have hieq : i = n := by omega
      have HL : Hid (Fl w.heap.size n n (kz L) wr) := by rw [hieq] at hr; exact hr
      have HB : Hid (But [] w wr) := hbt.cut (Nat.le_refl _)
      have hws : w.heap.size < wr.heap.size := hr.lt
      clear hr hbt hieq
      go_wp2_with (at_make; refine wpList_make_n rfl _ _ 33 rfl 35 i35 .nilIface 1 Ybaf.underlying33 hi35 y1 y2 .i64 .i64 n rfl rfl (by rw [y3]; omega) hl ?_; intro w2 e2; have HA2 : Hid (Fa wr.heap.size n (fun _ => .nilIface) w2) := (by rw [e2]; exact Fa.start n wr); have HL2 : Hid (Fl w.heap.size n n (kz L) w2) := (by rw [e2]; exact HL.out.on (m := []) ((But.refl _ wr).alloc _) (by simp)); have HB2 : Hid (But [] w w2) := (by rw [e2]; exact HB.out.alloc _); clear e2)
      generalize hab : wr.heap.size = ab at *
      clear HL HB
      go_loopg [11] n (fun k s11 wy => ∃ (i : Nat) (E : Nat → Value), i ≤ n ∧ k = n - i ∧ s11 = .int .i64 (i : Int) ∧ Fa ab n E wy ∧ Fl w.heap.size n n (kz L) wy ∧ But [] w wy)
      case atStart => exact ⟨0, _, Nat.zero_le _, rfl, rfl, HA2.out, HL2.out, HB2.out⟩
      case round =>
        obtain ⟨i, E, hin, rfl, rfl, hfa, hr, hbt⟩ := hrel
        clear HA2 HL2 HB2
        have HA : Hid (Fa ab n E wr) := hfa
        have HL : Hid (Fl w.heap.size n n (kz L) wr) := hr
        have HB : Hid (But [] w wr) := hbt
        clear hr
        by_cases hlt : i < n ∧ i < fl
        · obtain ⟨hl1, hl2⟩ := hlt
          have hz1 : (i : Int) < (n : Int) := by omega
          have hz2 : (i : Int) < (fl : Int) := by omega
          obtain ⟨x, hx⟩ : ∃ x, M[i]? = some x := ⟨_, List.getElem?_eq_getElem (by omega)⟩
          obtain ⟨b, o, rfl, hc⟩ := HMS.out i x hx
          have hbw : b < w.heap.size := World.block_lt_of_cell? _ _ hc
          rw [← hbt.cell hbw (by simp)] at hc
          clear hbt hx
          cases x with
          | true =>
            have cv : (wr.alloc EB).cell? ⟨ab, i, none⟩ = some (E i) := (hfa.on ((But.refl _ wr).alloc EB)).cell hl1
            have fz : (wr.alloc EB).frozen? ⟨ab, i, none⟩ = false := (hfa.on ((But.refl _ wr).alloc EB)).free i
            have HC : Hid (Calls Ybaf.prog 5 _ wr _) := new_any faultText wr
            have hba : w.heap.size ≤ ab := by omega
            clear hfa
            go_wp2_with fail
            refine HC.out.mono ?_
            rintro e w3 ⟨rfl, e3⟩
            rw [← e3] at cv fz
            have HP : Hid (∀ w', w' = w3.setCell ⟨ab, i, none⟩ (EV wr.heap.size) → Fa ab n (fun p => if p = i then EV wr.heap.size else E p) w' ∧ Fl w.heap.size n n (kz L) w' ∧ But [] w w') := fun w' ew => by
              rw [e3] at ew
              have hb4 : But [] w w' := by rw [ew]; exact (HB.out.alloc EB).setNew (p := ⟨ab, i, none⟩) hba _
              refine ⟨HA.out.put hl1 ew, ?_, hb4⟩
              rw [ew]
              exact HL.out.on (m := [ab]) (((But.refl _ wr).alloc EB).set (p := ⟨ab, i, none⟩) (by simp) _) (by simp; omega)
            clear e3
            go_wp2
            obtain ⟨q1, q2, q3⟩ := HP.out _ rfl
            go_roundg (n - (i + 1))
            case measure => omega
            case rel => exact ⟨i + 1, _, by omega, rfl, by go_num, q1, q2, q3⟩
          | false =>
            clear hfa
            go_wp2
            go_roundg (n - (i + 1))
            case measure => omega
            case rel => exact ⟨i + 1, E, by omega, rfl, by go_num, HA.out, HL.out, HB.out⟩
        · have hzz : ¬ (i : Int) < (n : Int) ∨ ((i : Int) < (n : Int) ∧ ¬ (i : Int) < (fl : Int)) := by omega
          clear hbt hfa
          rcases hzz with hz1 | ⟨hz1, hz2⟩
          all_goals
            have HCF : Hid (Calls Ybaf.prog 6 _ wr _) := firstFault_any FF (k0 := kz L) (E := E) hl wr (by rw [HB.out.tape]; exact HFF.out) (fun p hp => ⟨HL.out.cell hp, kz_lt L p⟩) HL.out.lt HA.out.lt (fun p hp => HA.out.cell hp) HA.out.flt
            go_wp2_with fail
            refine HCF.out.mono ?_
            rintro e w4 ⟨r, rfl, hok, hb4⟩
            have HOK4 : Hid (FirstOk (kz L) n E r w4) := hok
            have HA4 : Hid (Fa ab n E w4) := HA.out.on hb4
            have HL4 : Hid (Fl w.heap.size n n (kz L) w4) := HL.out.on (m := []) hb4 (by simp)
            have HB4 : Hid (But [] w w4) := HB.out.trans hb4
            clear hok hb4 HCF HA HL HB
            go_wp2_with fail
            go_loopg [13] n (fun k s13 wy => ∃ i : Nat, i ≤ n ∧ k = n - i ∧ s13 = .int .i64 (i : Int) ∧ Fl w.heap.size n n (kz L) wy ∧ But [] w wy ∧ Fa ab n E wy ∧ FirstOk (kz L) n E r wy)
            case atStart => exact ⟨0, Nat.zero_le _, rfl, rfl, HL4.out, HB4.out, HA4.out, HOK4.out⟩
            case round =>
              obtain ⟨i, hin, rfl, rfl, hr, hbt, hfa, hok⟩ := hrel
              clear HL4 HB4 HA4 HOK4
              have HA : Hid (Fa ab n E wr) := hfa
              have HOK : Hid (FirstOk (kz L) n E r wr) := hok
              clear hfa hok
              by_cases hlt : i < n
              · have hz2 : (i : Int) < (n : Int) := by omega
                obtain ⟨x, hx⟩ : ∃ x, L[i]? = some x := ⟨_, List.getElem?_eq_getElem (by omega)⟩
                obtain ⟨b, o, rfl, hc, x0, x1⟩ := HKS.out i x hx
                have hbw : b < w.heap.size := World.block_lt_of_cell? _ _ hc
                rw [← hbt.cell hbw (by simp)] at hc
                have hbs : b < wr.heap.size := by have := hbt.size; omega
                have hfs : w.heap.size < wr.heap.size := hr.lt
                have hck := hr.cell hlt
                have hkz : kt (kz L i) = kt (x % 4).toNat := by unfold kz; rw [List.getD_eq_getElem?_getD, hx]; rfl
                rw [hkz] at hck
                have HC : Hid (∀ w, Calls Ybaf.prog 4 #[.int .u8 x] w _) := fun w => key_any x x0 x1 w
                have HR : Hid (Fl w.heap.size n n (kz L) wr) := hr
                have HB : Hid (But [] w wr) := hbt
                generalize kt (x % 4).toNat = key at *
                clear hr hbt hkz
                go_wp2_with fail
                go_region_held (fun w' => w'.cell? ⟨b, o + i, none⟩ = some (.int .u8 x) ∧ w'.cell? ⟨w.heap.size, i * 9, none⟩ = some (.string key)) (simp [go_sem, World.cell?_alloc_past, *]) (first
                  | (go_at_call 4; refine (HC.out _).mono ?_; rintro e w3 ⟨rfl, rfl⟩))
                go_wp2
                go_roundg (n - (i + 1))
                case measure => omega
                case rel => exact ⟨i + 1, by omega, rfl, by go_num, HR.out.on (m := []) ((But.refl _ wr).alloc TB).drew (by simp), (HB.out.alloc TB).drew, HA.out.on ((But.refl _ wr).alloc TB).drew, HOK.out.on ((But.refl _ wr).alloc TB).drew⟩
              · have hz3 : ¬ (i : Int) < (n : Int) := by omega
                have HB : Hid (But [] w wr) := hbt
                clear hr hbt
                go_wp2_with fail
                go_loopg [14, 15] 4 (fun m s14 s15 wy => ∃ k : Nat, k ≤ 4 ∧ m = 4 - k ∧ s15 = .int .i64 (k : Int) ∧ wy = wr ∧ ((s14 = .int .i64 (-1) ∧ Non (kz L) n E k) ∨ ∃ x : Nat, s14 = .int .i64 (x : Int) ∧ Fnd (kz L) n E x))
                case atStart => exact ⟨0, Nat.zero_le _, rfl, rfl, rfl, Or.inl ⟨rfl, fun y _ hk => by omega⟩⟩
                case round =>
                  obtain ⟨k, hk4, rfl, rfl, rfl, hw⟩ := hrel
                  rcases hw with ⟨rfl, hnon⟩ | ⟨x, rfl, hfnd⟩
                  · have HN : Hid (Non (kz L) n E k) := hnon
                    clear hnon
                    by_cases hk : k < 4
                    · have hk' : (k : Int) < 4 := by omega
                      go_wp2_with fail
                      go_loopg [16, 17] n (fun m s16 s17 wz => ∃ (i : Nat) (v : Int), i ≤ n ∧ m = n - i ∧ s17 = .int .i64 (i : Int) ∧ s16 = .int .i64 v ∧ Lt (kz L) i k v ∧ wz = wr)
                      case atStart => exact ⟨0, -1, Nat.zero_le _, rfl, rfl, rfl, Lt.start _ _, rfl⟩
                      case round =>
                        obtain ⟨i, v, hin2, rfl, rfl, rfl, hlt3, rfl⟩ := hrel
                        have HLT : Hid (Lt (kz L) i k v) := hlt3
                        clear hlt3
                        by_cases hi4 : i < n
                        · have hi5 : (i : Int) < (n : Int) := by omega
                          obtain ⟨x, hx⟩ : ∃ x, L[i]? = some x := ⟨_, List.getElem?_eq_getElem (by omega)⟩
                          obtain ⟨b, o, rfl, hc, x0, x1⟩ := HKS.out i x hx
                          have hbw : b < w.heap.size := World.block_lt_of_cell? _ _ hc
                          rw [← HB.out.cell hbw (by simp)] at hc
                          have hkz : kz L i = (x % 4).toNat := by unfold kz; rw [List.getD_eq_getElem?_getD, hx]; rfl
                          have hww : IntKind.i64.wrap x = x := by rw [IntKind.wrap_i64]; omega
                          have htm : Int.tmod x 4 = ((kz L i : Nat) : Int) := by rw [Int.tmod_eq_emod_of_nonneg x0, hkz]; omega
                          clear hkz hx
                          by_cases hq : kz L i = k
                          · have HLN : Hid (Lt (kz L) (i + 1) k (i : Int)) := Lt.hit hq
                            rw [hq] at htm
                            clear hq
                            go_wp2
                            go_roundg (n - (i + 1))
                            case measure => omega
                            case rel => exact ⟨i + 1, (i : Int), by omega, rfl, by go_num, rfl, HLN.out, rfl⟩
                          · have HLN : Hid (Lt (kz L) (i + 1) k v) := HLT.out.miss hq
                            generalize kz L i = q at *
                            have hq1 : ¬ (q : Int) = (k : Int) := by omega
                            have hq2 : ((q : Int) == (k : Int)) = false := by simp; omega
                            clear hq
                            go_wp2
                            go_roundg (n - (i + 1))
                            case measure => omega
                            case rel => exact ⟨i + 1, v, by omega, rfl, by go_num, rfl, HLN.out, rfl⟩
                        · have hi5 : ¬ (i : Int) < (n : Int) := by omega
                          have hieq : i = n := by omega
                          have hlt3 := HLT.out
                          rw [hieq] at hlt3
                          clear hieq HLT
                          rcases hlt3 with ⟨rfl, hnone⟩ | ⟨y, rfl, hyn, hyk, hyl⟩
                          · have HNN : Hid (Non (kz L) n E (k + 1)) := HN.out.none hnone
                            clear hnone
                            go_wp2
                            go_roundg (4 - (k + 1))
                            case measure => omega
                            case rel => exact ⟨k + 1, by omega, rfl, by go_num, rfl, Or.inl ⟨rfl, HNN.out⟩⟩
                          · have cy := HA.out.cell hyn
                            have hy0 : (0 : Int) ≤ (y : Int) := by omega
                            have hy1 : (y : Int) < (n : Int) := by omega
                            rcases HA.out.val y with e0 | ⟨be, e0, _⟩
                            · have HNN : Hid (Non (kz L) n E (k + 1)) := HN.out.skip hyn hyk hyl e0
                              rw [e0] at cy
                              clear e0 hyk hyl
                              go_wp2
                              go_roundg (4 - (k + 1))
                              case measure => omega
                              case rel => exact ⟨k + 1, by omega, rfl, by go_num, rfl, Or.inl ⟨rfl, HNN.out⟩⟩
                            · have HNF : Hid (Fnd (kz L) n E y) := HN.out.found hyn hyk hyl e0
                              rw [e0] at cy
                              clear e0 hyk hyl
                              go_wp2
                              go_roundg (4 - (k + 1))
                              case measure => omega
                              case rel => exact ⟨k + 1, by omega, rfl, by go_num, rfl, Or.inr ⟨y, rfl, HNF.out⟩⟩
                    · have hk' : ¬ (k : Int) < 4 := by omega
                      have hk5 : k = 4 := by omega
                      have hrn : r = .nilIface := says_nil HOK.out (kz_lt L) (by rw [hk5] at HN; exact HN.out)
                      subst hrn
                      go_wp2
                      go_ret
                      exact ⟨rfl, HB.out⟩
                  · have HFN : Hid (Fnd (kz L) n E x) := hfnd
                    clear hfnd
                    obtain ⟨pb, be, hre, hex, hcp⟩ := says_it HOK.out HFN.out
                    subst hre
                    have HEX : Hid (E x = EV be) := hex
                    have hx0 : ¬ (x : Int) < 0 := by omega
                    clear hex
                    rcases Nat.lt_or_ge k 4 with hk5 | hk5
                    all_goals
                      go_wp2_with fail
                      go_loopg [18] n (fun m s18 wz => ∃ i : Nat, i ≤ n ∧ m = n - i ∧ s18 = .int .i64 (i : Int) ∧ wz = wr)
                      case atStart => exact ⟨0, Nat.zero_le _, rfl, rfl, rfl⟩
                      case round =>
                        obtain ⟨i, hin2, rfl, rfl, rfl⟩ := hrel
                        by_cases hi4 : i < n
                        · have hi5 : (i : Int) < (n : Int) := by omega
                          have cy := HA.out.cell hi4
                          rcases HA.out.val i with e0 | ⟨bi, e0, hbi⟩
                          · rw [e0] at cy
                            clear e0
                            go_wp2
                            go_roundg (n - (i + 1))
                            case measure => omega
                            case rel => exact ⟨i + 1, by omega, rfl, by go_num, rfl⟩
                          · rw [e0] at cy
                            by_cases hbb : bi = be
                            · subst hbb
                              have hix : i = x := HA.out.inj i x bi e0 HEX.out
                              subst hix
                              have HC : Hid (Calls Ybaf.prog 7 _ wr _) := is_wrap_same pb 0 ⟨bi, 0, none⟩ wr hcp
                              clear e0 hbi
                              go_wp2_with fail
                              refine HC.out.mono ?_
                              rintro e w5 ⟨rfl, rfl⟩
                              go_wp2
                              go_roundg (n - (i + 1))
                              case measure => omega
                              case rel => exact ⟨i + 1, by omega, rfl, by go_num, rfl⟩
                            · have hix : i ≠ x := fun h => by
                                rw [h, HEX.out] at e0; cases e0; exact hbb rfl
                              obtain ⟨_, hbe⟩ : ∃ _ : True, wr.heap[be]? = some EB := by
                                rcases HA.out.val x with e1 | ⟨b1, e1, hb1⟩
                                · rw [HEX.out] at e1; cases e1
                                · rw [HEX.out] at e1; cases e1; exact ⟨trivial, hb1⟩
                              have HC : Hid (Calls Ybaf.prog 7 _ wr _) := is_wrap_other pb 0 ⟨bi, 0, none⟩ ⟨be, 0, none⟩ _ _ _ _ wr hcp (fun h => by injection h with h1 _ _; exact hbb h1.symm) hbe hbi
                              have hq1 : ¬ (i : Int) = (x : Int) := by omega
                              have hq2 : ((i : Int) == (x : Int)) = false := by simp; omega
                              clear e0 hbi hbe hix hbb
                              go_wp2_with fail
                              refine HC.out.mono ?_
                              rintro e w5 ⟨rfl, rfl⟩
                              go_wp2
                              go_roundg (n - (i + 1))
                              case measure => omega
                              case rel => exact ⟨i + 1, by omega, rfl, by go_num, rfl⟩
                        · have hi5 : ¬ (i : Int) < (n : Int) := by omega
                          go_wp2
                          go_ret
                          exact ⟨rfl, HB.out⟩
end Go.Proofs.YbulkerqFmt
