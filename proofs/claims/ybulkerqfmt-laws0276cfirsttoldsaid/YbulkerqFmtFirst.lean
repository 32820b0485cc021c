/-
  firstFault, walked.
-/
import Derived.Test.YbulkerqFmtLast
import Derived.Test.YbulkerqFmtErrf
import Derived.Laws.MakeOwn
import Derived.Deep.RegionWith
namespace Go.Proofs.YbulkerqFmt
open Go.RowKit Go.Lib Go.Extern.Stop Go.Stop Go.Extern

/-! ### Plain -/
/-- y is the last number of its key. -/
def Lst (k0 : Nat → Nat) (n y : Nat) : Prop := y < n ∧ ∀ x, x < n → k0 x = k0 y → x ≤ y
/-- What firstFault says. -/
def FirstOk (k0 : Nat → Nat) (n : Nat) (E : Nat → Value) (r : Value) (w : World) : Prop :=
  (r = .nilIface ∧ ∀ y, Lst k0 n y → E y = .nilIface) ∨ ∃ x pb a, r = .iface 62 (.pointer (some ⟨pb, 0, none⟩)) ∧ E x = .iface 41 (.pointer (some a)) ∧ w.cell? ⟨pb, 1, none⟩ = some (.iface 41 (.pointer (some a))) ∧ Lst k0 n x ∧ ∀ y, Lst k0 n y → k0 y < k0 x → E y = .nilIface
theorem Kept.lst {k0 : Nat → Nat} {n m : Nat} {g : Nat → Nat} (h : Kept k0 n m g) {p : Nat} (hp : p < m) : Lst k0 n (g p) := ⟨h.low p hp, fun x hx e => h.last p hp x hx e⟩
theorem Kept.find {k0 : Nat → Nat} {n m : Nat} {g : Nat → Nat} (h : Kept k0 n m g) {y : Nat} (hy : Lst k0 n y) : ∃ q, q < m ∧ g q = y := by
  obtain ⟨q, q1, q2⟩ := h.all y hy.1
  refine ⟨q, q1, ?_⟩
  have a1 := h.last q q1 y hy.1 q2.symm
  have a2 := hy.2 (g q) (h.low q q1) q2
  omega
theorem Kept.before {k0 : Nat → Nat} {n m : Nat} {g : Nat → Nat} (h : Kept k0 n m g) {p q : Nat} (hq : q < m) (hl : k0 (g q) < k0 (g p)) : q < p := by
  rcases Nat.lt_trichotomy q p with h1 | h1 | h1
  · exact h1
  · rw [h1] at hl; omega
  · have := h.inc p q h1 hq; omega
theorem Kept.congr {k0 k1 : Nat → Nat} {n m : Nat} {g : Nat → Nat} (h : Kept k1 n m g) (e : ∀ x, x < n → k1 x = k0 x) : Kept k0 n m g := by
  obtain ⟨inc, low, last, all⟩ := h
  refine ⟨fun p q pq hq => ?_, low, fun p hp x hx ee => ?_, fun x hx => ?_⟩
  · rw [← e _ (low p (by omega)), ← e _ (low q hq)]; exact inc p q pq hq
  · exact last p hp x hx (by rw [e x hx, e _ (low p hp)]; exact ee)
  · obtain ⟨p, p1, p2⟩ := all x hx
    exact ⟨p, p1, by rw [← e _ (low p p1), ← e x hx]; exact p2⟩

/-! ### Memory -/
theorem wpList_make_n {P : Program} {w : World} {ops : Array Oper} {rest : List Oper} {o : Oper} {a : Act} {Q : Exit → Act → World → Prop}
    (hg : o.guard = none) (l c : Operand) (t : TypeId) (hop : o.op = Op.makeSlice t l c)
    (e : TypeId) (i : TypeInfo) (z : Value) (size : Nat) (h1 : P.underlying t = some (.slice e)) (h2 : P.info? e = some i) (h3 : i.zero = some z) (h4 : i.size = size)
    (kl kc : IntKind) (n : Nat) (hl : a.eval l = .int kl (n : Int)) (hc : a.eval c = .int kc (n : Int)) (b2 : i.bytes * n ≤ 281474976710656) (b3 : n ≤ 1024)
    (hK : ∀ w', w' = w.alloc (.cells (madeCells z.cells (n * size)) e) → wpList P ops Q rest (a.put o.dst (.slice (some ⟨w.heap.size, 0, none⟩) n n)) w') :
    wpList P ops Q (o :: rest) a w := by
  refine wpList_plain hg fun K hK' => ?_
  have hrun := run_make (P := P) w t e i z h1 h2 h3 kl kc (n : Int) (n : Int) (by omega) (by omega) (by rw [← Int.natCast_mul]; omega) (by omega)
  simp only [Int.toNat_natCast] at hrun
  rw [h4] at hrun
  unfold Oper.wp
  simp [execOp, hop, hl, hc, hrun, Result.andThen]
  exact hK' _ _ (hK _ rfl)

/-- The row while it is laid: i places done. -/
def Rp (blk n i : Nat) (F E : Nat → Value) (w : World) : Prop := ∃ cur : Array Value, w.heap[blk]? = some (.cells cur 47 (0, 0)) ∧ cur.size = n * 2 ∧ ∀ p, p < i → cur[p * 2]? = some (F p) ∧ cur[p * 2 + 1]? = some (E p)
theorem Rp.start (n : Nat) (F E : Nat → Value) (z : Array Value) (w : World) : Rp w.heap.size n 0 F E (w.alloc (.cells (madeCells z (n * 2)) 47)) :=
  ⟨_, blk_new _ _, size_madeCells _ _, fun p hp => by omega⟩
theorem Rp.step {blk n i : Nat} {F E : Nat → Value} {w : World} (h : Rp blk n i F E w) (hi : i < n) : Rp blk n (i + 1) F E ((w.setCell ⟨blk, i * 2, none⟩ (F i)).setCell ⟨blk, i * 2 + 1, none⟩ (E i)) := by
  obtain ⟨cur, hc, hz, hp⟩ := h
  refine ⟨_, blk_set (blk_set hc _) _, by simp [hz], fun p hpn => ?_⟩
  by_cases h1 : p = i
  · subst h1
    refine ⟨?_, ?_⟩
    · rw [Array.getElem?_setIfInBounds_ne (by omega), Array.getElem?_setIfInBounds_self_of_lt (by omega)]
    · rw [Array.getElem?_setIfInBounds_self_of_lt (by simp; omega)]
  · obtain ⟨k0, k1⟩ := hp p (by omega)
    refine ⟨?_, ?_⟩
    · rw [Array.getElem?_setIfInBounds_ne (by omega), Array.getElem?_setIfInBounds_ne (by omega)]; exact k0
    · rw [Array.getElem?_setIfInBounds_ne (by omega), Array.getElem?_setIfInBounds_ne (by omega)]; exact k1
theorem Rp.cell {blk n i : Nat} {F E : Nat → Value} {w : World} (h : Rp blk n i F E w) {k : Nat} (hk : k < n * 2) : ∃ v, w.cell? ⟨blk, k, none⟩ = some v := by
  obtain ⟨cur, hc, hz, _⟩ := h
  exact ⟨_, by rw [blk_cell hc]; exact Array.getElem?_eq_getElem (by omega)⟩
theorem Rp.free {blk n i : Nat} {F E : Nat → Value} {w : World} (h : Rp blk n i F E w) (k : Nat) : w.frozen? ⟨blk, k, none⟩ = false := by
  obtain ⟨cur, hc, _⟩ := h; exact blk_free hc k
theorem Rp.end {blk n : Nat} {F E : Nat → Value} {w : World} (h : Rp blk n n F E w) : Rw blk n F E (fun p => p) w := h
theorem But.cut {w w' : World} {blk : Nat} (h : But [blk] w w') (hb : w.heap.size ≤ blk) : But [] w w' :=
  ⟨h.os, h.tape, h.output, h.size, fun k hk _ => h.block k hk (by simp; omega)⟩
theorem But.wide {w w' : World} {m : List Nat} (h : But [] w w') : But m w w' :=
  ⟨h.os, h.tape, h.output, h.size, fun k hk _ => h.block k hk (by simp)⟩

theorem Rw.on {blk n : Nat} {F E : Nat → Value} {f : Nat → Nat} {w w' : World} (h : Rw blk n F E f w) (b : But [] w w') : Rw blk n F E f w' := by
  obtain ⟨c, hc, r⟩ := h
  exact ⟨c, (b.block blk (blk_lt hc) (by simp)).trans hc, r⟩
/-- The place of flag x (past the end: of some flag). -/
def FP (fb n x : Nat) : Value := .pointer (some ⟨fb, x % n * 9, none⟩)
theorem FP_lt (fb : Nat) {n x : Nat} (h : x < n) : FP fb n x = .pointer (some ⟨fb, x * 9, none⟩) := by unfold FP; rw [Nat.mod_eq_of_lt h]
theorem info47z : (Ybaf.prog.info? 47).map (fun i => (i.zero, i.size, i.bytes)) = some (some (.agg #[.pointer none, .nilIface]), 2, 24) := by kernel_rfl

theorem eql_some (a : Addr) (n c : Nat) (w : World) : (binOp .eql 33 (.slice (some a) n c) (.slice none 0 0)).run Ybaf.prog w = .ok (.bool false) w := by kernel_rfl
theorem eql_none (w : World) : (binOp .eql 33 (.slice none 0 0) (.slice none 0 0)).run Ybaf.prog w = .ok (.bool true) w := by kernel_rfl

set_option maxRecDepth 100000 in
theorem firstFault_nil (v : Value) (w : World) : Calls Ybaf.prog 6 #[v, .slice none 0 0] w fun e w' => e = .returned .nilIface ∧ w' = w := by
  have k := eql_none
  go_enter Ybaf.func6, Ybaf.ntmps6
  go_wp2
  go_ret
  exact ⟨rfl, rfl⟩

set_option maxRecDepth 100000 in
set_option maxHeartbeats 2000000 in
theorem firstFault_any (FF : Stop.Interp) {fb ab n : Nat} {k0 : Nat → Nat} {E : Nat → Value} (hn : n ≤ 1024) (w : World) (hF : FF.answers w.tape)
    (hk : ∀ i, i < n → w.cell? ⟨fb, i * 9, none⟩ = some (.string (kt (k0 i))) ∧ k0 i < 4) (hfl : fb < w.heap.size) (hal : ab < w.heap.size) (hA : ∀ i, i < n → w.cell? ⟨ab, i, none⟩ = some (E i))
    (hE : ∀ i, E i = .nilIface ∨ ∃ b s, E i = .iface 41 (.pointer (some ⟨b, 0, none⟩)) ∧ b < w.heap.size ∧ w.cell? ⟨b, 0, none⟩ = some (.string s)) :
    Calls Ybaf.prog 6 #[.slice (some ⟨fb, 0, none⟩) n n, .slice (some ⟨ab, 0, none⟩) n n] w fun e w' => ∃ r, e = .returned r ∧ FirstOk k0 n E r w' ∧ But [] w w' := by
  obtain ⟨i47, hi47, hp47⟩ := Option.map_eq_some_iff.1 info47z
  have z1 : i47.zero = some (.agg #[.pointer none, .nilIface]) := congrArg Prod.fst hp47
  have z2 : i47.size = 2 := congrArg (fun q => q.2.1) hp47
  have z3 : i47.bytes = 24 := congrArg (fun q => q.2.2) hp47
  have HF : Hid (FF.answers w.tape) := hF
  have HK : Hid (∀ i, i < n → w.cell? ⟨fb, i * 9, none⟩ = some (.string (kt (k0 i))) ∧ k0 i < 4) := hk
  have HA : Hid (∀ i, i < n → w.cell? ⟨ab, i, none⟩ = some (E i)) := hA
  have HE : Hid (∀ i, E i = .nilIface ∨ ∃ b s, E i = .iface 41 (.pointer (some ⟨b, 0, none⟩)) ∧ b < w.heap.size ∧ w.cell? ⟨b, 0, none⟩ = some (.string s)) := hE
  clear hF hk hA hE hp47
  have ksome := eql_some
  go_enter Ybaf.func6, Ybaf.ntmps6
  go_wp2_with (at_make; refine wpList_make_n rfl _ _ 44 rfl 47 i47 (.agg #[.pointer none, .nilIface]) 2 Ybaf.underlying44 hi47 z1 z2 .i64 .i64 n rfl rfl (by rw [z3]; omega) hn ?_; intro w1 e1; have HR1 : Hid (Rp w.heap.size n 0 (FP fb n) E w1) := (by rw [e1]; exact Rp.start n _ _ _ w); have HB1 : Hid (But [w.heap.size] w w1) := (by rw [e1]; exact (But.refl _ w).alloc _); clear e1)
  go_loopg [16] n (fun k s16 wr => ∃ i : Nat, i ≤ n ∧ k = n - i ∧ s16 = .int .i64 (i : Int) ∧ Rp w.heap.size n i (FP fb n) E wr ∧ But [w.heap.size] w wr)
  case atStart => exact ⟨0, Nat.zero_le _, rfl, rfl, HR1.out, HB1.out⟩
  case round =>
    obtain ⟨i, hin, rfl, rfl, hr, hbt⟩ := hrel
    have HR : Hid (Rp w.heap.size n i (FP fb n) E wr) := hr
    have HB : Hid (But [w.heap.size] w wr) := hbt
    clear HR1 HB1
    by_cases hlt : i < n
    · have hz : (i : Int) < (n : Int) := by omega
      have ca : wr.cell? ⟨ab, i, none⟩ = some (E i) := by rw [hbt.cell hal (by simp; omega)]; exact HA.out i hlt
      obtain ⟨v0, cv0⟩ := hr.cell (k := i * 2) (by omega)
      obtain ⟨v1, cv1⟩ := hr.cell (k := i * 2 + 1) (by omega)
      have f0 := hr.free (i * 2)
      have f1 := hr.free (i * 2 + 1)
      have HFP : Hid (FP fb n i = .pointer (some ⟨fb, i * 9, none⟩)) := FP_lt fb hlt
      clear hr hbt
      rcases HE.out i with e0 | ⟨b, s, e0, _, _⟩
      · have HE0 : Hid (E i = .nilIface) := e0
        rw [e0] at ca
        clear e0
        go_wp2_with fail
        go_region
        go_wp2
        go_roundg (n - (i + 1))
        case measure => omega
        case rel =>
          refine ⟨i + 1, by omega, rfl, by go_num, ?_, ((HB.out.set (by simp) _).set (by simp) _).drew⟩
          have := HR.out.step hlt
          rw [HFP.out, HE0.out] at this
          exact this
      · have HE0 : Hid (E i = .iface 41 (.pointer (some ⟨b, 0, none⟩))) := e0
        rw [e0] at ca
        clear e0
        go_wp2_with fail
        go_region
        go_wp2
        go_roundg (n - (i + 1))
        case measure => omega
        case rel =>
          refine ⟨i + 1, by omega, rfl, by go_num, ?_, ((HB.out.set (by simp) _).set (by simp) _).drew⟩
          have := HR.out.step hlt
          rw [HFP.out, HE0.out] at this
          exact this
    · have hz : ¬ (i : Int) < (n : Int) := by omega
      have hieq : i = n := by omega
      have hrw : Rw w.heap.size n (FP fb n) E (fun p => p) wr := by rw [hieq] at hr; exact hr.end
      have hkey : 0 < n → ∀ x, ∃ o, FP fb n x = .pointer (some ⟨fb, o, none⟩) ∧ wr.cell? ⟨fb, o, none⟩ = some (.string (kt (k0 (x % n)))) ∧ k0 (x % n) < 4 := fun h0 x => by
        obtain ⟨c1, c2⟩ := HK.out (x % n) (Nat.mod_lt _ h0)
        exact ⟨_, rfl, by rw [hbt.cell hfl (by simp; omega)]; exact c1, c2⟩
      have HC : Hid (Calls Ybaf.prog 8 _ wr _) := lastOfEach_any hn (fun x => by rcases HE.out x with e | ⟨b, s, e, _⟩; exact Or.inl e; exact Or.inr ⟨_, _, e⟩) wr hkey (by have := hbt.size; omega) (by omega) hrw
      clear hr hbt hkey hrw hieq HR
      go_wp2_with fail
      refine HC.out.mono ?_
      rintro e w2 ⟨m, rfl, hmn, g, hkp, hrw, hb2⟩
      have HKP : Hid (Kept k0 n m g) := hkp.congr (fun x hx => by rw [Nat.mod_eq_of_lt hx])
      have HR2 : Hid (Rw w.heap.size n (FP fb n) E g w2) := hrw
      have HB2 : Hid (But [] w w2) := (HB.out.trans hb2).cut (Nat.le_refl _)
      clear hkp hrw hb2 HC HB
      go_wp2_with fail
      go_loopg [34] m (fun k s34 wz => ∃ p : Nat, p ≤ m ∧ k = m - p ∧ s34 = .int .i64 (p : Int) ∧ (∀ q, q < p → E (g q) = .nilIface) ∧ Rw w.heap.size n (FP fb n) E g wz ∧ But [] w wz)
      case atStart => exact ⟨0, Nat.zero_le _, rfl, rfl, fun q hq => by omega, HR2.out, HB2.out⟩
      case round =>
        obtain ⟨p, hpm, rfl, rfl, hnil, hr, hbt⟩ := hrel
        have HN : Hid (∀ q, q < p → E (g q) = .nilIface) := hnil
        have HR : Hid (Rw w.heap.size n (FP fb n) E g wr) := hr
        have HB : Hid (But [] w wr) := hbt
        clear HR2 HB2 hnil
        by_cases hlt : p < m
        · have hz1 : (p : Int) < (m : Int) := by omega
          have hgn : g p < n := HKP.out.low p hlt
          obtain ⟨c0, c1, _⟩ := hr.cells (show p < n by omega)
          rw [FP_lt fb hgn] at c0
          have ck := (HK.out (g p) hgn).1
          rw [← hbt.cell hfl (by simp)] at ck
          generalize kt (k0 (g p)) = key at ck
          generalize hq : g p * 9 = q9 at c0 ck
          clear hr
          rcases HE.out (g p) with e0 | ⟨b, s, e0, hbl, hbs⟩
          · rw [e0] at c1
            have HN' : Hid (∀ q, q < p + 1 → E (g q) = .nilIface) := fun q hq' => by
              rcases Nat.lt_or_ge q p with h1 | h1
              · exact HN.out q h1
              · rw [show q = p from by omega]; exact e0
            clear e0 hbt
            go_wp2_with fail
            go_roundg (m - (p + 1))
            case measure => omega
            case rel => exact ⟨p + 1, by omega, rfl, by go_num, HN'.out, HR.out.alloc _, HB.out.alloc _⟩
          · rw [e0] at c1
            have HE0 : Hid (E (g p) = .iface 41 (.pointer (some ⟨b, 0, none⟩))) := e0
            rw [← hbt.cell hbl (by simp)] at hbs
            have htp : wr.tape = w.tape := hbt.tape
            have hfw : fb < wr.heap.size := by have := hbt.size; omega
            have hbw : b < wr.heap.size := by have := hbt.size; omega
            clear e0 hbt
            go_wp2_with fail
            generalize hwd : wr.alloc (Obj.cells #[Value.pointer (some { block := fb, off := q9 }), Value.iface 41 (Value.pointer (some { block := b, off := 0 }))] 47) = wd
            have HBd : Hid (But [] wr wd) := by rw [← hwd]; exact (But.refl _ wr).alloc _
            have d0 : wd.cell? ⟨wr.heap.size, 0, none⟩ = some (Value.pointer (some { block := fb, off := q9 })) := by rw [← hwd]; exact blk_cell (blk_new wr _)
            have d1 : wd.cell? ⟨wr.heap.size, 1, none⟩ = some (Value.iface 41 (Value.pointer (some { block := b, off := 0 }))) := by rw [← hwd]; exact blk_cell (blk_new wr _)
            have d2 : wd.cell? ⟨fb, q9, none⟩ = some (.string key) := by rw [HBd.out.cell hfw (by simp)]; exact ck
            have HBS : Hid (wd.cell? ⟨b, 0, none⟩ = some (.string s)) := (HBd.out.cell hbw (by simp)).trans hbs
            have HTP : Hid (FF.answers wd.tape) := by rw [HBd.out.tape, htp]; exact HF.out
            have hsz : wr.heap.size < wd.heap.size := by rw [← hwd]; simp
            clear hwd ck hbs c0 c1 htp
            go_region_with (first
              | (go_at_call 11; refine (errorf_wrap FF _ key s ⟨b, 0, none⟩ _ ?_ ?_ ?_ ?_).mono ?_; exact HTP.out; exact blk_cell (blk_new wd _); exact blk_cell (blk_new wd _); exact (((But.refl [] wd).alloc _).drew.cell (p := ⟨b, 0, none⟩) (by show b < wd.heap.size; omega) (by simp)).trans HBS.out; rintro e w5 ⟨eb, msg, rfl, hE5, hle, hb5⟩; have H5 : Hid (w5.cell? ⟨eb, 1, none⟩ = some (.iface 41 (.pointer (some ⟨b, 0, none⟩)))) := (blk_cell hE5).trans rfl; have HB5 : Hid (But [] w w5) := (HB.out.trans (HBd.out.trans (((But.refl [] wd).alloc _).drew.trans hb5))); clear hE5 hle hb5))
            all_goals go_wp2
            all_goals go_ret
            all_goals
              refine ⟨_, rfl, Or.inr ⟨g p, eb, ⟨b, 0, none⟩, rfl, HE0.out, H5.out, HKP.out.lst hlt, fun y hy hl => ?_⟩, HB5.out⟩
              obtain ⟨q, q1, rfl⟩ := HKP.out.find hy
              exact HN.out q (HKP.out.before q1 hl)
        · have hz1 : ¬ (p : Int) < (m : Int) := by omega
          clear hr hbt
          go_wp2
          go_ret
          refine ⟨_, rfl, Or.inl ⟨rfl, fun y hy => ?_⟩, HB.out⟩
          obtain ⟨q, q1, rfl⟩ := HKP.out.find hy
          exact HN.out q (by omega)
end Go.Proofs.YbulkerqFmt
