/-
  addHook, OnStart, OnStop, walked.
-/
import Derived.Test.YbulkeuwFmtAdd
import Derived.Conc.MuLone
import Derived.Maps.AppendAt
namespace Go.Proofs.YbulkeuwFmt
open Go.RowKit Go.MuLone

/-- The handle: the container, the component under way or none; the owner that it gives. -/
inductive Hd (w : World) (H K : Nat) : Int → Prop
  | alone (h : w.heap[H]? = some (.cells #[.pointer (some ⟨K, 0, none⟩), .pointer none] 28 (0, 0))) : Hd w H K (-1)
  | under (C : Nat) (ix : Int) (h : w.heap[H]? = some (.cells #[.pointer (some ⟨K, 0, none⟩), .pointer (some ⟨C, 0, none⟩)] 28 (0, 0))) (hc : w.heap[C]? = some (.cells #[.pointer none, .pointer none, .pointer none, .int .i32 ix, .int .i32 0, .nilIface] 31 (0, 0))) : Hd w H K ix

theorem Hd.keep {w w' : World} {H K : Nat} {ow : Int} (h : Hd w H K ow) (hk : ∀ (k : Nat) (x : Obj) (c : Array Value), w.heap[k]? = some x → (x = .cells c 28 (0, 0) ∨ x = .cells c 31 (0, 0)) → w'.heap[k]? = some x) : Hd w' H K ow := by
  cases h with
  | alone h => exact .alone (hk _ _ _ h (Or.inl rfl))
  | under C ix h hc => exact .under C ow (hk _ _ _ h (Or.inl rfl)) (hk _ _ _ hc (Or.inr rfl))
theorem Hd.fr {B : Nat} {w w' : World} {H K : Nat} {ow : Int} {ov : Value} {m : Int} (h : Hd w H K ow) (hf : Fr B K w w') (hK : w.heap[K]? = some (CO ov m)) : Hd w' H K ow :=
  h.keep fun k x c hx hc => by
    rw [hf.block k (blk_lt hx) (fun e => by subst e; rw [hK] at hx; cases hx; rcases hc with hc | hc <;> simp [CO] at hc) (fun _ c' => by rw [hx]; rcases hc with rfl | rfl <;> simp)]; exact hx
theorem Hd.h0 {w : World} {H K : Nat} {ow : Int} (h : Hd w H K ow) : w.cell? ⟨H, 0, none⟩ = some (.pointer (some ⟨K, 0, none⟩)) := by
  cases h with
  | alone h => rw [blk_cell h]; rfl
  | under C ix h hc => rw [blk_cell h]; rfl

theorem owner_any (w : World) (H K : Nat) (ow : Int) (ov : Value) (m : Int) (nm : ByteArray) (f : Fn) (first cap : Array Value) (h : Hd w H K ow) (hK : w.heap[K]? = some (CO ov m)) :
    Calls Ybaf.prog 13 #[.pointer (some ⟨H, 0, none⟩), .string nm, .func f first cap] w fun e w' => e = .returned (.int .i32 ow) ∧ w' = w := by
  cases h with
  | alone h => exact owner_none w H K ov m nm f first cap h hK
  | under C ix h hc => exact owner_some w H K C ov m ow nm f first cap h hK (by rw [blk_cell hc]; rfl)

/-- The hooks that the container holds. -/
def Hs (B K : Nat) (w : World) (m : Int) (n : Nat) (es : List Value) : Prop := ∃ ov bs, w.heap[K]? = some (CO ov m) ∧ Ls B w ov bs ∧ flat bs = es ∧ num bs = n ∧ bs.length ≤ n

theorem Hs.add {B K : Nat} {w : World} {m : Int} {n : Nat} {es : List Value} (h : Hs B K w m n es) (hn : n < 1024) (o : Int) (f : Fn) (first cap : Array Value) (st : Bool) :
    Calls Ybaf.prog 12 #[.pointer (some ⟨K, 8, none⟩), .agg #[.int .i32 o, .func f first cap, .bool st]] w fun e w' => e = .returned (.tuple #[]) ∧ Hs B K w' m (n + 1) (es ++ [.int .i32 o, .func f first cap, .bool st]) ∧ Fr B K w w' := by
  obtain ⟨ov, bs, hK, hL, hfl, hnum, hlen⟩ := h
  refine (add_any B K w ov bs o m f first cap st hK hL (by omega)).mono ?_
  rintro e w' ⟨he, ov', bs', hK', hL', hfl', hn', hl', hfr⟩
  exact ⟨he, ⟨ov', bs', hK', hL', by rw [hfl', hfl], by omega, by omega⟩, hfr⟩

theorem Hs.lock {B K : Nat} {w : World} {m m' : Int} {n : Nat} {es : List Value} (h : Hs B K w m n es) : Hs B K (w.setCell ⟨K, 1, none⟩ (.int .i32 m')) m' n es := by
  obtain ⟨ov, bs, hK, hL, r⟩ := h
  refine ⟨ov, bs, ?_, hL.setK hK 1 _, r⟩
  rw [blk_set (k := 1) hK]; rfl
theorem Hs.at1 {B K : Nat} {w : World} {m : Int} {n : Nat} {es : List Value} (h : Hs B K w m n es) : w.cell? ⟨K, 1, none⟩ = some (.int .i32 m) ∧ w.frozen? ⟨K, 1, none⟩ = false := by
  obtain ⟨ov, bs, hK, hL, r⟩ := h
  exact ⟨by rw [blk_cell hK]; rfl, blk_free hK 1⟩
theorem Hs.drew {B K : Nat} {w : World} {m : Int} {n : Nat} {es : List Value} (h : Hs B K w m n es) : Hs B K w.drew m n es := by
  obtain ⟨ov, bs, hK, hL, r⟩ := h
  exact ⟨ov, bs, hK, ⟨hL.bw, hL.outer, hL.inner, hL.nodup, hL.caps⟩, r⟩

/-- No panic, no jump: the normal way alone. -/
def OnlyN (N : Act → World → Prop) : Exit → Act → World → Prop
  | .normal, a, w => N a w
  | _, _, _ => False
theorem wp_onlyN {P : Program} {c : Code} {Q : Exit → Act → World → Prop} {a : Act} {w : World} (h : ∀ N : Act → World → Prop, (∀ a w, Q .normal a w → N a w) → c.wp P (OnlyN N) a w) : c.wp P Q a w :=
  wp_mono (h (Q .normal) (fun _ _ q => q)) (by intro e a w h; cases e <;> first | exact h | exact h.elim)

set_option maxRecDepth 100000 in
set_option maxHeartbeats 2000000 in
theorem hook_any (B H K : Nat) (w : World) (ow : Int) (n : Nat) (es : List Value) (nm : ByteArray) (f : Fn) (first cap : Array Value) (st : Bool) (hH : Hd w H K ow) (hS : Hs B K w 0 n es) (hn : n < 1024) :
    Calls Ybaf.prog 8 #[.pointer (some ⟨H, 0, none⟩), .string nm, .func f first cap, .bool st] w fun e w' => e = .returned (.tuple #[]) ∧ Hs B K w' 0 (n + 1) (es ++ [.int .i32 ow, .func f first cap, .bool st]) ∧ Hd w' H K ow ∧ Fr B K w w' := by
  have h0 := hH.h0
  obtain ⟨l1, l2⟩ := hS.at1
  have HH : Hid _ := hH
  have HS : Hid (Hs B K w 0 n es) := hS
  clear hH hS
  go_enter_defers Ybaf.func8, Ybaf.ntmps8
  go_wp2_with (go_at_call 10; refine (lock_free Ybaf.muLib ⟨K, 1, none⟩ _ l1 l2).mono ?_; rintro e w' ⟨rfl, rfl⟩)
  obtain ⟨W, hW⟩ : ∃ W, W = w.setCell ⟨K, 1, none⟩ (.int .i32 1) := ⟨_, rfl⟩
  rw [← hW]
  have hf1 : Fr B K w W := by rw [hW]; exact (Fr.refl B K w).setK 1 _
  have HS1 : Hid (Hs B K W.drew 1 n es) := by rw [hW]; exact (Hs.lock HS.out).drew
  have HF1 : Hid (Fr B K w W.drew) := hf1.drew
  have HH1 : Hid (Hd W.drew H K ow) := by obtain ⟨ov, bs, hK, _⟩ := HS.out; exact HH.out.fr hf1.drew hK
  have h1 : W.cell? ⟨H, 0, none⟩ = some (.pointer (some ⟨K, 0, none⟩)) := HH1.out.h0
  have HOW : Hid (Calls Ybaf.prog 13 #[.pointer (some ⟨H, 0, none⟩), .string nm, .func f first cap] W.drew fun e w' => e = .returned (.int .i32 ow) ∧ w' = W.drew) := by
    obtain ⟨ovv, bss, hKK, _⟩ := HS1.out
    exact owner_any _ H K ow ovv 1 nm f first cap HH1.out hKK
  have HAD : Hid (Calls Ybaf.prog 12 #[.pointer (some ⟨K, 8, none⟩), .agg #[.int .i32 ow, .func f first cap, .bool st]] W.drew fun e w' => e = .returned (.tuple #[]) ∧ Hs B K w' 1 (n + 1) (es ++ [.int .i32 ow, .func f first cap, .bool st]) ∧ Fr B K W.drew w') := HS1.out.add hn ow f first cap st
  clear hW hf1 HS HH l1 l2 h0
  refine wp_onlyN fun N hN => ?_
  go_region_law (first
    | (go_simp; go_at_call 13; refine HOW.out.mono ?_; rintro e w' ⟨rfl, rfl⟩)
    | (go_simp; go_at_call 12; refine HAD.out.mono ?_; rintro e w2 ⟨rfl, hs2, hf2⟩; have HS2 : Hid (Hs B K w2 1 (n + 1) (es ++ [.int .i32 ow, .func f first cap, .bool st])) := hs2; have HF2 : Hid (Fr B K W.drew w2) := hf2; clear hs2 hf2))
  all_goals
    refine hN _ _ ?_
    clear hN N
    go_wp2_with fail
    refine leaves_cons (f := 11) (args := #[.pointer (some ⟨K, 1, none⟩)]) (by simp) (by simp [go_sem]) ?_
    refine (unlock_deferred Ybaf.muLib ⟨K, 1, none⟩ .returning _ (Hs.at1 HS2.out).1 (Hs.at1 HS2.out).2).mono ?_
    rintro e u' w'' ⟨rfl, rfl, rfl⟩
    have hf := HF1.out.trans HF2.out
    have hf3 : Fr B K W.drew (w2.setCell ⟨K, 1, none⟩ (.int .i32 0)) := HF2.out.setK 1 _
    obtain ⟨ovv, bss, hKK, _⟩ := HS1.out
    exact ⟨_, results_none rfl _ _ _, rfl, Hs.lock HS2.out, HH1.out.fr hf3 hKK, hf.setK 1 _⟩

theorem start_any (B H K : Nat) (w : World) (ow : Int) (n : Nat) (es : List Value) (f : Fn) (first cap : Array Value) (hH : Hd w H K ow) (hS : Hs B K w 0 n es) (hn : n < 1024) :
    Calls Ybaf.prog 6 #[.pointer (some ⟨H, 0, none⟩), .func f first cap] w fun e w' => e = .returned (.tuple #[]) ∧ Hs B K w' 0 (n + 1) (es ++ [.int .i32 ow, .func f first cap, .bool true]) ∧ Hd w' H K ow ∧ Fr B K w w' := by
  go_enter Ybaf.func6, Ybaf.ntmps6
  go_wp2_with fail
  refine (hook_any B H K w ow n es _ f first cap true hH hS hn).mono ?_
  rintro e w' ⟨rfl, h⟩
  have HH : Hid _ := h
  clear h
  go_wp2
  go_end0
  exact ⟨rfl, HH.out⟩
theorem stop_any (B H K : Nat) (w : World) (ow : Int) (n : Nat) (es : List Value) (f : Fn) (first cap : Array Value) (hH : Hd w H K ow) (hS : Hs B K w 0 n es) (hn : n < 1024) :
    Calls Ybaf.prog 7 #[.pointer (some ⟨H, 0, none⟩), .func f first cap] w fun e w' => e = .returned (.tuple #[]) ∧ Hs B K w' 0 (n + 1) (es ++ [.int .i32 ow, .func f first cap, .bool false]) ∧ Hd w' H K ow ∧ Fr B K w w' := by
  go_enter Ybaf.func7, Ybaf.ntmps7
  go_wp2_with fail
  refine (hook_any B H K w ow n es _ f first cap false hH hS hn).mono ?_
  rintro e w' ⟨rfl, h⟩
  have HH : Hid _ := h
  clear h
  go_wp2
  go_end0
  exact ⟨rfl, HH.out⟩

theorem log_after {w w3 : World} {B1 L n : Nat} {lv : Value} {zs : List Value} {o : Obj} (hL : w.heap[L]? = some (.cells #[lv] 32 (0, 0))) (ho : w.ownsRow B1 3 1 lv n zs) (hg : (w.alloc o).grownBy w3 lv.ownBlock) : w3.heap[L]? = some (.cells #[lv] 32 (0, 0)) := by
  have h' := blk_alloc hL o
  rw [hg.block L (blk_lt h') (fun e => by
    obtain ⟨_, c, hc⟩ := owns_blk ho L e.symm
    rw [hL] at hc; simp at hc)]
  exact h'

/-- What the hook leaves as it was. -/
structure Lg (B1 L : Nat) (w w' : World) : Prop where
  os : w'.os = w.os
  tape : w'.tape = w.tape
  output : w'.output = w.output
  size : w.heap.size ≤ w'.heap.size
  block : ∀ j, j < w.heap.size → j ≠ L → j < B1 → w'.heap[j]? = w.heap[j]?

set_option maxRecDepth 100000 in
/-- The hook: the log's slice grows by its own number. B1: from where on the log's rows lie. -/
theorem run_any (w : World) (B1 L p : Nat) (lv : Value) (n : Nat) (zs : List Value) (k : Int) (ctx : Value) (hL : w.heap[L]? = some (.cells #[lv] 32 (0, 0))) (hp : w.cell? ⟨p, 0, none⟩ = some (.int .i64 k)) (ho : w.ownsRow B1 3 1 lv n zs) (hn : n < 1024) (hB : B1 ≤ w.heap.size) :
    Calls Ybaf.prog 5 #[ctx, .pointer (some ⟨L, 0, none⟩), .pointer (some ⟨p, 0, none⟩)] w fun e w' => e = .returned .nilIface ∧ ∃ lv', w'.heap[L]? = some (.cells #[lv'] 32 (0, 0)) ∧ w'.ownsRow B1 3 1 lv' (n + 1) (zs ++ [.int .i64 k]) ∧ Lg B1 L w w' := by
  obtain ⟨i3, hi, hz0, hz1, hz2⟩ := info_parts info3
  have hLc : w.cell? ⟨L, 0, none⟩ = some lv := by rw [blk_cell hL]; rfl
  have HO : Hid (w.ownsRow B1 3 1 lv n zs) := ho
  have HL : Hid (w.heap[L]? = some (.cells #[lv] 32 (0, 0))) := hL
  clear hL ho
  go_enter Ybaf.func5, Ybaf.ntmps5
  go_wp2_with (at_builtin; refine wpList_append_own _ rfl _ _ 32 rfl B1 3 i3 (.int .i64 0) 1 8 Ybaf.underlying32 hi hz0 hz1 hz2 rfl (by decide) lv n zs rfl (HO.out.alloc _) ⟨w.heap.size, 0, none⟩ 1 1 [.int .i64 k] rfl rfl (cell_one_new _ _ _) (by intro u hu; simp at hu; subst hu; rfl) (by simp [maxLen]; omega) (by omega) (by simp; omega) ?_; intro v' w3 hown3 hgrow3 _; have hb3 := log_after HL.out HO.out hgrow3; have hc3 : w3.cell? ⟨L, 0, none⟩ = some lv := (by rw [blk_cell hb3]; rfl); have hf3 : w3.frozen? ⟨L, 0, none⟩ = false := blk_free hb3 0; obtain ⟨g3, cap3, rfl⟩ := owns_form hown3; have H3 : Hid (w3.ownsRow _ _ _ _ _ _) := hown3; have G3 : Hid _ := hgrow3; have B3 : Hid _ := hb3; clear hown3 hgrow3 hb3)
  go_ret
  refine ⟨rfl, _, by rw [blk_set B3.out]; rfl, owns_keep H3.out fun g c hg hh => blk_other (fun e => by subst e; rw [B3.out] at hh; simp at hh) _, ?_⟩
  have hgr := G3.out
  refine ⟨hgr.os, hgr.tape, hgr.output, ?_, fun j hj hjL hjB => ?_⟩
  · have := hgr.size
    rw [World.size_alloc] at this
    simp [World.setCell]; omega
  · rw [blk_other hjL, hgr.block j (by rw [World.size_alloc]; omega) (fun e => by
      have := (owns_blk HO.out j e.symm).1
      omega)]
    exact Below.heap_alloc _ _ _ hj
end Go.Proofs.YbulkeuwFmt
