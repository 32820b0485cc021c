/-
  LawS0282BRecords, walked.
-/
import Derived.Test.YbulkeuwFmtHook
import Derived.Laws.EntriesVeiled
namespace Go.Proofs.YbulkeuwFmt
open Go.RowKit

/-- A slice of bytes, as the walk reads it. -/
def U8s (w : World) (a : Option Addr) (os : List Int) : Prop := ∀ (j : Nat) (z : Int), os[j]? = some z → ∃ b o, a = some ⟨b, o, none⟩ ∧ w.cell? ⟨b, o + j, none⟩ = some (.int .u8 z) ∧ 0 ≤ z ∧ z ≤ 255

def fnOf (L p : Nat) : Value := .func (.func 5) #[] #[.pointer (some ⟨L, 0, none⟩), .pointer (some ⟨p, 0, none⟩)]
def ent (ow : Int) (L : Nat) (q : Nat × Bool) : List Value := [.int .i32 ow, fnOf L q.1, .bool q.2]
def ents (ow : Int) (L : Nat) (qs : List (Nat × Bool)) : List Value := qs.flatMap (ent ow L)
def stOf (z : Int) : Bool := z % 4 = 0 ∨ z % 4 = 2

/-- The numbers' cells, and the flags. -/
def Ks (w : World) (os : List Int) (qs : List (Nat × Bool)) : Prop := ∀ (i : Nat) (q : Nat × Bool), qs[i]? = some q → w.heap[q.1]? = some (.cells #[.int .i64 (i : Int)] 3 (0, 0)) ∧ ∃ z, os[i]? = some z ∧ q.2 = stOf z

theorem hs_start (w : World) (o : Obj) : Hs w.heap.size w.heap.size ((w.alloc (CO (.slice none 0 0) 0)).alloc o) 0 0 [] :=
  ⟨.slice none 0 0, [], blk_alloc (blk_new w _) _, ⟨by simp; omega, World.ownsRow_nil _ _ _ _, fun b hb => by simp at hb, by simp, fun b hb => by simp at hb⟩, rfl, rfl, Nat.le_refl _⟩
theorem Hs.alloc {B K : Nat} {w : World} {m : Int} {n : Nat} {es : List Value} (h : Hs B K w m n es) (o : Obj) : Hs B K (w.alloc o) m n es := by
  obtain ⟨ov, bs, hK, hL, r⟩ := h
  exact ⟨ov, bs, blk_alloc hK o, hL.alloc o, r⟩
theorem Hd.alloc {w : World} {H K : Nat} {ow : Int} (h : Hd w H K ow) (o : Obj) : Hd (w.alloc o) H K ow := h.keep fun _ _ _ hx _ => blk_alloc hx o

/-- The state ahead of the hooks: the handle in use. -/
structure Go0 (w wx : World) (H : Nat) (ow : Int) : Prop where
  hd : Hd wx H w.heap.size ow
  hs : Hs w.heap.size w.heap.size wx 0 0 []
  top : wx.heap[w.heap.size + 1]? = some (.cells #[.pointer (some ⟨w.heap.size, 0, none⟩), .pointer none] 28 (0, 0))
  bel : Below w.heap.size w wx

/-- The state behind j hooks. -/
structure Lp (w wr : World) (H : Nat) (ow : Int) (L : Nat) (os : List Int) (j : Nat) (qs : List (Nat × Bool)) : Prop where
  hd : Hd wr H w.heap.size ow
  len : qs.length = j
  hs : Hs w.heap.size w.heap.size wr 0 j (ents ow L qs)
  ks : Ks wr os qs
  top : wr.heap[w.heap.size + 1]? = some (.cells #[.pointer (some ⟨w.heap.size, 0, none⟩), .pointer none] 28 (0, 0))
  log : wr.heap[L]? = some (.cells #[.slice none 0 0] 32 (0, 0))
  bel : Below w.heap.size w wr
  bL : w.heap.size ≤ L

theorem Lp.start {w wc : World} {H : Nat} {ow : Int} {os : List Int} (h : Go0 w wc H ow) : Lp w (wc.alloc (.cells #[.slice none 0 0] 32 (0, 0))) H ow wc.heap.size os 0 [] :=
  ⟨h.hd.alloc _, rfl, h.hs.alloc _, fun i q hq => by simp at hq, blk_alloc h.top _, blk_new wc _, h.bel.alloc h.bel.size _, h.bel.size⟩

theorem fr_keep {B K k : Nat} {w w' : World} {c : Array Value} {e : TypeId} {ov : Value} {m : Int} (h : Fr B K w w') (hk : w.heap[k]? = some (.cells c e (0, 0))) (hK : w.heap[K]? = some (CO ov m)) (h1 : e ≠ 63) (h2 : e ≠ 64) (h3 : e ≠ 69) : w'.heap[k]? = some (.cells c e (0, 0)) := by
  rw [h.block k (blk_lt hk) (fun x => by subst x; rw [hK] at hk; simp [CO] at hk; exact h1 hk.2.symm) (fun _ c' => by rw [hk]; refine ⟨?_, ?_⟩ <;> (intro x; simp at x; first | exact h2 x.2 | exact h3 x.2))]
  exact hk

theorem Lp.step {w wr w2 : World} {H : Nat} {ow : Int} {L : Nat} {os : List Int} {j : Nat} {qs : List (Nat × Bool)} {z : Int} {st : Bool} (h : Lp w wr H ow L os j qs) (hz : os[j]? = some z) (hst : st = stOf z)
    (h2 : Hs w.heap.size w.heap.size w2 0 (j + 1) (ents ow L qs ++ [.int .i32 ow, fnOf L wr.heap.size, .bool st])) (hd2 : Hd w2 H w.heap.size ow) (hf : Fr w.heap.size w.heap.size (wr.alloc (.cells #[.int .i64 (j : Int)] 3 (0, 0))) w2) :
    Lp w w2 H ow L os (j + 1) (qs ++ [(wr.heap.size, st)]) := by
  obtain ⟨ov, bs, hK, _⟩ := h.hs
  have hK' := blk_alloc hK (.cells #[.int .i64 (j : Int)] 3 (0, 0))
  refine ⟨hd2, by simp [h.len], ?_, fun i q hq => ?_, fr_keep hf (blk_alloc h.top _) hK' (by decide) (by decide) (by decide), fr_keep hf (blk_alloc h.log _) hK' (by decide) (by decide) (by decide), ?_, h.bL⟩
  · simpa [ents, ent] using h2
  · by_cases hi : i < qs.length
    · rw [List.getElem?_append_left hi] at hq
      obtain ⟨e, r⟩ := h.ks i q hq
      exact ⟨fr_keep hf (blk_alloc e _) hK' (by decide) (by decide) (by decide), r⟩
    · rw [List.getElem?_append_right (by omega)] at hq
      have hi2 : i = qs.length := by
        have := (List.getElem?_eq_some_iff.1 hq).1
        simp at this; omega
      subst hi2
      simp at hq
      subst hq
      rw [h.len]
      exact ⟨fr_keep hf (blk_new wr _) hK' (by decide) (by decide) (by decide), z, hz, hst⟩
  · exact (h.bel.alloc h.bel.size _).trans (hf.below (by have := h.bel.size; simp; omega) (Nat.le_refl _))

theorem owns_cells {w : World} {B : Nat} {e : TypeId} {size : Nat} {g n cap : Nat} {xs : List Value} (h : w.ownsRow B e size (.slice (some ⟨g, 0, none⟩) n cap) n xs) : ∀ j u, xs[j]? = some u → w.cell? ⟨g, j, none⟩ = some u := by
  intro j u hj
  rcases h.2 with ⟨hv, _⟩ | ⟨g', cap', cur, hv, _, hh, _, _, _, htk⟩
  · cases hv
  · obtain ⟨rfl, _⟩ : g = g' ∧ cap = cap' := by simpa using hv
    rw [blk_cell hh]
    rw [← htk] at hj
    have hlt := (List.getElem?_eq_some_iff.1 hj).1
    rw [List.length_take] at hlt
    rw [List.getElem?_take_of_lt (by omega)] at hj
    simpa using hj
theorem owns_slice {w : World} {B : Nat} {e : TypeId} {size : Nat} {v : Value} {n : Nat} {xs : List Value} (h : w.ownsRow B e size v n xs) : ∃ ra rc, v = .slice ra n rc ∧ (n ≠ 0 → ∃ g, ra = some ⟨g, 0, none⟩ ∧ B ≤ g ∧ g < w.heap.size) := by
  rcases h.2 with ⟨hv, h0⟩ | ⟨g, cap, cur, hv, hB, hh, _⟩
  · exact ⟨none, 0, by rw [h0]; exact hv, fun hn => absurd h0 hn⟩
  · exact ⟨_, cap, hv, fun _ => ⟨g, rfl, hB, blk_lt hh⟩⟩
theorem outer_at {B : Nat} {w : World} {og oc : Nat} {bs : List Bk} (h : Ls B w (.slice (some ⟨og, 0, none⟩) bs.length oc) bs) {i : Nat} {b : Bk} (hb : bs[i]? = some b) : w.cell? ⟨og, i, none⟩ = some b.val ∧ og < w.heap.size := by
  refine ⟨owns_cells h.outer i b.val (by rw [List.getElem?_map, hb]; rfl), ?_⟩
  obtain ⟨_, c, hc⟩ := owns_blk h.outer og rfl
  exact blk_lt hc
theorem flat_take {bs : List Bk} {i : Nat} {b : Bk} (hb : bs[i]? = some b) : flat (bs.take (i + 1)) = flat (bs.take i) ++ b.xs ∧ num (bs.take (i + 1)) = num (bs.take i) + b.n := by
  obtain ⟨hlt, e⟩ := List.getElem?_eq_some_iff.1 hb
  rw [List.take_succ_eq_append_getElem hlt, e]
  simp [flat, num]
theorem num_app (cs bs : List Bk) : num (cs ++ bs) = num cs + num bs := by simp [num]
theorem num_le (bs : List Bk) (i : Nat) : num (bs.take i) ≤ num bs := by
  have h := num_app (bs.take i) (bs.drop i)
  rw [List.take_append_drop] at h
  omega
theorem ents_one {ow : Int} {L : Nat} {qs : List (Nat × Bool)} : ∀ u ∈ ents ow L qs, u.oneCell' = true := by
  intro u hu
  obtain ⟨q, _, hq⟩ := List.mem_flatMap.1 hu
  simp [ent, fnOf] at hq
  rcases hq with rfl | rfl | rfl <;> rfl

/-- What the walk reads of a block in the second loop. -/
structure Rd (B : Nat) (w : World) (og i : Nat) (b : Bk) : Prop where
  cell : w.cell? ⟨og, i, none⟩ = some (.slice (some ⟨b.g, 0, none⟩) b.n b.cap)
  len : b.xs.length = b.n * 3
  cells : ∀ j u, b.xs[j]? = some u → w.cell? ((⟨b.g, 0, none⟩ : Addr).add j) = some u
theorem rd_of {B : Nat} {w w2 : World} {og oc : Nat} {bs : List Bk} (h : Ls B w (.slice (some ⟨og, 0, none⟩) bs.length oc) bs) {i : Nat} {b : Bk} (hb : bs[i]? = some b) (hbel : Below w.heap.size w w2) : Rd B w2 og i b := by
  obtain ⟨h1, h2⟩ := outer_at h hb
  have hin := h.inner b (List.mem_of_getElem? hb)
  obtain ⟨_, c, hc⟩ := owns_blk hin b.g rfl
  have hin2 : w2.ownsRow B 69 3 b.val b.n b.xs := owns_keep hin fun g c' hg hh => hbel.block g (blk_lt hh)
  refine ⟨?_, hin.1, fun j u hj => ?_⟩
  · rw [hbel.cell (by exact h2)]; exact h1
  · have := owns_cells (n := b.n) (cap := b.cap) hin2 j u hj
    rw [Addr.add_lit, Nat.zero_add]; exact this

theorem bg_any (w : World) : Calls Ybaf.prog 9 #[] w fun e w' => e = .returned (.iface 78 (.agg #[])) ∧ w' = w := by
  go_enter Ybaf.func9, Ybaf.ntmps9
  go_wp2
  go_ret
  exact ⟨rfl, rfl⟩

theorem ents_at {ow : Int} {L : Nat} : ∀ {qs : List (Nat × Bool)} {i : Nat} {q : Nat × Bool}, qs[i]? = some q → (ents ow L qs)[i * 3]? = some (.int .i32 ow) ∧ (ents ow L qs)[i * 3 + 1]? = some (fnOf L q.1) ∧ (ents ow L qs)[i * 3 + 2]? = some (.bool q.2)
  | [], i, q, h => by simp at h
  | x :: qs, 0, q, h => by simp at h; subst h; simp [ents, ent]
  | x :: qs, i + 1, q, h => by
    simp at h
    obtain ⟨h1, h2, h3⟩ := ents_at (ow := ow) (L := L) h
    have e : ents ow L (x :: qs) = ent ow L x ++ ents ow L qs := by simp [ents]
    have hl : (ent ow L x).length = 3 := rfl
    rw [e]
    refine ⟨?_, ?_, ?_⟩
    · rw [List.getElem?_append_right (by omega), hl, show (i + 1) * 3 - 3 = i * 3 from by omega]; exact h1
    · rw [List.getElem?_append_right (by omega), hl, show (i + 1) * 3 + 1 - 3 = i * 3 + 1 from by omega]; exact h2
    · rw [List.getElem?_append_right (by omega), hl, show (i + 1) * 3 + 2 - 3 = i * 3 + 2 from by omega]; exact h3

def cnt (i : Nat) : List Value := (List.range i).map fun t : Nat => .int .i64 (t : Int)
theorem cnt_succ (i : Nat) : cnt (i + 1) = cnt i ++ [.int .i64 (i : Int)] := by simp [cnt, List.range_succ]
theorem cnt_at (i : Nat) : (cnt (i + 1))[i]? = some (.int .i64 (i : Int)) := by simp [cnt]

/-- The state of the third loop behind i rounds: the log. -/
structure Lq (w3 wy : World) (L i : Nat) (lv : Value) : Prop where
  log : wy.heap[L]? = some (.cells #[lv] 32 (0, 0))
  row : wy.ownsRow w3.heap.size 3 1 lv i (cnt i)
  lg : Lg w3.heap.size L w3 wy
theorem Lg.refl (B L : Nat) (w : World) : Lg B L w w := ⟨rfl, rfl, rfl, Nat.le_refl _, fun _ _ _ _ => rfl⟩
theorem Lg.alloc {B L : Nat} {a w : World} (h : Lg B L a w) (o : Obj) : Lg B L a (w.alloc o) :=
  ⟨h.os, h.tape, h.output, by simp; exact Nat.le_succ_of_le h.size, fun j hj hL hB => by rw [Below.heap_alloc _ _ _ (Nat.lt_of_lt_of_le hj h.size)]; exact h.block j hj hL hB⟩
theorem Lg.trans {B L : Nat} {a b c : World} (h : Lg B L a b) (k : Lg B L b c) : Lg B L a c :=
  ⟨k.os.trans h.os, k.tape.trans h.tape, k.output.trans h.output, Nat.le_trans h.size k.size, fun j hj hL hB => (k.block j (Nat.lt_of_lt_of_le hj h.size) hL hB).trans (h.block j hj hL hB)⟩
theorem Lg.below {B L : Nat} {a w : World} (h : Lg B L a w) {B0 : Nat} (h1 : B0 ≤ B) (h2 : B0 ≤ L) (h3 : B0 ≤ a.heap.size) : Below B0 a w :=
  ⟨h.os, h.tape, h.output, h.size, fun k hk => h.block k (by omega) (by omega) (by omega)⟩

theorem Lq.step {w3 wy w5 : World} {L i : Nat} {lv lv' : Value} {o : Obj} (h : Lq w3 wy L i lv) (h1 : w5.heap[L]? = some (.cells #[lv'] 32 (0, 0))) (h2 : w5.ownsRow w3.heap.size 3 1 lv' (i + 1) (cnt i ++ [.int .i64 (i : Int)])) (h3 : Lg w3.heap.size L (wy.alloc o) w5) : Lq w3 w5 L (i + 1) lv' :=
  ⟨h1, by rw [cnt_succ]; exact h2, (h.lg.alloc o).trans h3⟩

theorem nil_neq (w : World) : (binOp .neq 36 .nilIface .nilIface).run Ybaf.prog w = .ok (.bool false) w := by kernel_rfl

/-- What the third loop reads of a registration. -/
structure Rg (wy : World) (g L i b o : Nat) (ow z : Int) (q : Nat × Bool) : Prop where
  c0 : wy.cell? ⟨g, i * 3, none⟩ = some (.int .i32 ow)
  c1 : wy.cell? ⟨g, i * 3 + 1, none⟩ = some (.func (.func 5) #[] #[.pointer (some ⟨L, 0, none⟩), .pointer (some ⟨q.1, 0, none⟩)])
  c2 : wy.cell? ⟨g, i * 3 + 2, none⟩ = some (.bool q.2)
  kc : wy.heap[q.1]? = some (.cells #[.int .i64 (i : Int)] 3 (0, 0))
  oc : wy.cell? ⟨b, o + i, none⟩ = some (.int .u8 z)
  st : q.2 = stOf z
theorem rg_of {w w2 w3 wy : World} {H L g rcap i b o : Nat} {ow z : Int} {os : List Int} {qs : List (Nat × Bool)} {lv : Value} (hlp : Lp w w2 H ow L os os.length qs) (hbe : Below w2.heap.size w2 w3) (hL2 : L < w2.heap.size) (hro : w3.ownsRow w2.heap.size 69 3 (.slice (some ⟨g, 0, none⟩) os.length rcap) os.length (ents ow L qs)) (hlq : Lq w3 wy L i lv)
    (hz : os[i]? = some z) (hcell : w.cell? ⟨b, o + i, none⟩ = some (.int .u8 z)) : ∃ q, Rg wy g L i b o ow z q := by
  have hi : i < qs.length := by rw [hlp.len]; exact (List.getElem?_eq_some_iff.1 hz).1
  obtain ⟨q, hq⟩ : ∃ q, qs[i]? = some q := ⟨_, List.getElem?_eq_getElem hi⟩
  obtain ⟨e0, e1, e2⟩ := ents_at (ow := ow) (L := L) hq
  obtain ⟨hk, z', hz', hst⟩ := hlp.ks i q hq
  rw [hz] at hz'
  cases hz'
  obtain ⟨hBg, cg, hcg⟩ := owns_blk hro g rfl
  have hgL : g ≠ L := by omega
  have hcell' : ∀ k, wy.cell? ⟨g, k, none⟩ = w3.cell? ⟨g, k, none⟩ := fun k => World.cell?_of_block (w := w3) (hlq.lg.block g (blk_lt hcg) hgL (blk_lt hcg))
  have hkL : q.1 ≠ L := fun e => by rw [e, hlp.log] at hk; simp at hk
  have hs3 : w2.heap.size ≤ w3.heap.size := hbe.size
  have hk3 : w3.heap[q.1]? = some (.cells #[.int .i64 (i : Int)] 3 (0, 0)) := by rw [hbe.block q.1 (blk_lt hk)]; exact hk
  have hbw : b < w.heap.size := World.block_lt_of_cell? _ _ hcell
  have hbelw : Below w.heap.size w wy := (hlp.bel.trans ⟨hbe.os, hbe.tape, hbe.output, hbe.size, fun k hk => hbe.block k (by have := hlp.bel.size; omega)⟩).trans (hlq.lg.below (by have := hlp.bel.size; omega) hlp.bL (by have := hlp.bel.size; omega))
  refine ⟨q, ?_, ?_, ?_, ?_, ?_, hst⟩
  · rw [hcell']; exact owns_cells hro _ _ e0
  · rw [hcell']; exact owns_cells hro _ _ e1
  · rw [hcell']; exact owns_cells hro _ _ e2
  · rw [hlq.lg.block q.1 (blk_lt hk3) hkL (blk_lt hk3)]; exact hk3
  · exact (hbelw.cell (by exact hbw)).trans hcell

set_option maxRecDepth 100000 in
set_option maxHeartbeats 4000000 in
theorem law_any (w : World) (a : Option Addr) (c : Nat) (os : List Int) (ix : Int) (ib : Bool) (hO : U8s w a os) (hl : os.length ≤ 1024) :
    Calls Ybaf.prog 3 #[.slice a os.length c, .int .i32 ix, .bool ib] w fun e w' => e = .returned (.bool true) ∧ Below w.heap.size w w' := by
  have hl' : ¬ (1024 : Int) < (os.length : Int) := by omega
  go_enter Ybaf.func3, Ybaf.ntmps3
  go_wp2_with fail
  refine (new_any w).mono ?_
  rintro e w1 ⟨rfl, hw1⟩
  have HW1 : Hid _ := hw1
  clear hw1
  go_upto_if 27 with fail
  go_cut [8, 9] from 28 to 37 (fun s8 s9 wx => ∃ H ow, s8 = .pointer (some ⟨H, 0, none⟩) ∧ s9 = .int .i32 ow ∧ Go0 w wx H ow)
  case first =>
    have hw1 := HW1.out
    have h0 : w1.cell? ⟨w.heap.size + 1, 0, none⟩ = some (.pointer (some ⟨w.heap.size, 0, none⟩)) := by
      have := blk_new (w.alloc (CO (.slice none 0 0) 0)) (.cells #[.pointer (some ⟨w.heap.size, 0, none⟩), .pointer none] 28 (0, 0))
      rw [← hw1, World.size_alloc] at this
      rw [blk_cell this]; rfl
    have htop : w1.heap[w.heap.size + 1]? = some (.cells #[.pointer (some ⟨w.heap.size, 0, none⟩), .pointer none] 28 (0, 0)) := by
      have := blk_new (w.alloc (CO (.slice none 0 0) 0)) (.cells #[.pointer (some ⟨w.heap.size, 0, none⟩), .pointer none] 28 (0, 0))
      rw [← hw1, World.size_alloc] at this
      exact this
    have hbel : Below w.heap.size w w1 := by rw [hw1]; exact ((Below.refl _ w).alloc (Nat.le_refl _) _).alloc (by simp) _
    have hhs : Hs w.heap.size w.heap.size w1 0 0 [] := by rw [hw1]; exact hs_start w _
    have HT : Hid _ := htop
    have HB : Hid _ := hbel
    have HS : Hid (Hs _ _ _ _ _ _) := hhs
    have HSZ : Hid (w1.heap.size = w.heap.size + 2) := by show w1.heap.size = _; rw [hw1]; simp
    clear htop hbel hhs hw1 HW1 hO
    cases ib
    · go_wp2_with fail
      go_meet
      case rel => exact ⟨_, _, rfl, rfl, .alone HT.out, HS.out, HT.out, HB.out⟩
    · go_wp2_with fail
      go_meet
      case rel =>
        have hsz := HSZ.out
        refine ⟨w1.heap.size + 1, ix, rfl, rfl, .under w1.heap.size ix ?_ (blk_alloc (blk_new w1 _) _), (Hs.alloc HS.out _).alloc _, blk_alloc (blk_alloc HT.out _) _, (HB.out.alloc (by omega) _).alloc (by simp; omega) _⟩
        have := blk_new (w1.alloc (.cells #[.pointer none, .pointer none, .pointer none, .int .i32 ix, .int .i32 0, .nilIface] 31 (0, 0))) (.cells #[.pointer (some ⟨w.heap.size, 0, none⟩), .pointer (some ⟨w1.heap.size, 0, none⟩)] 28 (0, 0))
        rw [World.size_alloc] at this
        exact this
  case rest =>
    obtain ⟨H, ow, rfl, rfl, hg⟩ := hcut
    have HG : Hid (Go0 w wc H ow) := hg
    clear hg HW1
    go_wp2_with fail
    go_loopg [40] os.length (fun k s40 wr => ∃ (j : Nat) (qs : List (Nat × Bool)), j ≤ os.length ∧ k = os.length - j ∧ s40 = .int .i64 (j : Int) ∧ Lp w wr H ow wc.heap.size os j qs)
    case atStart => exact ⟨0, [], Nat.zero_le _, rfl, rfl, Lp.start HG.out⟩
    case round =>
      obtain ⟨j, qs, hj, rfl, rfl, hlp⟩ := hrel
      have HLP : Hid (Lp w wr H ow wc.heap.size os j qs) := hlp
      clear hlp
      by_cases hlt : j < os.length
      · obtain ⟨z, hz⟩ : ∃ z, os[j]? = some z := ⟨_, List.getElem?_eq_getElem hlt⟩
        obtain ⟨b, o, rfl, hc0, z0, z1⟩ := hO j z hz
        have hbw : b < w.heap.size := World.block_lt_of_cell? _ _ hc0
        have hc : wr.cell? ⟨b, o + j, none⟩ = some (.int .u8 z) := (HLP.out.bel.cell (by exact hbw)).trans hc0
        have hltz : (j : Int) < (os.length : Int) := by omega
        have HZ : Hid _ := hz
        have hmf : ∀ (fn : Fn) (first cap : Array Value) (w : World), (Instr.makeFunc fn first cap).run Ybaf.prog w = .ok (.func fn first cap) w := fun _ _ _ _ => rfl
        clear hc0 hO hz
        have HHD := HLP.out.hd.alloc (.cells #[.int .i64 (j : Int)] 3 (0, 0))
        have HHS := HLP.out.hs.alloc (.cells #[.int .i64 (j : Int)] 3 (0, 0))
        have HA : Hid _ := HHD
        have HB : Hid (Hs _ _ _ _ _ _) := HHS
        clear HHD HHS
        rcases (show z % 4 = 0 ∨ z % 4 = 1 ∨ z % 4 = 2 ∨ z % 4 = 3 from by omega) with hm | hm | hm | hm
        · go_wp2_with fail
          refine (start_any _ H _ _ ow j _ _ _ _ HA.out HB.out (by omega)).mono ?_
          rintro e w2 ⟨rfl, hs2, hd2, hf2⟩
          have HR : Hid (Lp w w2 H ow wc.heap.size os (j + 1) (qs ++ [(wr.heap.size, true)])) := HLP.out.step HZ.out (by simp [stOf, hm]) hs2 hd2 hf2
          clear hs2 hd2 hf2
          go_wp2
          go_roundg (os.length - (j + 1))
          case measure => omega
          case rel => exact ⟨j + 1, _, by omega, rfl, by go_num, HR.out⟩
        · go_wp2_with fail
          refine (stop_any _ H _ _ ow j _ _ _ _ HA.out HB.out (by omega)).mono ?_
          rintro e w2 ⟨rfl, hs2, hd2, hf2⟩
          have HR : Hid (Lp w w2 H ow wc.heap.size os (j + 1) (qs ++ [(wr.heap.size, false)])) := HLP.out.step HZ.out (by simp [stOf, hm]) hs2 hd2 hf2
          clear hs2 hd2 hf2
          go_wp2
          go_roundg (os.length - (j + 1))
          case measure => omega
          case rel => exact ⟨j + 1, _, by omega, rfl, by go_num, HR.out⟩
        · go_wp2_with fail
          refine (hook_any _ H _ _ ow j _ _ _ _ _ true HA.out HB.out (by omega)).mono ?_
          rintro e w2 ⟨rfl, hs2, hd2, hf2⟩
          have HR : Hid (Lp w w2 H ow wc.heap.size os (j + 1) (qs ++ [(wr.heap.size, true)])) := HLP.out.step HZ.out (by simp [stOf, hm]) hs2 hd2 hf2
          clear hs2 hd2 hf2
          go_wp2
          go_roundg (os.length - (j + 1))
          case measure => omega
          case rel => exact ⟨j + 1, _, by omega, rfl, by go_num, HR.out⟩
        · go_wp2_with fail
          refine (hook_any _ H _ _ ow j _ _ _ _ _ false HA.out HB.out (by omega)).mono ?_
          rintro e w2 ⟨rfl, hs2, hd2, hf2⟩
          have HR : Hid (Lp w w2 H ow wc.heap.size os (j + 1) (qs ++ [(wr.heap.size, false)])) := HLP.out.step HZ.out (by simp [stOf, hm]) hs2 hd2 hf2
          clear hs2 hd2 hf2
          go_wp2
          go_roundg (os.length - (j + 1))
          case measure => omega
          case rel => exact ⟨j + 1, _, by omega, rfl, by go_num, HR.out⟩
      · obtain rfl : j = os.length := by omega
        obtain ⟨w2, hw2⟩ : ∃ w2, w2 = wr := ⟨_, rfl⟩
        subst hw2
        obtain ⟨ov, bs, hK, hL, hfl, hnum, hblen⟩ := HLP.out.hs
        obtain ⟨ao, oc, rfl, hao⟩ := outer_form hL
        have t1 : w2.cell? ⟨w.heap.size + 1, 0, none⟩ = some (.pointer (some ⟨w.heap.size, 0, none⟩)) := by rw [blk_cell HLP.out.top]; rfl
        have k9 : w2.cell? ⟨w.heap.size, 9, none⟩ = some (.slice none 0 0) := by rw [blk_cell hK]; rfl
        have k8 : w2.cell? ⟨w.heap.size, 8, none⟩ = some (.slice ao bs.length oc) := by rw [blk_cell hK]; rfl
        have HL2 : Hid (Ls w.heap.size w2 (.slice ao bs.length oc) bs) := hL
        have HFL : Hid _ := hfl
        have HNU : Hid _ := hnum
        have HAO : Hid _ := hao
        clear hK hL hfl hnum hao
        have hnl : ¬ (os.length : Int) < (os.length : Int) := by omega
        go_wp2_with fail
        obtain ⟨i69, hi, hz0, hz1, hz2⟩ := info_parts info69
        go_loopg [15, 87] bs.length (fun k s15 s87 wy => ∃ i : Nat, i ≤ bs.length ∧ k = bs.length - i ∧ s87 = .int .i64 (i : Int) ∧ wy.ownsRow w2.heap.size 69 3 s15 (num (bs.take i)) (flat (bs.take i)) ∧ Below w2.heap.size w2 wy)
        case atStart => exact ⟨0, Nat.zero_le _, rfl, rfl, by simpa [num, flat] using World.ownsRow_nil w2 w2.heap.size 69 3, Below.refl _ _⟩
        case round =>
          obtain ⟨i, hi', rfl, rfl, hown, hbel⟩ := hrel
          have HOW : Hid (wr.ownsRow w2.heap.size 69 3 u15 (num (bs.take i)) (flat (bs.take i))) := hown
          have HBE : Hid (Below w2.heap.size w2 wr) := hbel
          clear hown hbel k8 k9 t1
          by_cases hlt2 : i < bs.length
          · obtain ⟨og, rfl⟩ := HAO.out (by omega)
            obtain ⟨b, hb⟩ : ∃ b, bs[i]? = some b := ⟨_, List.getElem?_eq_getElem hlt2⟩
            obtain ⟨rc, rl, rcs⟩ := rd_of HL2.out hb HBE.out
            obtain ⟨f1, f2⟩ := flat_take hb
            have hone : ∀ u ∈ b.xs, u.oneCell' = true := fun u hu => ents_one (ow := ow) (L := wc.heap.size) (qs := qs) u (by rw [← HFL.out]; exact List.mem_flatMap.2 ⟨b, List.mem_of_getElem? hb, hu⟩)
            have hnn : num (bs.take i) + b.n ≤ 1024 := by
              have := num_le bs (i + 1)
              rw [f2, HNU.out] at this
              omega
            have F1 : Hid _ := f1
            have F2 : Hid _ := f2
            have HON : Hid (∀ u ∈ b.xs, u.oneCell' = true) := hone
            have HRC : Hid (∀ j u, b.xs[j]? = some u → wr.cell? ((⟨b.g, 0, none⟩ : Addr).add j) = some u) := rcs
            have hsz := HBE.out.size
            clear hb f1 f2 hone rcs hlt
            have hi2 : (i : Int) < (bs.length : Int) := by omega
            go_wp2_with (at_builtin; refine wpList_append_own _ rfl _ _ 64 rfl w2.heap.size 69 i69 (.agg #[.int .i32 0, .nilFunc, .bool false]) 3 24 Ybaf.underlying64 hi hz0 hz1 hz2 rfl (by decide) u15 (num (bs.take i)) (flat (bs.take i)) rfl HOW.out ⟨b.g, 0, none⟩ b.n b.cap b.xs rfl rl HRC.out HON.out (by simp only [maxLen]; omega) (by omega) hsz ?_; intro v' w3 hown3 hgrow3 _; have H3 : Hid (w3.ownsRow _ _ _ _ _ _) := hown3; have G3 : Hid _ := hgrow3; clear hown3 hgrow3)
            go_roundg (bs.length - (i + 1))
            case measure => omega
            case rel => exact ⟨i + 1, by omega, rfl, by go_num, by rw [F1.out, F2.out]; exact H3.out, HBE.out.grown G3.out hsz (fun k e => (owns_blk HOW.out k e).1)⟩
          · obtain rfl : i = bs.length := by omega
            have hown := HOW.out
            rw [List.take_length, HNU.out, HFL.out] at hown
            obtain ⟨ra, rcap, rfl, hra⟩ := owns_slice hown
            have HO3 : Hid (wr.ownsRow w2.heap.size 69 3 (.slice ra os.length rcap) os.length (ents ow wc.heap.size qs)) := hown
            have HRA : Hid _ := hra
            clear hown hra HOW
            go_wp2_with fail
            refine (bg_any wr).mono ?_
            rintro e w3 ⟨rfl, rfl⟩
            have hL2 : wc.heap.size < w2.heap.size := blk_lt HLP.out.log
            have HST : Hid (Lq w3 w3 wc.heap.size 0 (.slice none 0 0)) := ⟨by rw [HBE.out.block _ hL2]; exact HLP.out.log, World.ownsRow_nil _ _ _ _, Lg.refl _ _ _⟩
            go_wp2_with fail
            go_loopg [103] os.length (fun k s103 wy => ∃ (i : Nat) (lv : Value), i ≤ os.length ∧ k = os.length - i ∧ s103 = .int .i64 (i : Int) ∧ Lq w3 wy wc.heap.size i lv)
            case atStart => exact ⟨0, _, Nat.zero_le _, rfl, rfl, HST.out⟩
            case round =>
              obtain ⟨i, lv, hi', rfl, rfl, hlq⟩ := hrel
              have HLQ : Hid (Lq w3 wr wc.heap.size i lv) := hlq
              clear hlq
              by_cases hlt3 : i < os.length
              · obtain ⟨g, rfl, _, _⟩ := HRA.out (by omega)
                obtain ⟨z, hz⟩ : ∃ z, os[i]? = some z := ⟨_, List.getElem?_eq_getElem hlt3⟩
                obtain ⟨b, o, rfl, hc0, z0, z1⟩ := hO i z hz
                obtain ⟨q, c0, c1, c2, kc, oc', hst⟩ := rg_of HLP.out HBE.out hL2 HO3.out HLQ.out hz hc0
                obtain ⟨p, st⟩ := q
                simp only at c1 c2 kc hst
                have kc' : ∀ x, (wr.alloc x).cell? ⟨p, 0, none⟩ = some (.int .i64 (i : Int)) := fun x => by rw [blk_cell (blk_alloc kc x)]; rfl
                have oca : ∀ x, (wr.alloc x).cell? ⟨b, o + i, none⟩ = some (.int .u8 z) := fun x => by rw [World.cell?_alloc_lt _ _ _ (World.block_lt_of_cell? _ _ oc')]; exact oc'
                have hw3s := HLQ.out.lg.size
                have HRUN : Hid (∀ x, Calls Ybaf.prog 5 #[.iface 78 (.agg #[]), .pointer (some ⟨wc.heap.size, 0, none⟩), .pointer (some ⟨p, 0, none⟩)] (wr.alloc x) fun e w' => e = .returned .nilIface ∧ ∃ lv', w'.heap[wc.heap.size]? = some (.cells #[lv'] 32 (0, 0)) ∧ w'.ownsRow w3.heap.size 3 1 lv' (i + 1) (cnt i ++ [.int .i64 (i : Int)]) ∧ Lg w3.heap.size wc.heap.size (wr.alloc x) w') := fun x =>
                  run_any (wr.alloc x) w3.heap.size wc.heap.size p lv i (cnt i) i _ (blk_alloc HLQ.out.log x) (kc' x) (HLQ.out.row.alloc x) (by omega) (by simp; omega)
                have hn := fn_eql
                have hnn := nil_neq
                have hi3 : (i : Int) < (os.length : Int) := by omega
                have HST2 : Hid (st = stOf z) := hst
                clear hO hz hc0 kc hst hlt hlt2 hj hi' kc'
                rcases (show z % 4 = 0 ∨ z % 4 = 1 ∨ z % 4 = 2 ∨ z % 4 = 3 from by omega) with hm | hm | hm | hm
                · obtain rfl : st = true := by rw [HST2.out]; simp [stOf, hm]
                  clear HST2
                  go_wp2_with fail
                  refine (HRUN.out _).mono ?_
                  rintro e w5 ⟨rfl, lv', r1, r2, r3⟩
                  obtain ⟨lg, lc, rfl⟩ := owns_form r2
                  have HR : Hid (Lq w3 w5 wc.heap.size (i + 1) _) := HLQ.out.step r1 r2 r3
                  have l0 : w5.cell? ⟨wc.heap.size, 0, none⟩ = some (.slice (some ⟨lg, 0, none⟩) (i + 1) lc) := by rw [blk_cell r1]; rfl
                  have l1 : w5.cell? ⟨lg, i, none⟩ = some (.int .i64 (i : Int)) := owns_cells r2 i _ (by rw [← cnt_succ]; exact cnt_at i)
                  clear r1 r2 r3 HRUN
                  go_wp2
                  go_roundg (os.length - (i + 1))
                  case measure => omega
                  case rel => exact ⟨i + 1, _, by omega, rfl, by go_num, HR.out⟩
                · obtain rfl : st = false := by rw [HST2.out]; simp [stOf, hm]
                  clear HST2
                  go_wp2_with fail
                  refine (HRUN.out _).mono ?_
                  rintro e w5 ⟨rfl, lv', r1, r2, r3⟩
                  obtain ⟨lg, lc, rfl⟩ := owns_form r2
                  have HR : Hid (Lq w3 w5 wc.heap.size (i + 1) _) := HLQ.out.step r1 r2 r3
                  have l0 : w5.cell? ⟨wc.heap.size, 0, none⟩ = some (.slice (some ⟨lg, 0, none⟩) (i + 1) lc) := by rw [blk_cell r1]; rfl
                  have l1 : w5.cell? ⟨lg, i, none⟩ = some (.int .i64 (i : Int)) := owns_cells r2 i _ (by rw [← cnt_succ]; exact cnt_at i)
                  clear r1 r2 r3 HRUN
                  go_wp2
                  go_roundg (os.length - (i + 1))
                  case measure => omega
                  case rel => exact ⟨i + 1, _, by omega, rfl, by go_num, HR.out⟩
                · obtain rfl : st = true := by rw [HST2.out]; simp [stOf, hm]
                  clear HST2
                  go_wp2_with fail
                  refine (HRUN.out _).mono ?_
                  rintro e w5 ⟨rfl, lv', r1, r2, r3⟩
                  obtain ⟨lg, lc, rfl⟩ := owns_form r2
                  have HR : Hid (Lq w3 w5 wc.heap.size (i + 1) _) := HLQ.out.step r1 r2 r3
                  have l0 : w5.cell? ⟨wc.heap.size, 0, none⟩ = some (.slice (some ⟨lg, 0, none⟩) (i + 1) lc) := by rw [blk_cell r1]; rfl
                  have l1 : w5.cell? ⟨lg, i, none⟩ = some (.int .i64 (i : Int)) := owns_cells r2 i _ (by rw [← cnt_succ]; exact cnt_at i)
                  clear r1 r2 r3 HRUN
                  go_wp2
                  go_roundg (os.length - (i + 1))
                  case measure => omega
                  case rel => exact ⟨i + 1, _, by omega, rfl, by go_num, HR.out⟩
                · obtain rfl : st = false := by rw [HST2.out]; simp [stOf, hm]
                  clear HST2
                  go_wp2_with fail
                  refine (HRUN.out _).mono ?_
                  rintro e w5 ⟨rfl, lv', r1, r2, r3⟩
                  obtain ⟨lg, lc, rfl⟩ := owns_form r2
                  have HR : Hid (Lq w3 w5 wc.heap.size (i + 1) _) := HLQ.out.step r1 r2 r3
                  have l0 : w5.cell? ⟨wc.heap.size, 0, none⟩ = some (.slice (some ⟨lg, 0, none⟩) (i + 1) lc) := by rw [blk_cell r1]; rfl
                  have l1 : w5.cell? ⟨lg, i, none⟩ = some (.int .i64 (i : Int)) := owns_cells r2 i _ (by rw [← cnt_succ]; exact cnt_at i)
                  clear r1 r2 r3 HRUN
                  go_wp2
                  go_roundg (os.length - (i + 1))
                  case measure => omega
                  case rel => exact ⟨i + 1, _, by omega, rfl, by go_num, HR.out⟩
              · obtain rfl : i = os.length := by omega
                have HFIN : Hid (Below w.heap.size w wr) := by
                  have h1 := HLP.out.bel
                  have h2 := HBE.out
                  have h3 := HLQ.out.lg
                  have hs1 := h1.size
                  have hs2 := h2.size
                  exact (h1.trans ⟨h2.os, h2.tape, h2.output, h2.size, fun k hk => h2.block k (by omega)⟩).trans (h3.below (by omega) HLP.out.bL (by omega))
                go_wp2
                go_ret
                exact ⟨rfl, HFIN.out⟩

theorem law_early (w : World) (a : Option Addr) (n c : Nat) (ix : Int) (ib : Bool) (h : 1024 < n) :
    Calls Ybaf.prog 3 #[.slice a n c, .int .i32 ix, .bool ib] w fun e w' => e = .returned (.bool true) ∧ w' = w := by
  have h' : (1024 : Int) < (n : Int) := by omega
  go_enter Ybaf.func3, Ybaf.ntmps3
  go_wp2
  go_ret
  exact ⟨rfl, rfl⟩
end Go.Proofs.YbulkeuwFmt
