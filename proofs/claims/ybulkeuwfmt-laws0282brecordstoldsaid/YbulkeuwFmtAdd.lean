/-
  add, walked.
-/
import Derived.Test.YbulkeuwFmtWalkA
import Derived.Deep.Cut
import Derived.Deep.CutRange
namespace Go.Proofs.YbulkeuwFmt
open Go.RowKit

/-- The cell of the outer row that holds the last block. -/
theorem outer_last {B : Nat} {w : World} {og oc : Nat} {ini : List Bk} {l : Bk} (h : Ls B w (.slice (some ⟨og, 0, none⟩) (ini.length + 1) oc) (ini ++ [l])) :
    w.cell? ⟨og, ini.length, none⟩ = some l.val ∧ (∃ c, w.heap[og]? = some (.cells c 64 (0, 0))) ∧ B ≤ og := by
  rcases h.outer.2 with ⟨hv, _⟩ | ⟨g, cap, cur, hv, hg, hh, hnc, hcm, hcs, htk⟩
  · cases hv
  · obtain ⟨rfl, rfl⟩ : og = g ∧ oc = cap := by simpa using hv
    refine ⟨?_, ⟨cur, hh⟩, hg⟩
    rw [blk_cell hh]
    have : (cur.toList.take ((ini ++ [l]).length * 1))[ini.length]? = some l.val := by rw [htk]; simp
    rw [List.getElem?_take_of_lt (by simp)] at this
    simpa using this

theorem Fr.drewN {B K : Nat} {a w : World} (h : Fr B K a w) (n : Nat) : Fr B K a (w.drewN n) := ⟨h.os, h.tape, h.output, h.size, h.block⟩
theorem Ls.drewN {B : Nat} {w : World} {ov : Value} {bs : List Bk} (h : Ls B w ov bs) (n : Nat) : Ls B (w.drewN n) ov bs := ⟨h.bw, h.outer, h.inner, h.nodup, h.caps⟩
theorem three_new (w : World) (x y z : Value) (t : TypeId) : ∀ j u, [x, y, z][j]? = some u → (w.alloc (.cells #[x, y, z] t)).drew.cell? ((⟨w.heap.size, 0, none⟩ : Addr).add j) = some u := by
  intro j u hj
  match j, hj with
  | 0, hj => simp at hj; subst hj; simp [Addr.add]
  | 1, hj => simp at hj; subst hj; simp [Addr.add]
  | 2, hj => simp at hj; subst hj; simp [Addr.add]
  | n + 3, hj => simp at hj

/-- What the append onto the last block leaves. -/
theorem after_fits {B K : Nat} {W w2 w3 : World} {og oc il : Nat} {ini : List Bk} {l : Bk} {o : Obj} {m : Int} (hil : ini.length = il) (hL : Ls B W (.slice (some ⟨og, 0, none⟩) (il + 1) oc) (ini ++ [l])) (hK : W.heap[K]? = some (CO (.slice (some ⟨og, 0, none⟩) (il + 1) oc) m)) (e2 : w2 = (W.alloc o).drew) (g3 : w2.grownBy w3 (some l.g)) :
    w3.heap[K]? = some (CO (.slice (some ⟨og, 0, none⟩) (il + 1) oc) m) ∧ w3.cell? ⟨K, 8, none⟩ = some (.slice (some ⟨og, 0, none⟩) (il + 1) oc) ∧ w3.cell? ⟨og, il, none⟩ = some l.val ∧ w3.frozen? ⟨og, il, none⟩ = false := by
  subst hil
  obtain ⟨hO, ⟨c, hc⟩, _⟩ := outer_last hL
  obtain ⟨_, cl, hcl⟩ := owns_blk (hL.inner l (by simp)) l.g rfl
  have a1 : w3.heap[K]? = some (CO (.slice (some ⟨og, 0, none⟩) (ini.length + 1) oc) m) := by
    have hk : w2.heap[K]? = some (CO (.slice (some ⟨og, 0, none⟩) (ini.length + 1) oc) m) := by rw [e2]; exact blk_drew (blk_alloc hK o)
    rw [g3.block K (blk_lt hk) (fun e => by cases e; rw [hK] at hcl; simp [CO] at hcl)]; exact hk
  have a2 : w3.heap[og]? = some (.cells c 64 (0, 0)) := by
    have hk : w2.heap[og]? = some (.cells c 64 (0, 0)) := by rw [e2]; exact blk_drew (blk_alloc hc o)
    rw [g3.block og (blk_lt hk) (fun e => by cases e; rw [hc] at hcl; simp at hcl)]; exact hk
  refine ⟨a1, by rw [blk_cell a1]; rfl, ?_, blk_free a2 _⟩
  rw [blk_cell a2, ← blk_cell hc]; exact hO

/-- What add leaves, in all. -/
theorem push_all {B K : Nat} {w W w3 : World} {og oc il : Nat} {ini : List Bk} {g n cp : Nat} {xs news : List Value} {o : Obj} {m : Int} (hil : ini.length = il) (hL : Ls B W (.slice (some ⟨og, 0, none⟩) (il + 1) oc) (ini ++ [⟨g, n, cp, xs⟩])) (hF : Fr B K w W) (hK3 : w3.heap[K]? = some (CO (.slice (some ⟨og, 0, none⟩) (il + 1) oc) m))
    (h3 : w3.ownsRow B 69 3 (.slice (some ⟨g, 0, none⟩) (n + 1) cp) (n + 1) (xs ++ news)) (g3 : (W.alloc o).drew.grownBy w3 (some g)) :
    (w3.setCell ⟨og, il, none⟩ (.slice (some ⟨g, 0, none⟩) (n + 1) cp)).heap[K]? = some (CO (.slice (some ⟨og, 0, none⟩) (il + 1) oc) m) ∧ Ls B (w3.setCell ⟨og, il, none⟩ (.slice (some ⟨g, 0, none⟩) (n + 1) cp)) (.slice (some ⟨og, 0, none⟩) (il + 1) oc) (ini ++ [⟨g, n + 1, cp, xs ++ news⟩]) ∧ Fr B K w (w3.setCell ⟨og, il, none⟩ (.slice (some ⟨g, 0, none⟩) (n + 1) cp)) := by
  subst hil
  have hLd : Ls B W.drew (.slice (some ⟨og, 0, none⟩) (ini.length + 1) oc) (ini ++ [⟨g, n, cp, xs⟩]) := ⟨hL.bw, hL.outer, hL.inner, hL.nodup, hL.caps⟩
  obtain ⟨hp, c, hc, _, _⟩ := Ls.push (l := ⟨g, n, cp, xs⟩) (w := W.drew) (w1 := W.drew.alloc o) (o := o) (w2 := w3) hLd rfl h3 g3
  obtain ⟨hB, _⟩ := owns_blk hL.outer og rfl
  obtain ⟨hBg, cl, hcl⟩ := owns_blk (hL.inner ⟨g, n, cp, xs⟩ (by simp)) g rfl
  refine ⟨?_, hp, ?_⟩
  · rw [blk_other (fun e => by rw [e, hc] at hK3; simp [CO] at hK3)]; exact hK3
  · refine Fr.setRow (((hF.alloc o).drew).grown g3 fun k hk => ?_) hB hc _
    cases hk
    exact ⟨hBg, cl, Or.inr (blk_drew (blk_alloc hcl o))⟩

theorem outer_form {B : Nat} {w : World} {ov : Value} {bs : List Bk} (h : Ls B w ov bs) : ∃ ao oc, ov = .slice ao bs.length oc ∧ (bs.length ≠ 0 → ∃ og, ao = some ⟨og, 0, none⟩) := by
  rcases h.outer.2 with ⟨hv, h0⟩ | ⟨g, cap, cur, hv, _⟩
  · exact ⟨none, 0, by rw [h0]; exact hv, fun hn => absurd h0 hn⟩
  · exact ⟨_, cap, hv, fun _ => ⟨g, rfl⟩⟩

def fullB (bs : List Bk) : Bool := match bs.getLast? with | none => true | some l => l.n == l.cap

/-- Where the two ways meet: the list's last block has room. -/
structure Mt (B K : Nat) (w wx : World) (bs : List Bk) (m : Int) (bx : Obj) (ini : List Bk) (l : Bk) (og oc : Nat) : Prop where
  k : wx.heap[K]? = some (CO (.slice (some ⟨og, 0, none⟩) (ini.length + 1) oc) m)
  ls : Ls B wx (.slice (some ⟨og, 0, none⟩) (ini.length + 1) oc) (ini ++ [l])
  room : l.n < l.cap
  flat : flat (ini ++ [l]) = flat bs
  num : num (ini ++ [l]) = num bs
  len : ini.length ≤ bs.length
  box : wx.heap[w.heap.size]? = some bx
  fr : Fr B K w wx

theorem bs_split {bs : List Bk} (h : bs.length ≠ 0) : ∃ ini l, bs = ini ++ [l] := by
  rcases List.eq_nil_or_concat bs with e | ⟨ini, l, e⟩
  · rw [e] at h; simp at h
  · exact ⟨ini, l, by rw [e, List.concat_eq_append]⟩

theorem n_le_cap {B : Nat} {w : World} {ov : Value} {bs : List Bk} (h : Ls B w ov bs) {l : Bk} (hl : l ∈ bs) : l.n ≤ l.cap := by
  rcases (h.inner l hl).2 with ⟨hv, _⟩ | ⟨g, cap, cur, hv, _, _, hnc, _⟩
  · simp [Bk.val] at hv
  · obtain ⟨_, _, rfl⟩ : l.g = g ∧ True ∧ l.cap = cap := by simpa [Bk.val] using hv
    exact hnc

/-- There is room already. -/
theorem mt_same {B K : Nat} {w wc : World} {bs : List Bk} {m : Int} {bx : Obj} {ao : Option Addr} {oc : Nat} (hfl : fullB bs = false) (hL : Ls B wc (.slice ao bs.length oc) bs) (hK : wc.heap[K]? = some (CO (.slice ao bs.length oc) m)) (hF : Fr B K w wc) (hb : wc.heap[w.heap.size]? = some bx) (hao : bs.length ≠ 0 → ∃ og, ao = some ⟨og, 0, none⟩) :
    ∃ ini l og oc', Mt B K w wc bs m bx ini l og oc' ∧ (.int .i64 (bs.length : Int) : Value) = .int .i64 ((ini.length : Int) + 1) := by
  have h0 : bs.length ≠ 0 := fun e => by rw [List.length_eq_zero_iff.1 e] at hfl; simp [fullB] at hfl
  obtain ⟨og, rfl⟩ := hao h0
  obtain ⟨ini, l, rfl⟩ := bs_split h0
  have hlen : (ini ++ [l]).length = ini.length + 1 := by simp
  rw [hlen] at hL hK ⊢
  have hle := n_le_cap hL (l := l) (by simp)
  have hne : l.n ≠ l.cap := by simpa [fullB] using hfl
  exact ⟨ini, l, og, oc, ⟨hK, hL, by omega, rfl, rfl, by simp, hb, hF⟩, by simp⟩

/-- A block is laid at the end. -/
theorem mt_more {B K : Nat} {w wc w3 : World} {bs : List Bk} {m : Int} {bx : Obj} {ao : Option Addr} {oc sz : Nat} {mc : Array Value} {o : Obj} {og oc' : Nat} (hL : Ls B wc (.slice ao bs.length oc) bs) (hK : wc.heap[K]? = some (CO (.slice ao bs.length oc) m)) (hF : Fr B K w wc) (hb : wc.heap[w.heap.size]? = some bx) (hbx : ∀ c, bx ≠ .cells c 64 (0, 0)) (hbk : w.heap.size ≠ K)
    (hmc : mc.size = sz * 3) (h1 : 16 ≤ sz) (h2 : sz ≤ 1024)
    (h3 : w3.ownsRow B 64 1 (.slice (some ⟨og, 0, none⟩) (bs.length + 1) oc') (bs.length + 1) (bs.map Bk.val ++ [.slice (some ⟨wc.heap.size, 0, none⟩) 0 sz])) (g3 : ((wc.alloc (.cells mc 69 (0, 0))).alloc o).drew.grownBy w3 (Value.slice ao bs.length oc).ownBlock) :
    Mt B K w (w3.setCell ⟨K, 8, none⟩ (.slice (some ⟨og, 0, none⟩) (bs.length + 1) oc')) bs m bx bs ⟨wc.heap.size, 0, sz, []⟩ og oc' := by
  have hm : sz ≤ maxLen := by simp only [maxLen]; omega
  have o1 := World.ownsRow_made (base := B) (size := 3) (e := 69) wc mc sz hL.bw hm hmc
  have g1 : wc.grownBy (wc.alloc (.cells mc 69 (0, 0))) none := World.grownBy_alloc wc _ none
  have g3' : ((wc.alloc (.cells mc 69 (0, 0))).alloc o).grownBy w3 (Value.slice ao bs.length oc).ownBlock := ⟨g3.os, g3.tape, g3.output, g3.size, g3.block⟩
  have keep : ∀ k x, wc.heap[k]? = some x → (∀ c, x ≠ Obj.cells c 64 (0, 0)) → w3.heap[k]? = some x := fun k x hx hn => by
    have h' : ((wc.alloc (.cells mc 69 (0, 0))).alloc o).heap[k]? = some x := blk_alloc (blk_alloc hx _) _
    rw [g3'.block k (blk_lt h') (fun e => by
      obtain ⟨_, c, hc⟩ := owns_blk hL.outer k e.symm
      rw [hx] at hc; exact hn c (Option.some.inj hc))]
    exact h'
  have hK3 := keep K _ hK (by intro c; simp [CO])
  have hLm := Ls.more (K := K) (w1 := wc.alloc (.cells mc 69 (0, 0))) (w2 := (wc.alloc (.cells mc 69 (0, 0))).alloc o) (o := o) hL o1 g1 rfl h3 g3' hK3 ⟨h1, h2⟩ 8 (.slice (some ⟨og, 0, none⟩) (bs.length + 1) oc')
  refine ⟨?_, hLm, by simp only; omega, by simp [flat], by simp [num], Nat.le_refl _, ?_, ?_⟩
  · have := blk_set (k := 8) hK3 (.slice (some ⟨og, 0, none⟩) (bs.length + 1) oc')
    rw [this]; rfl
  · rw [blk_other hbk]; exact keep _ _ hb hbx
  · refine ((((hF.alloc _).alloc _).grown g3' fun k hk => ?_)).setK 8 _
    obtain ⟨hB, c, hc⟩ := owns_blk hL.outer k hk
    exact ⟨hB, c, Or.inl (blk_alloc (blk_alloc hc _) _)⟩

/-- What the append onto the blocks leaves of the container. -/
theorem after_own {B K : Nat} {wc w3 : World} {bs : List Bk} {m : Int} {ao : Option Addr} {oc : Nat} {o o' : Obj} (hL : Ls B wc (.slice ao bs.length oc) bs) (hK : wc.heap[K]? = some (CO (.slice ao bs.length oc) m)) (g3 : ((wc.alloc o).alloc o').drew.grownBy w3 (Value.slice ao bs.length oc).ownBlock) :
    w3.cell? ⟨K, 8, none⟩ = some (.slice ao bs.length oc) ∧ w3.frozen? ⟨K, 8, none⟩ = false := by
  have h' : ((wc.alloc o).alloc o').drew.heap[K]? = some (CO (.slice ao bs.length oc) m) := blk_drew (blk_alloc (blk_alloc hK _) _)
  have hK3 : w3.heap[K]? = some (CO (.slice ao bs.length oc) m) := by
    rw [g3.block K (blk_lt h') (fun e => by
      obtain ⟨_, c, hc⟩ := owns_blk hL.outer K e.symm
      rw [hK] at hc; simp [CO] at hc)]
    exact h'
  exact ⟨by rw [blk_cell hK3]; rfl, blk_free hK3 8⟩
theorem owns_form {w : World} {B : Nat} {e : TypeId} {size : Nat} {v : Value} {n : Nat} {xs : List Value} (h : w.ownsRow B e size v (n + 1) xs) : ∃ g cap, v = .slice (some ⟨g, 0, none⟩) (n + 1) cap := by
  rcases h.2 with ⟨_, h0⟩ | ⟨g, cap, cur, hv, _⟩
  · omega
  · exact ⟨g, cap, hv⟩
theorem one_new (w : World) (o : Obj) (x : Value) (t : TypeId) : ∀ j u, [x][j]? = some u → ((w.alloc o).alloc (.cells #[x] t)).drew.cell? ((⟨w.heap.size + 1, 0, none⟩ : Addr).add j) = some u := by
  intro j u hj
  match j, hj with
  | 0, hj => simp at hj; subst hj; simp [Addr.add]
  | n + 1, hj => simp at hj

set_option maxRecDepth 100000 in
set_option maxHeartbeats 8000000 in
theorem add_any (B K : Nat) (w : World) (ov : Value) (bs : List Bk) (o m : Int) (f : Fn) (first cap : Array Value) (st : Bool) (hK : w.heap[K]? = some (CO ov m)) (hL : Ls B w ov bs) (hsz : bs.length < 1024) :
    Calls Ybaf.prog 12 #[.pointer (some ⟨K, 8, none⟩), .agg #[.int .i32 o, .func f first cap, .bool st]] w fun e w' => e = .returned (.tuple #[]) ∧ ∃ ov' bs', w'.heap[K]? = some (CO ov' m) ∧ Ls B w' ov' bs' ∧ flat bs' = flat bs ++ [.int .i32 o, .func f first cap, .bool st] ∧ num bs' = num bs + 1 ∧ bs'.length ≤ bs.length + 1 ∧ Fr B K w w' := by
  obtain ⟨i69, hi, hz0, hz1, hz2⟩ := info_parts info69
  obtain ⟨ao, oc, rfl, hao⟩ := outer_form hL
  have hL1 := hL.alloc (.cells #[.int .i32 o, .func f first cap, .bool st] 69 (0, 0))
  have hK1 := blk_alloc hK (.cells #[.int .i32 o, .func f first cap, .bool st] 69 (0, 0))
  have hK8 : (w.alloc (.cells #[.int .i32 o, .func f first cap, .bool st] 69 (0, 0))).cell? ⟨K, 8, none⟩ = some (.slice ao bs.length oc) := by rw [blk_cell hK1]; rfl
  have HL1 : Hid _ := hL1
  have HK1 : Hid _ := hK1
  have HAO : Hid _ := hao
  have hKlt := blk_lt hK
  clear hL hL1 hK hK1 hao
  go_enter Ybaf.func12, Ybaf.ntmps12
  go_upto_region 2 with fail
  go_cut [33] from 11 to 32 (fun s33 wx => s33 = .bool (fullB bs) ∧ ∃ n, wx = (w.alloc (.cells #[.int .i32 o, .func f first cap, .bool st] 69)).drewN n)
  case first =>
    by_cases hb0 : bs.length = 0
    · have hbq : ((bs.length : Int) == 0) = true := by simp [hb0]
      have hfb : fullB bs = true := by rw [List.length_eq_zero_iff.1 hb0]; rfl
      clear HL1 HK1 HAO hb0
      generalize bs.length = n0 at *
      go_quiet (fail)
      go_wp2_with fail
      go_meet
      case rel => exact ⟨by rw [hfb], _, rfl⟩
    · obtain ⟨og, rfl⟩ := HAO.out hb0
      obtain ⟨ini, l, hbs⟩ : ∃ ini l, bs = ini ++ [l] := by
        rcases List.eq_nil_or_concat bs with h | ⟨ini, l, h⟩
        · rw [h] at hb0; simp at hb0
        · exact ⟨ini, l, by rw [h, List.concat_eq_append]⟩
      have hlen : bs.length = ini.length + 1 := by rw [hbs]; simp
      have hL2 := HL1.out
      rw [hlen, hbs] at hL2
      obtain ⟨hO, _, _⟩ := outer_last hL2
      have hfb : fullB bs = (l.n == l.cap) := by rw [hbs]; simp [fullB]
      simp only [Bk.val] at hO
      obtain ⟨g, n, cp, xs⟩ := l
      simp only at hO hfb
      clear HL1 HK1 HAO hL2 hbs
      generalize bs.length = n0 at *
      generalize ini.length = il at *
      have hwr : IntKind.i64.wrap ((n0 : Int) - 1) = (il : Int) := by rw [IntKind.wrap_i64]; omega
      have hwr' : (n0 : Int) - 1 = (il : Int) := by omega
      have hbq : ((n0 : Int) == 0) = false := by
        have : ¬ ((n0 : Int) = 0) := by omega
        simpa using this
      have h1 : (il : Int) < (n0 : Int) := by omega
      clear hlen
      go_quiet (fail)
      go_wp2_with fail
      go_meet
      case rel => exact ⟨by rw [hfb]; exact congrArg Value.bool (by rw [Bool.eq_iff_iff]; simp; omega), _, rfl⟩
  case rest =>
    obtain ⟨rfl, nq, hW⟩ := hcut
    have HKW : Hid (wc.heap[K]? = some (CO (.slice ao bs.length oc) m)) := by rw [hW]; exact HK1.out
    have HLW : Hid (Ls B wc (.slice ao bs.length oc) bs) := by rw [hW]; exact HL1.out.drewN nq
    have HF : Hid (Fr B K w wc) := by rw [hW]; exact ((Fr.refl B K w).alloc _).drewN nq
    have HBX : Hid (wc.heap[w.heap.size]? = some (.cells #[.int .i32 o, .func f first cap, .bool st] 69 (0, 0))) := by rw [hW]; exact blk_new w _
    have k8 : wc.cell? ⟨K, 8, none⟩ = some (.slice ao bs.length oc) := by rw [hW]; exact hK8
    clear hW hK8 HL1 HK1
    go_upto_if 33 with fail
    go_cut [4] from 5 to 59 (fun s4 wx => ∃ ini l og oc', Mt B K w wx bs m (.cells #[.int .i32 o, .func f first cap, .bool st] 69 (0, 0)) ini l og oc' ∧ s4 = .int .i64 ((ini.length : Int) + 1))
    case first =>
      cases hfl : fullB bs
      · go_wp2_with fail
        go_meet
        case rel => exact mt_same hfl HLW.out HKW.out HF.out HBX.out HAO.out
      · go_upto_if 35 with fail
        go_cut [5] from 34 to 46 (fun s5 wx => ∃ sz : Nat, s5 = .int .i64 (sz : Int) ∧ 16 ≤ sz ∧ sz ≤ 1024 ∧ wx = wc)
        case first =>
          by_cases hb0 : bs.length = 0
          · have h0 : ¬ (0 : Int) < (bs.length : Int) := by omega
            clear hb0 HKW HLW HF HBX
            generalize bs.length = n0 at *
            go_wp2_with fail
            go_meet
            case rel => exact ⟨16, rfl, by omega, by omega, rfl⟩
          · have h0 : (0 : Int) < (bs.length : Int) := by omega
            obtain ⟨og, rfl⟩ := HAO.out hb0
            obtain ⟨ini, l, hbs⟩ := bs_split hb0
            have hlen : bs.length = ini.length + 1 := by rw [hbs]; simp
            have hL2 := HLW.out
            rw [hlen, hbs] at hL2
            obtain ⟨hO, _, _⟩ := outer_last hL2
            have hcp := hL2.caps l (by simp)
            simp only [Bk.val] at hO
            obtain ⟨g, n, cp, xs⟩ := l
            simp only at hO hcp
            clear HKW HLW HF HBX HAO hL2 hbs hb0 hfl
            generalize bs.length = n0 at *
            generalize ini.length = il at *
            have hwr : IntKind.i64.wrap ((n0 : Int) - 1) = (il : Int) := by rw [IntKind.wrap_i64]; omega
            have hwr' : (n0 : Int) - 1 = (il : Int) := by omega
            have hx1 : (il : Int) < (n0 : Int) := by omega
            clear hlen
            go_wp2_with fail
            · go_meet
              case rel => exact ⟨1024, rfl, by omega, by omega, rfl⟩
            · go_meet
              case rel => exact ⟨2 * cp, by simp, by omega, by omega, rfl⟩
        case rest =>
          obtain ⟨sz, rfl, hs1, hs2, rfl⟩ := hcut
          go_wp2_with fail
          obtain ⟨i64, hj, hy0, hy1, hy2⟩ := info_parts info64
          have hmk : ∀ wx : World, (Instr.makeSlice 64 (.int .i64 0) (.int .i64 (sz : Int))).run Ybaf.prog wx = .ok (.slice (some ⟨wx.heap.size, 0, none⟩) 0 sz) (wx.alloc (.cells (madeCells (Value.agg #[.int .i32 0, .nilFunc, .bool false]).cells (sz * 3)) 69)) := fun wx => by
            have h := run_make (P := Ybaf.prog) wx 64 69 i69 _ Ybaf.underlying64 hi hz0 .i64 .i64 0 (sz : Int) (by omega) (by omega) (by rw [hz2]; omega) (by omega)
            rw [hz1] at h
            simpa using h
          have hms : (madeCells (Value.agg #[.int .i32 0, .nilFunc, .bool false]).cells (sz * 3)).size = sz * 3 := by simp [madeCells]
          generalize madeCells (Value.agg #[.int .i32 0, .nilFunc, .bool false]).cells (sz * 3) = mc at hmk hms
          have k8a : ∀ x, (wc.alloc x).cell? ⟨K, 8, none⟩ = some (.slice ao bs.length oc) := fun x => by rw [World.cell?_alloc_lt _ _ _ (World.block_lt_of_cell? _ _ k8)]; exact k8
          have k8b : ∀ x y, ((wc.alloc x).alloc y).cell? ⟨K, 8, none⟩ = some (.slice ao bs.length oc) := fun x y => by rw [World.cell?_alloc_lt _ _ _ (World.block_lt_of_cell? _ _ (k8a x))]; exact k8a x
          have HOW : Hid (∀ x y, ((wc.alloc x).alloc y).ownsRow B 64 1 (.slice ao bs.length oc) bs.length (bs.map Bk.val)) := fun x y => (HLW.out.outer.alloc x).alloc y
          have hbw := HLW.out.bw
          go_region_law (first
            | (refine step_append_own rfl (.tmp 51) (.tmp 54) 58 rfl 64 i64 (.slice none 0 0) 1 24 Ybaf.underlying58 hj hy0 hy1 hy2 rfl (by decide) B (.slice ao bs.length oc) bs.length (bs.map Bk.val) rfl (HOW.out _ _) ⟨wc.heap.size + 1, 0, none⟩ 1 1 [.slice (some ⟨wc.heap.size, 0, none⟩) 0 sz] rfl rfl (one_new _ _ _ _) (by intro u hu; simp at hu; subst hu; rfl) (by simp [maxLen]; omega) (by omega) (by simp; omega) ?_; intro v' w3 hown3 hgrow3; obtain ⟨q1, q2⟩ := after_own HLW.out HKW.out hgrow3; obtain ⟨og, oc', rfl⟩ := owns_form hown3; have H3 : Hid (w3.ownsRow _ _ _ _ _ _) := hown3; have G3 : Hid _ := hgrow3; clear hown3 hgrow3))
          all_goals
            go_wp2_with fail
            go_meet
            case rel => exact ⟨bs, _, og, oc', mt_more HLW.out HKW.out HF.out HBX.out (by simp) (by omega) hms hs1 hs2 H3.out G3.out, rfl⟩
    case rest =>
      obtain ⟨ini, l, og, oc', hmt, rfl⟩ := hcut
      obtain ⟨mk, mls, mroom, mflat, mnum, mlen, mbox, mfr⟩ := hmt
      obtain ⟨g, n, cp, xs⟩ := l
      simp only at mroom
      obtain ⟨hO, _, _⟩ := outer_last mls
      simp only [Bk.val] at hO
      have HFL : Hid _ := mflat
      have HNU : Hid _ := mnum
      clear mflat mnum
      generalize hil : ini.length = il at *
      have k8 : wc.cell? ⟨K, 8, none⟩ = some (.slice (some ⟨og, 0, none⟩) (il + 1) oc') := by rw [blk_cell mk]; rfl
      have k8a : ∀ x, (wc.alloc x).cell? ⟨K, 8, none⟩ = some (.slice (some ⟨og, 0, none⟩) (il + 1) oc') := fun x => by rw [World.cell?_alloc_lt _ _ _ (World.block_lt_of_cell? _ _ k8)]; exact k8
      have o1a : ∀ x, (wc.alloc x).cell? ⟨og, il, none⟩ = some (.slice (some ⟨g, 0, none⟩) n cp) := fun x => by rw [World.cell?_alloc_lt _ _ _ (World.block_lt_of_cell? _ _ hO)]; exact hO
      have b0 : wc.cell? ⟨w.heap.size, 0, none⟩ = some (.int .i32 o) := by rw [blk_cell mbox]; rfl
      have b1 : wc.cell? ⟨w.heap.size, 1, none⟩ = some (.func f first cap) := by rw [blk_cell mbox]; rfl
      have b2 : wc.cell? ⟨w.heap.size, 2, none⟩ = some (.bool st) := by rw [blk_cell mbox]; rfl
      have HLW : Hid (Ls B wc (.slice (some ⟨og, 0, none⟩) (il + 1) oc') (ini ++ [⟨g, n, cp, xs⟩])) := mls
      have HKW : Hid (wc.heap[K]? = some (CO (.slice (some ⟨og, 0, none⟩) (il + 1) oc') m)) := mk
      have HF : Hid (Fr B K w wc) := mfr
      have HIN : Hid (wc.ownsRow B 69 3 (.slice (some ⟨g, 0, none⟩) n cp) n xs) := HLW.out.inner ⟨g, n, cp, xs⟩ (by simp)
      have hwr : IntKind.i64.wrap (il : Int) = il := by rw [IntKind.wrap_i64]; omega
      have h1 : (il : Int) < (il : Int) + 1 := by omega
      have h3 : (il : Int) + 1 - 1 = (il : Int) := by omega
      clear mls mk mfr mbox HAO
      go_wp2_with fail
      go_region_law (first
        | (refine step_append_fits rfl (.tmp 73) (.tmp 75) 64 rfl 69 i69 3 Ybaf.underlying64 hi hz1 B g n cp xs rfl (HIN.out.alloc _) ⟨wc.heap.size, 0, none⟩ 1 1 [.int .i32 o, .func f first cap, .bool st] rfl rfl (three_new _ _ _ _ _) (by intro u hu; simp at hu; rcases hu with hu | hu | hu <;> (subst hu; rfl)) mroom ?_; intro w3 hown3 hgrow3; obtain ⟨q1, q2, q3, q4⟩ := after_fits hil HLW.out HKW.out rfl hgrow3; simp only [Bk.val] at q3; have Q1 : Hid _ := q1; have H3 : Hid (w3.ownsRow _ _ _ _ _ _) := hown3; have G3 : Hid _ := hgrow3; clear q1 hown3 hgrow3))
      all_goals
        obtain ⟨z1, z2, z3⟩ := push_all (w := w) hil HLW.out HF.out Q1.out H3.out G3.out
        clear Q1 H3 G3 q2 q3 q4 HIN HF HKW HLW b0 b1 b2 k8 k8a o1a hO
        go_end0
        refine ⟨rfl, _, _, z1, z2, ?_, ?_, ?_, z3⟩
        · have e := HFL.out
          simp only [flat, List.flatMap_append, List.flatMap_cons, List.flatMap_nil, List.append_nil] at e ⊢
          rw [← List.append_assoc, e]
        · have e := HNU.out
          simp [num] at e ⊢
          omega
        · simp; omega
end Go.Proofs.YbulkeuwFmt
