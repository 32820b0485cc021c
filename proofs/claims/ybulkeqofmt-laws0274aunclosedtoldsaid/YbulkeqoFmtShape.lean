/-
  The made tokens have the shape that the selector's method walks over. Plain lists; no walk.
-/
import Derived.Test.YbulkeqoFmtToks
import Derived.Test.YbulkeqoFmtWalkI
namespace Go.Proofs.YbulkeqoFmt
open Go.RowKit

theorem dots_length (rest : List ByteArray) : (dots rest).length = 2 * rest.length := by
  induction rest with
  | nil => rfl
  | cons x xs ih => simp only [dots, List.flatMap_cons, List.length_append, List.length_cons, List.length_nil] at ih ⊢; omega
theorem dots_at (rest : List ByteArray) : ∀ (j : Nat) (p : ByteArray), rest[j]? = some p → (dots rest)[2 * j]? = some (4, ⟨#[46]⟩) ∧ (dots rest)[2 * j + 1]? = some (1, p) := by
  induction rest with
  | nil => intro j p h; simp at h
  | cons x xs ih =>
    intro j p h
    cases j with
    | zero => simp at h; subst h; simp [dots]
    | succ j =>
      simp at h
      obtain ⟨h1, h2⟩ := ih j p h
      rw [show 2 * (j + 1) = 2 * j + 2 from by omega]
      exact ⟨by simpa [dots] using h1, by simpa [dots] using h2⟩
def flc (qs : List (ByteArray × ByteArray)) : List Tok := qs.flatMap fun q => (4, ⟨#[44]⟩) :: f3 q
theorem flc_length (qs : List (ByteArray × ByteArray)) : (flc qs).length = 4 * qs.length := by
  induction qs with
  | nil => rfl
  | cons x xs ih => simp only [flc, f3, List.flatMap_cons, List.length_append, List.length_cons, List.length_nil] at ih ⊢; omega
theorem flc_at (qs : List (ByteArray × ByteArray)) : ∀ (j : Nat) (q : ByteArray × ByteArray), qs[j]? = some q → (flc qs)[4 * j]? = some (4, ⟨#[44]⟩) ∧ (flc qs)[4 * j + 1]? = some (1, q.1) ∧ (flc qs)[4 * j + 2]? = some (4, ⟨#[58]⟩) ∧ (flc qs)[4 * j + 3]? = some (5, q.2) := by
  induction qs with
  | nil => intro j p h; simp at h
  | cons x xs ih =>
    intro j p h
    cases j with
    | zero => simp at h; subst h; simp [flc, f3]
    | succ j =>
      simp at h
      obtain ⟨h1, h2, h3, h4⟩ := ih j p h
      rw [show 4 * (j + 1) = 4 * j + 4 from by omega]
      exact ⟨by simpa [flc, f3] using h1, by simpa [flc, f3] using h2, by simpa [flc, f3] using h3, by simpa [flc, f3] using h4⟩

/-- The fields' tokens. -/
theorem fl_at (prs : List (ByteArray × ByteArray)) (j : Nat) (q : ByteArray × ByteArray) (h : prs[j]? = some q) : (fl prs)[4 * j]? = some (1, q.1) ∧ (fl prs)[4 * j + 1]? = some (4, ⟨#[58]⟩) ∧ (fl prs)[4 * j + 2]? = some (5, q.2) := by
  match prs, j, h with
  | x :: xs, 0, h => simp at h; subst h; simp [fl, f3]
  | x :: xs, k + 1, h =>
    simp at h
    obtain ⟨_, h2, h3, h4⟩ := flc_at xs k q h
    rw [show 4 * (k + 1) = 4 * k + 1 + 3 from by omega]
    exact ⟨by simpa [fl, f3, flc] using h2, by simpa [fl, f3, flc] using h3, by simpa [fl, f3, flc] using h4⟩
theorem fl_sep (prs : List (ByteArray × ByteArray)) (j : Nat) (h : j + 1 < prs.length) : (fl prs)[4 * j + 3]? = some (4, ⟨#[44]⟩) := by
  match prs, h with
  | x :: xs, h =>
    have hj : j < xs.length := by simpa using h
    have := (flc_at xs j xs[j] (by simp [hj])).1
    simpa [fl, f3, flc] using this

theorem app_at {l r : List Tok} {n i : Nat} {t : Tok} (hn : l.length = n) (h : r[i]? = some t) : (l ++ r)[n + i]? = some t := by
  subst hn; rw [List.getElem?_append_right (by omega)]; simpa using h
theorem app_lt {l r : List Tok} {i : Nat} {t : Tok} (h : l[i]? = some t) : (l ++ r)[i]? = some t := by
  rw [List.getElem?_append_left (List.getElem?_eq_some_iff.1 h).1]; exact h

theorem shape (z : Pz) (t0 : ByteArray) (rest : List ByteArray) (prs : List (ByteArray × ByteArray)) (close : Bool) (hz : z.ts = toksOf t0 rest prs close) : Shape z t0 rest prs := by
  have hl : (headOf t0 rest).length = 1 + 2 * rest.length := by simp [headOf, dots_length]; omega
  have hl2 : (headOf t0 rest ++ [((4, ⟨#[123]⟩) : Tok)]).length = 2 + 2 * rest.length := by simp [hl]; omega
  have hmid : ∀ (i : Nat) (t : Tok), (if prs = [] then [((4, ⟨#[58]⟩) : Tok)] else fl prs)[i]? = some t → z.ts[2 + 2 * rest.length + i]? = some t := fun i t h => by
    rw [hz, toksOf, bodyOf]
    exact app_lt (app_lt (app_at hl2 h))
  refine ⟨?_, ?_, ?_, ?_, ?_, ?_⟩
  · rw [hz]; simp [toksOf, bodyOf, headOf]
  · intro j p hp
    obtain ⟨h1, h2⟩ := dots_at rest j p hp
    rw [hz, toksOf, bodyOf]
    refine ⟨app_lt (app_lt (app_lt (app_lt ?_))), app_lt (app_lt (app_lt (app_lt ?_)))⟩
    · rw [headOf, show 1 + 2 * j = 2 * j + 1 from by omega]; simpa using h1
    · rw [headOf, show 2 + 2 * j = 2 * j + 1 + 1 from by omega]; simpa using h2
  · rw [hz, toksOf, bodyOf]
    refine app_lt (app_lt (app_lt ?_))
    exact app_at (i := 0) hl rfl
  · intro hp
    have := hmid 0 (4, ⟨#[58]⟩) (by simp [hp])
    simpa using this
  · intro j q hq
    have hp : prs ≠ [] := fun e => by simp [e] at hq
    obtain ⟨h1, h2, h3⟩ := fl_at prs j q hq
    exact ⟨hmid (4 * j) _ (by simpa [hp] using h1), hmid (4 * j + 1) _ (by simpa [hp] using h2), hmid (4 * j + 2) _ (by simpa [hp] using h3)⟩
  · intro j hj
    have hp : prs ≠ [] := fun e => by simp [e] at hj
    exact hmid (4 * j + 3) _ (by simpa [hp] using fl_sep prs j hj)

theorem body_length (t0 : ByteArray) (rest : List ByteArray) (prs : List (ByteArray × ByteArray)) : (bodyOf t0 rest prs).length = endAt rest prs := by
  have hl : (headOf t0 rest).length = 1 + 2 * rest.length := by simp [headOf, dots_length]; omega
  by_cases hp : prs = []
  · simp [bodyOf, endAt, hp, hl]; omega
  · simp [bodyOf, endAt, hp, hl, fl_length]; omega

theorem closed_at (t0 : ByteArray) (rest : List ByteArray) (prs : List (ByteArray × ByteArray)) : (toksOf t0 rest prs true)[endAt rest prs]? = some (4, ⟨#[125]⟩) ∧ (toksOf t0 rest prs true).length = endAt rest prs + 2 := by
  refine ⟨?_, by simp [toksOf, body_length]⟩
  rw [toksOf]
  exact app_lt (app_at (i := 0) (body_length t0 rest prs) rfl)
theorem open_at (t0 : ByteArray) (rest : List ByteArray) (prs : List (ByteArray × ByteArray)) : (toksOf t0 rest prs false)[endAt rest prs]? = some (0, ⟨#[]⟩) ∧ (toksOf t0 rest prs false).length = endAt rest prs + 1 := by
  refine ⟨?_, by simp [toksOf, body_length]⟩
  rw [toksOf]
  exact app_at (n := endAt rest prs) (i := 0) (by simp only [Bool.false_eq_true, if_false, List.append_nil, body_length]) rfl

/-- From the row of the call's own to what the parser reads. -/
theorem tok_of {b : Nat} {w : World} {v : Value} {ts : List Tok} (h : Tk b w v ts) : ∃ g c, v = .slice (some ⟨g, 0, none⟩) ts.length c ∧ b ≤ g ∧ ∃ cur, w.heap[g]? = some (.cells cur 38 (0, 0)) ∧ ∀ (j : Nat) (t : Tok), ts[j]? = some t → cur[j * 4]? = some (.int .u8 t.1) ∧ cur[j * 4 + 1]? = some (.string t.2) ∧ cur[j * 4 + 2]? = some (.int .i64 j) ∧ cur[j * 4 + 3]? = some (.int .i64 j) := by
  obtain ⟨hown, g, c, hv⟩ := h
  rcases hown.2 with ⟨h1, h2⟩ | ⟨g', cap, cur, h1, hb, hh, _, _, hs, ht⟩
  · rw [h1] at hv; cases hv
  · refine ⟨g', cap, h1, hb, cur, hh, fun j t hj => ?_⟩
    have hlt : j < ts.length := (List.getElem?_eq_some_iff.1 hj).1
    obtain ⟨k0, k1, k2, k3⟩ := tkCells_at ts 0 j t hj
    rw [← ht] at k0 k1 k2 k3
    have key : ∀ i, i < ts.length * 4 → (List.take (ts.length * 4) cur.toList)[i]? = cur[i]? := fun i hi => by
      rw [List.getElem?_take_of_lt hi]; simp
    rw [key _ (by omega)] at k0 k1 k2 k3
    exact ⟨k0, k1, by simpa using k2, by simpa using k3⟩
end Go.Proofs.YbulkeqoFmt
