/-
  THE PLAIN SIDE OF THE PREFIX LAWS: lists of runes, no Go in sight.
-/
namespace Go.Proofs.Ybulkayra

/-- utf8.ValidRune on a rune's number. -/
def vr (r : Int) : Bool := (decide (0 ≤ r) && decide (r < 55296)) || (decide (57343 < r) && decide (r ≤ 1114111))

/-- What spell appends: the runes ahead of the first that is no character. -/
def pre (rs : List Int) : List Int := rs.takeWhile vr

theorem pre_le (rs : List Int) : (pre rs).length ≤ rs.length := (List.takeWhile_sublist _).length_le

theorem pre_all {rs : List Int} (h : rs.all vr = true) : pre rs = rs := by
  unfold pre
  induction rs with
  | nil => rfl
  | cons r rs ih =>
    simp only [List.all_cons, Bool.and_eq_true] at h
    rw [List.takeWhile_cons, if_pos h.1, ih h.2]

/-- The first k are characters, the next is none: the k are what is spelt. -/
theorem pre_stop {rs : List Int} {k : Nat} (hk : k < rs.length) (h : ∀ j, j < k → vr (rs.getD j 0) = true) (hn : vr (rs.getD k 0) = false) : pre rs = rs.take k ∧ rs.all vr = false := by
  induction k generalizing rs with
  | zero =>
    cases rs with
    | nil => simp at hk
    | cons r rs => simp at hn; simp [pre, hn]
  | succ k ih =>
    cases rs with
    | nil => simp at hk
    | cons r rs =>
      have h0 : vr r = true := by simpa using h 0 (by omega)
      have := ih (rs := rs) (by simpa using hk) (fun j hj => by simpa using h (j + 1) (by omega)) (by simpa using hn)
      unfold pre at this ⊢
      simp [h0, this.1, this.2]

theorem all_of {rs : List Int} (h : ∀ j, j < rs.length → vr (rs.getD j 0) = true) : rs.all vr = true := by
  rw [List.all_eq_true]
  intro x hx
  obtain ⟨i, hi, rfl⟩ := List.getElem_of_mem hx
  simpa [List.getD, hi] using h i hi

end Go.Proofs.Ybulkayra
