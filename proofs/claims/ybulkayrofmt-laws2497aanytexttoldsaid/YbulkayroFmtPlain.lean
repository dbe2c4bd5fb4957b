/-
  THE PLAIN SIDE OF THE PAYLOAD LAWS: hex digits and their pairs; no Go in sight.
-/
namespace Go.Proofs.YbulkayroFmt

/-- The value of a hex digit; 255 of any other byte. -/
def hv (c : Int) : Int := if 48 ≤ c ∧ c ≤ 57 then c - 48 else if 97 ≤ c ∧ c ≤ 102 then c - 87 else if 65 ≤ c ∧ c ≤ 70 then c - 55 else 255

theorem hv_bd (c : Int) : 0 ≤ hv c ∧ hv c ≤ 255 := by unfold hv; split <;> (try split) <;> (try split) <;> omega
theorem hv_255 {c : Int} (h : ¬ hv c ≤ 15) : hv c = 255 := by
  unfold hv at h ⊢
  split
  · rw [if_pos (by assumption)] at h; omega
  · rw [if_neg (by assumption)] at h
    split
    · rw [if_pos (by assumption)] at h; omega
    · rw [if_neg (by assumption)] at h
      split
      · rw [if_pos (by assumption)] at h; omega
      · rfl

/-- The first i pairs of cs are pairs of hex digits. -/
def GoodTo (cs : List Int) (i : Nat) : Prop := ∀ t, t < i → hv (cs.getD (2 * t) 0) ≤ 15 ∧ hv (cs.getD (2 * t + 1) 0) ≤ 15

theorem GoodTo.succ {cs : List Int} {i : Nat} (h : GoodTo cs i) (h1 : hv (cs.getD (2 * i) 0) ≤ 15) (h2 : hv (cs.getD (2 * i + 1) 0) ≤ 15) : GoodTo cs (i + 1) := by
  intro t ht
  rcases Nat.lt_succ_iff_lt_or_eq.1 ht with h' | rfl
  · exact h t h'
  · exact ⟨h1, h2⟩

/-- The bytes that i pairs stand for, the join of two nibbles being 'cm'. -/
def prs (cm : Int → Int → Int) (cs : List Int) (i : Nat) : List Int := (List.range i).map fun t => cm (hv (cs.getD (2 * t) 0)) (hv (cs.getD (2 * t + 1) 0))

theorem prs_succ (cm : Int → Int → Int) (cs : List Int) (i : Nat) : prs cm cs (i + 1) = prs cm cs i ++ [cm (hv (cs.getD (2 * i) 0)) (hv (cs.getD (2 * i + 1) 0))] := by
  simp [prs, List.range_succ]

theorem prs_len (cm : Int → Int → Int) (cs : List Int) (i : Nat) : (prs cm cs i).length = i := by simp [prs]

/-- The row of the result behind i rounds: i pairs, the rest still nought. -/
def decRow (cm : Int → Int → Int) (cs : List Int) (k i : Nat) : List Int := prs cm cs i ++ List.replicate (k - i) 0
theorem decRow_zero (cm : Int → Int → Int) (cs : List Int) (k : Nat) : decRow cm cs k 0 = List.replicate k 0 := by simp [decRow, prs]
theorem decRow_full (cm : Int → Int → Int) (cs : List Int) (k : Nat) : decRow cm cs k k = prs cm cs k := by simp [decRow]
theorem decRow_len (cm : Int → Int → Int) (cs : List Int) {k i : Nat} (h : i ≤ k) : (decRow cm cs k i).length = k := by simp [decRow, prs_len]; omega
theorem decRow_set (cm : Int → Int → Int) (cs : List Int) {k i : Nat} (h : i < k) : (decRow cm cs k i).set i (cm (hv (cs.getD (2 * i) 0)) (hv (cs.getD (2 * i + 1) 0))) = decRow cm cs k (i + 1) := by
  unfold decRow
  obtain ⟨d, hd⟩ : ∃ d, k - i = d + 1 := ⟨k - i - 1, by omega⟩
  rw [hd, List.replicate_succ, show k - (i + 1) = d by omega, List.set_append_right _ _ (by simp [prs_len]), prs_len, Nat.sub_self, List.set_cons_zero, prs_succ]
  simp

end Go.Proofs.YbulkayroFmt
