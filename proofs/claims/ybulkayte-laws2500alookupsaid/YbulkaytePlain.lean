/-
  PLAIN LAWS: A SORTED LIST AND THE PLACE OF A NUMBER IN IT.
-/
import Derived.Test.YbulkayteOwn
namespace Go.Proofs.Ybulkayte

/-- The list rises (no strict rise is asked). -/
def Rises (hs : List Int) : Prop := ∀ i j, i ≤ j → j < hs.length → hs.getD i 0 ≤ hs.getD j 0

/-- p is h's place: what lies ahead of p is less, from p on it is not. -/
def Place (hs : List Int) (h : Int) (p : Nat) : Prop := p ≤ hs.length ∧ (∀ i, i < p → hs.getD i 0 < h) ∧ ∀ i, p ≤ i → i < hs.length → h ≤ hs.getD i 0

theorem Rises.low {hs : List Int} (hr : Rises hs) {h : Int} {p : Nat} (hp : p < hs.length) (hx : hs.getD p 0 < h) : ∀ i, i < p + 1 → hs.getD i 0 < h := fun i hi => by
  have := hr i p (by omega) hp
  omega
theorem Rises.high {hs : List Int} (hr : Rises hs) {h : Int} {p : Nat} (hx : h ≤ hs.getD p 0) : ∀ i, p ≤ i → i < hs.length → h ≤ hs.getD i 0 := fun i h1 h2 => by
  have := hr p i h1 h2
  omega

theorem place_exists {hs : List Int} (hr : Rises hs) (h : Int) : ∃ p, Place hs h p := by
  have aux : ∀ k, k ≤ hs.length → ∃ p, p ≤ k ∧ (∀ i, i < p → hs.getD i 0 < h) ∧ ∀ i, p ≤ i → i < k → h ≤ hs.getD i 0 := by
    intro k
    induction k with
    | zero => exact fun _ => ⟨0, Nat.le_refl _, fun i hi => absurd hi (Nat.not_lt_zero _), fun i _ hi => absurd hi (Nat.not_lt_zero _)⟩
    | succ k ih =>
      intro hk
      obtain ⟨p, hp, h1, h2⟩ := ih (by omega)
      by_cases hx : hs.getD k 0 < h
      · refine ⟨k + 1, Nat.le_refl _, fun i hi => ?_, fun i h3 h4 => absurd h3 (by omega)⟩
        have := hr i k (by omega) (by omega)
        omega
      · refine ⟨p, by omega, h1, fun i h3 h4 => ?_⟩
        by_cases e : i = k
        · subst e; omega
        · exact h2 i h3 (by omega)
  obtain ⟨p, h1, h2, h3⟩ := aux hs.length (Nat.le_refl _)
  exact ⟨p, h1, h2, h3⟩

end Go.Proofs.Ybulkayte
