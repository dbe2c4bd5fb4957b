/-
  PLAIN: ONE STEP OF THE INSERTION SORT.
-/
import Derived.Test.YbulkaytePlain
namespace Go.Proofs.Ybulkayte

/-- x laid in at place p. -/
def ins (ol : List Int) (p : Nat) (x : Int) : List Int := ol.take p ++ x :: ol.drop p

theorem ins_length {ol : List Int} {p : Nat} {x : Int} (hp : p ≤ ol.length) : (ins ol p x).length = ol.length + 1 := by simp [ins]; omega

theorem ins_at {ol : List Int} {p : Nat} {x : Int} (hp : p ≤ ol.length) (a : Nat) : (ins ol p x).getD a 0 = if a < p then ol.getD a 0 else if a = p then x else ol.getD (a - 1) 0 := by
  simp only [ins, List.getD]
  by_cases h1 : a < p
  · rw [if_pos h1, List.getElem?_append_left (by simp; omega), List.getElem?_take_of_lt h1]
  · rw [if_neg h1, List.getElem?_append_right (by simp; omega)]
    have e : (ol.take p).length = p := by simp; omega
    rw [e]
    by_cases h2 : a = p
    · subst h2; simp
    · rw [if_neg h2]
      obtain ⟨d, hd⟩ : ∃ d, a - p = d + 1 := ⟨a - p - 1, by omega⟩
      rw [hd, List.getElem?_cons_succ, List.getElem?_drop, show p + d = a - 1 by omega]

theorem ins_end {ol : List Int} {x : Int} : ol ++ [x] = ins ol ol.length x := by simp [ins]

theorem ins_set {ol : List Int} {p : Nat} {x y : Int} (hp : p ≤ ol.length) : (ins ol p x).set p y = ins ol p y := by
  unfold ins
  rw [List.set_append_right _ _ (by simp; omega)]
  simp [show p - min p ol.length = 0 by omega]

theorem ins_shift {ol : List Int} {p : Nat} (hp : p < ol.length) : ins ol (p + 1) (ol.getD p 0) = ins ol p (ol.getD p 0) := by
  have x : ol.getD p 0 = ol[p] := by simp [List.getD, hp]
  unfold ins
  rw [x]
  have e1 : ol.take (p + 1) = ol.take p ++ [ol[p]] := (List.take_append_getElem hp).symm
  have e2 : ol.drop p = ol[p] :: ol.drop (p + 1) := List.drop_eq_getElem_cons hp
  rw [e1, e2, List.append_assoc]
  rfl

/-- The places' hashes rise. -/
def Srt (hf : Nat → Int) (ol : List Int) : Prop := ∀ a b, a ≤ b → b < ol.length → hf (ol.getD a 0).toNat ≤ hf (ol.getD b 0).toNat
/-- Each is a place below m. -/
def Low (m : Nat) (ol : List Int) : Prop := ∀ a, a < ol.length → 0 ≤ ol.getD a 0 ∧ ol.getD a 0 < (m : Int)

theorem srt_ins {hf : Nat → Int} {ol : List Int} {p : Nat} {x : Int} (hs : Srt hf ol) (hp : p ≤ ol.length) (h1 : ∀ a, a < p → hf (ol.getD a 0).toNat ≤ hf x.toNat) (h2 : ∀ a, p ≤ a → a < ol.length → hf x.toNat ≤ hf (ol.getD a 0).toNat) : Srt hf (ins ol p x) := by
  intro a b hab hb
  rw [ins_length hp] at hb
  rw [ins_at hp, ins_at hp]
  by_cases a1 : a < p
  · rw [if_pos a1]
    by_cases b1 : b < p
    · rw [if_pos b1]; exact hs a b hab (by omega)
    · rw [if_neg b1]
      by_cases b2 : b = p
      · rw [if_pos b2]; exact h1 a a1
      · rw [if_neg b2]; exact hs a (b - 1) (by omega) (by omega)
  · rw [if_neg a1, if_neg (by omega : ¬ b < p)]
    by_cases a2 : a = p
    · rw [if_pos a2]
      by_cases b2 : b = p
      · rw [if_pos b2]; exact Int.le_refl _
      · rw [if_neg b2]; exact h2 (b - 1) (by omega) (by omega)
    · rw [if_neg a2, if_neg (by omega : ¬ b = p)]
      exact hs (a - 1) (b - 1) (by omega) (by omega)

theorem low_ins {m : Nat} {ol : List Int} {p : Nat} {x : Int} (hl : Low m ol) (hp : p ≤ ol.length) (h0 : 0 ≤ x) (h1 : x < (m : Int)) : Low m (ins ol p x) := by
  intro a ha
  rw [ins_length hp] at ha
  rw [ins_at hp]
  by_cases a1 : a < p
  · rw [if_pos a1]; exact hl a (by omega)
  · rw [if_neg a1]
    by_cases a2 : a = p
    · rw [if_pos a2]; exact ⟨h0, h1⟩
    · rw [if_neg a2]; exact hl (a - 1) (by omega)

end Go.Proofs.Ybulkayte
