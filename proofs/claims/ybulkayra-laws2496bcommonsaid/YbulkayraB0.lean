/-
  THE PLAIN SIDE OF LawS2496BCommon: common prefixes of lists, the state of the reading, item by item.
-/
namespace Go.Proofs.Ybulkayra

/-- How many elements two lists have in common at their heads. -/
def cpl : List Int → List Int → Nat
  | a :: l, b :: r => if a = b then cpl l r + 1 else 0
  | [], _ => 0
  | _ :: _, [] => 0

theorem cpl_is (L : List Int) : ∀ (p : List Int) (c : Nat), c ≤ L.length → c ≤ p.length → (∀ j, j < c → L.getD j 0 = p.getD j 0) → (c < L.length → c < p.length → ¬ L.getD c 0 = p.getD c 0) → cpl L p = c := by
  induction L with
  | nil =>
    intro p c h1 _ _ _
    simp at h1
    simp [cpl, h1]
  | cons a l ih =>
    intro p c h1 h2 h3 h4
    cases p with
    | nil => simp at h2; simp [cpl, h2]
    | cons b r =>
      cases c with
      | zero =>
        have := h4 (by simp) (by simp)
        simp at this
        simp [cpl, this]
      | succ c =>
        have h0 : a = b := by simpa using h3 0 (by omega)
        have := ih r c (by simpa using h1) (by simpa using h2) (fun j hj => by simpa using h3 (j + 1) (by omega)) (fun x y => by simpa using h4 (by simpa using x) (by simpa using y))
        simp [cpl, h0, this]

theorem cpl_le (L : List Int) : ∀ p, cpl L p ≤ L.length ∧ cpl L p ≤ p.length := by
  induction L with
  | nil => intro p; simp [cpl]
  | cons a l ih =>
    intro p
    cases p with
    | nil => simp [cpl]
    | cons b r =>
      have := ih r
      unfold cpl
      split
      · simp; omega
      · simp

/-- What the reading says of one alternative: its text; is it exact; is it free. -/
abbrev Item := List Int × Bool × Bool
/-- The reading's state: the common text so far; exact; free; has it stopped. -/
abbrev St := List Int × Bool × Bool × Bool

def exq (L : List Int) (e : Bool) (it : Item) : Bool := e && it.2.1 && (cpl L it.1 == L.length) && (cpl L it.1 == it.1.length)

def nx (s : St) (it : Item) : St :=
  if s.2.2.2 = true then s else (s.1.take (cpl s.1 it.1), exq s.1 s.2.1 it, s.2.2.1 || it.2.2, cpl s.1 it.1 == 0 && !exq s.1 s.2.1 it)

def out : List Item → St
  | [] => ([], false, false, false)
  | i :: r => r.foldl nx (i.1, i.2.1, i.2.2, false)

theorem nx_stopped (s : St) (it : Item) (h : s.2.2.2 = true) : nx s it = s := by rw [nx, if_pos h]

theorem foldl_stopped (r : List Item) (s : St) (h : s.2.2.2 = true) : r.foldl nx s = s := by
  induction r with
  | nil => rfl
  | cons i r ih => rw [List.foldl_cons, nx_stopped s i h, ih]

theorem out_one (its : List Item) (h : 0 < its.length) : out (its.take 1) = ((its.getD 0 ([], false, false)).1, (its.getD 0 ([], false, false)).2.1, (its.getD 0 ([], false, false)).2.2, false) := by
  cases its with
  | nil => simp at h
  | cons i r => simp [out]

theorem out_next (its : List Item) (k : Nat) (hk : 0 < k) (h : k < its.length) : out (its.take (k + 1)) = nx (out (its.take k)) (its.getD k ([], false, false)) := by
  cases its with
  | nil => simp at h
  | cons i r =>
    obtain ⟨k, rfl⟩ : ∃ q, k = q + 1 := ⟨k - 1, by omega⟩
    simp only [List.length_cons] at h
    have hk' : k < r.length := by omega
    simp only [List.take_succ_cons, out, List.getD_cons_succ]
    rw [List.take_succ_eq_append_getElem hk', List.foldl_append]
    simp [List.getD, hk']

theorem out_stay (its : List Item) (k : Nat) (hk : 0 < k) (hs : (out (its.take k)).2.2.2 = true) : out its = out (its.take k) := by
  cases its with
  | nil => simp
  | cons i r =>
    obtain ⟨k, rfl⟩ : ∃ q, k = q + 1 := ⟨k - 1, by omega⟩
    simp only [List.take_succ_cons, out] at hs ⊢
    have := List.take_append_drop k r
    rw [← this, List.foldl_append]
    rw [foldl_stopped _ _ (by simpa [List.take_append_drop] using hs)]
    rw [List.take_append_drop]

theorem nx_le (s : St) (it : Item) : (nx s it).1.length ≤ s.1.length := by
  unfold nx
  split
  · exact Nat.le_refl _
  · simp; omega

theorem getD_mid {xs L p : List Int} {n c : Nat} (hx : xs.length = n) (hc : c < L.length) : (xs ++ L ++ p).getD (n + c) 0 = L.getD c 0 := by
  simp only [List.getD]
  rw [List.getElem?_append_left (by simp; omega), List.getElem?_append_right (by omega), show n + c - xs.length = c by omega]

theorem getD_end {xs L p : List Int} {n N c : Nat} (hx : xs.length = n) (hN : N = n + L.length) : (xs ++ L ++ p).getD (N + c) 0 = p.getD c 0 := by
  simp only [List.getD]
  rw [List.getElem?_append_right (by simp; omega), show N + c - (xs ++ L).length = c by simp; omega]

theorem take_mid {xs L p : List Int} {n c : Nat} (hx : xs.length = n) (hc : c ≤ L.length) : (xs ++ L ++ p).take (n + c) = xs ++ L.take c := by
  rw [List.append_assoc, List.take_append, List.take_of_length_le (by omega), show n + c - xs.length = c by omega, List.take_append_of_le_length hc]

end Go.Proofs.Ybulkayra
