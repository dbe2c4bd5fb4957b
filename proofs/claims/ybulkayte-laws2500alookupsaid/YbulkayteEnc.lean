/-
  PLAIN: THE BYTES OF A LEAF, AND ITS ENTRIES AS lookup IS TOLD OF THEM.
-/
import Derived.Test.YbulkayteLook
import Derived.Lib.AppendStr
namespace Go.Proofs.Ybulkayte
open Go.RowKit

/-- A string's bytes as numbers. -/
def kb (s : ByteArray) : List Int := s.data.toList.map fun b => (b.toNat : Int)
theorem kb_length (s : ByteArray) : (kb s).length = s.size := by simp [kb]
theorem kb_cells (s : ByteArray) : Go.Lib.strCells s = (kb s).map (Value.int .u8) := by simp [kb, Go.Lib.strCells]
theorem kb_at {s : ByteArray} {i : Nat} (h : i < s.size) : (kb s).getD i 0 = (s[i].toNat : Int) := by
  have h' : i < s.data.toList.length := by simpa using h
  simp only [kb, List.getD, List.getElem?_map]
  rw [List.getElem?_eq_getElem h']
  rfl

theorem uv_length (n : Nat) : (uv n).length = if n < 128 then 1 else 2 := by unfold uv; split <;> rfl
theorem uv_le (n : Nat) : 1 ≤ (uv n).length ∧ (uv n).length ≤ 2 := by rw [uv_length]; split <;> omega

variable (K : Nat → ByteArray)
/-- One entry's bytes. -/
def encE (i : Nat) : List Int := uv (K i).size ++ kb (K i) ++ uv (i % 3) ++ List.replicate (i % 3) 118
def bytesL : Nat → List Int
  | 0 => []
  | k + 1 => bytesL k ++ encE K k
def startOf (i : Nat) : Nat := (bytesL K i).length
def stL (k : Nat) : List Int := (List.range k).map fun i => (startOf K i : Int)

variable {K}
theorem encE_length (i : Nat) : (encE K i).length = (uv (K i).size).length + (K i).size + (uv (i % 3)).length + i % 3 := by simp [encE, kb_length]; omega
theorem encE_le {i : Nat} (h : (K i).size ≤ 1024) : 2 ≤ (encE K i).length ∧ (encE K i).length ≤ 1030 := by
  rw [encE_length]
  have := uv_le (K i).size
  have := uv_le (i % 3)
  omega
theorem bytesL_le {k : Nat} (h : ∀ j, j < k → (K j).size ≤ 1024) : (bytesL K k).length ≤ 1030 * k := by
  induction k with
  | zero => simp [bytesL]
  | succ k ih =>
    have := ih (fun j hj => h j (by omega))
    have := (encE_le (h k (by omega))).2
    simp only [bytesL, List.length_append]
    omega
theorem stL_succ (k : Nat) : stL K (k + 1) = stL K k ++ [(startOf K k : Int)] := by simp [stL, List.range_succ]
theorem stL_length (k : Nat) : (stL K k).length = k := by simp [stL]
theorem stL_at {m i : Nat} (h : i < m) : (stL K m).getD i 0 = (startOf K i : Int) := by simp [stL, List.getD, h]

theorem bytes_split {i : Nat} : ∀ {m : Nat}, i < m → ∃ r, bytesL K m = bytesL K i ++ (encE K i ++ r)
  | 0, h => absurd h (Nat.not_lt_zero _)
  | m + 1, h => by
    by_cases e : i = m
    · subst e
      exact ⟨[], by simp [bytesL]⟩
    · obtain ⟨r, hr⟩ := bytes_split (i := i) (m := m) (by omega)
      exact ⟨r ++ encE K m, by simp [bytesL, hr]⟩

theorem bytes_at {m i t : Nat} (hi : i < m) (ht : t < (encE K i).length) : (bytesL K m).getD (startOf K i + t) 0 = (encE K i).getD t 0 ∧ startOf K i + (encE K i).length ≤ (bytesL K m).length := by
  obtain ⟨r, hr⟩ := bytes_split (K := K) hi
  rw [hr]
  constructor
  · unfold startOf
    simp only [List.getD]
    rw [List.getElem?_append_right (by omega), Nat.add_sub_cancel_left, List.getElem?_append_left ht]
  · simp [startOf]

theorem encE_uv {i t : Nat} (ht : t < (uv (K i).size).length) : (encE K i).getD t 0 = (uv (K i).size).getD t 0 := by
  simp only [encE, List.getD, List.append_assoc]
  rw [List.getElem?_append_left ht]
theorem encE_kb {i t : Nat} (ht : t < (K i).size) : (encE K i).getD ((uv (K i).size).length + t) 0 = (kb (K i)).getD t 0 := by
  simp only [encE, List.getD, List.append_assoc]
  rw [List.getElem?_append_right (by omega), Nat.add_sub_cancel_left, List.getElem?_append_left (by rw [kb_length]; exact ht)]

/-- Each entry lies where its start says. -/
theorem entry_of {w : World} {g m N : Nat} (hrow : ∀ j, j < N → w.cell? ⟨g, j, none⟩ = some (.int .u8 ((bytesL K m).getD j 0))) (hN : (bytesL K m).length = N) (hK : ∀ j, j < m → (K j).size ≤ 1024) {i : Nat} (hi : i < m) :
    Entry w g N (startOf K i) (K i) := by
  have hk := uv_le (K i).size
  have hsz := hK i hi
  have hlen := encE_length (K := K) i
  have hfit : startOf K i + (encE K i).length ≤ N := by rw [← hN]; exact (bytes_at (K := K) (t := 0) hi (by omega)).2
  have cell : ∀ t, t < (encE K i).length → w.cell? ⟨g, startOf K i + t, none⟩ = some (.int .u8 ((encE K i).getD t 0)) := fun t ht => by
    rw [hrow _ (by omega), (bytes_at hi ht).1]
  refine ⟨(uv (K i).size).length, hk.1, hk.2, ?_, fun t ht => ?_, by omega, hsz⟩
  · have c0 := cell 0 (by omega)
    rw [encE_uv (by omega)] at c0
    by_cases h : (K i).size < 128
    · refine .inl ⟨by rw [uv_length, if_pos h], h, ?_⟩
      rw [Nat.add_zero] at c0
      rw [c0]
      simp [uv, h]
    · have c1 := cell 1 (by omega)
      rw [encE_uv (by rw [uv_length, if_neg h]; decide)] at c1
      refine .inr ⟨by rw [uv_length, if_neg h], by omega, hsz, ?_, ?_⟩
      · rw [Nat.add_zero] at c0
        rw [c0]
        simp [uv, h]
      · rw [c1]
        simp [uv, h]
  · rw [Nat.add_assoc, cell _ (by omega), encE_kb ht, kb_at ht]

end Go.Proofs.Ybulkayte
