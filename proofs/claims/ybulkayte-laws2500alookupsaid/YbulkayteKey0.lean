/-
  setBlock OF NO BYTES.
-/
import Derived.Test.YbulkayteKey
namespace Go.Proofs.Ybulkayte
open Go.RowKit

/-- Four stores into one row. -/
theorem stored4 {w : World} {nb : Nat} {cs : Array Value} {d0 d1 d2 d5 : Value} (hnode : w.heap[nb]? = some (.cells cs 33 (0, 0))) :
    ∃ W, (((w.setCell ⟨nb, 0, none⟩ d0).setCell ⟨nb, 1, none⟩ d1).setCell ⟨nb, 2, none⟩ d2).setCell ⟨nb, 5, none⟩ d5 = W ∧
    W.heap[nb]? = some (.cells ((((cs.setIfInBounds 0 d0).setIfInBounds 1 d1).setIfInBounds 2 d2).setIfInBounds 5 d5) 33 (0, 0)) ∧ w.grownBy W (some nb) ∧ W.heap.size = w.heap.size := by
  obtain ⟨w1, e1, a1, g1, z1⟩ := step 0 d0 hnode
  obtain ⟨w2, e2, a2, g2, z2⟩ := step 1 d1 a1
  obtain ⟨w3, e3, a3, g3, z3⟩ := step 2 d2 a2
  obtain ⟨w4, e4, a4, g4, z4⟩ := step 5 d5 a3
  rw [e1, e2, e3, e4]
  exact ⟨_, rfl, a4, gtrans g1 (gtrans g2 (gtrans g3 g4)), by omega⟩

set_option maxHeartbeats 1000000 in
theorem set_block0 {w : World} {nb cap : Nat} {ba : Option Addr} {st : Value} {m sc : Nat} {sa : Option Addr} (hst : st = .slice sa m sc)
    (hnode : w.heap[nb]? = some (.cells #[.int .i64 0, .int .i64 0, .slice none 0 0, .slice none 0 0, .slice none 0 0, .pointer none, .pointer none, .pointer none] 33 (0, 0))) :
    Calls Yba.prog 6 #[pt nb, .slice ba 0 cap, st] w fun e w' => e = .returned (.tuple #[]) ∧ w'.heap[nb]? = some (.cells #[.int .i64 0, .int .i64 m, st, .slice none 0 0, .slice none 0 0, .pointer none, .pointer none, .pointer none] 33 (0, 0)) ∧
      w.grownBy w' (some nb) ∧ w'.heap.size = w.heap.size := by
  subst hst
  have hlt : nb < w.heap.size := (Array.getElem?_eq_some_iff.1 hnode).1
  have hc : ∀ (j : Nat) (v : Value), #[Value.int .i64 0, .int .i64 0, .slice none 0 0, .slice none 0 0, .slice none 0 0, .pointer none, .pointer none, .pointer none][j]? = some v → w.cell? ⟨nb, j, none⟩ = some v := fun j v h => by rw [cell_of_row _ _ _ _ _ _ hnode]; exact h
  have hf : ∀ j, w.frozen? ⟨nb, j, none⟩ = false := fun j => frozen_of_row _ _ _ _ _ hnode
  have k0 := hc 0 _ rfl
  have k1 := hc 1 _ rfl
  have k2 := hc 2 _ rfl
  have k5 := hc 5 _ rfl
  have HN := hide hnode
  clear hc hnode
  go_enter Yba.func6, Yba.ntmps6
  go_wp2_with fail
  obtain ⟨W, e, t1, t3, t4⟩ := stored4 (d0 := .int .i64 0) (d1 := .int .i64 m) (d2 := .slice sa m sc) (d5 := .pointer none) HN.out
  rw [e]
  exact bodyPost_end (results_none rfl _ _ _) rfl ⟨rfl, t1, t3, t4⟩
end Go.Proofs.Ybulkayte
