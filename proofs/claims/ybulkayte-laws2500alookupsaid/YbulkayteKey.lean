/-
  Bytes, cutWord, key, NewBlock, setBlock.
-/
import Derived.Test.YbulkayteApp
import Derived.Deep.Heap
namespace Go.Proofs.Ybulkayte
open Go.RowKit

abbrev pt (b : Nat) : Value := .pointer (some ⟨b, 0, none⟩)

theorem bytes_of {w : World} {bb : Nat} {v : Value} (h : w.cell? ⟨bb, 0, none⟩ = some v) : Calls Yba.prog 23 #[pt bb] w fun e w' => e = .returned v ∧ w' = w := by
  go_enter Yba.func23, Yba.ntmps23
  go_wp2_with fail
  exact bodyPost_ret (results_tmp rfl _ _ _) rfl ⟨rfl, rfl⟩

/-- What is told of the varint at an address: its number n, its bytes k. -/
def Var (w : World) (g off n k : Nat) : Prop :=
  (k = 1 ∧ n < 128 ∧ w.cell? ⟨g, off, none⟩ = some (.int .u8 n)) ∨
  (k = 2 ∧ 128 ≤ n ∧ n ≤ 1024 ∧ w.cell? ⟨g, off, none⟩ = some (.int .u8 ((n : Int) % 128 + 128)) ∧ w.cell? ⟨g, off + 1, none⟩ = some (.int .u8 ((n : Int) / 128)))

theorem uvar {w : World} {g off n k l cap : Nat} (h : Var w g off n k) (hl : k + n ≤ l) : Calls Yba.prog 28 #[.slice (some ⟨g, off, none⟩) l cap] w fun e w' => e = .returned (.tuple #[.int .u64 n, .int .i64 k]) ∧ w' = w := by
  rcases h with ⟨rfl, h1, h2⟩ | ⟨rfl, h1, h2, h3, h4⟩
  · exact uvar_one (by omega) h2 (by omega) (by omega)
  · have := uvar_two (l := l) (cap := cap) (by omega) h3 (by omega) (by omega) h4 (by omega) (by omega)
    rw [show (n : Int) % 128 + 128 - 128 + 128 * ((n : Int) / 128) = (n : Int) by omega] at this
    exact this

/-- The word; what is left. -/
def wordAt (g off n k cap : Nat) : Value := .slice (some ⟨g, if cap = k then off else off + k, none⟩) n (cap - k)
def restAt (g off n k l cap : Nat) : Value := .slice (some ⟨g, if cap = k + n then off else off + (k + n), none⟩) (l - (k + n)) (cap - (k + n))

theorem cut_word {w : World} {g off n k l cap : Nat} (h : Var w g off n k) (hl : k + n ≤ l) (hc : l ≤ cap) (hm : cap ≤ maxLen) (hk : 1 ≤ k ∧ k ≤ 2) (hn : n ≤ 1024) :
    Calls Yba.prog 22 #[.slice (some ⟨g, off, none⟩) l cap] w fun e w' => e = .returned (.tuple #[wordAt g off n k cap, restAt g off n k l cap, .bool true]) ∧ ∃ nd, w' = w.drewN nd := by
  have hcall := hide (uvar (cap := cap) h hl)
  unfold maxLen at hm
  have hle : ¬ (k : Int) ≤ 0 := by omega
  have hw : IntKind.u64.wrap ((l : Int) - (k : Int)) = (l : Int) - (k : Int) := by rw [IntKind.wrap_u64]; omega
  have hgt : ¬ (l : Int) - (k : Int) < (n : Int) := by omega
  clear h
  go_enter Yba.func22, Yba.ntmps22
  go_wp2_with fail
  refine hcall.out.mono ?_
  rintro e w' ⟨rfl, rfl⟩
  go_wp2_with fail
  have s1 : (0 : Int) ≤ (k : Int) := by omega
  have s2 : (k : Int) ≤ (k : Int) + (n : Int) := by omega
  have s3 : (k : Int) + (n : Int) ≤ (cap : Int) := by omega
  have s4 : (k : Int) + (n : Int) ≤ (l : Int) := by omega
  have s5 : (l : Int) ≤ (cap : Int) := by omega
  go_quiet (fail)
  have e1 : Value.slice (if cap = k then some ⟨g, off, none⟩ else some ⟨g, off + k, none⟩) (k + n - k) (cap - k) = wordAt g off n k cap := by
    unfold wordAt
    rw [show k + n - k = n by omega]
    split <;> rfl
  have e2 : Value.slice (if cap = k + n then some ⟨g, off, none⟩ else some ⟨g, off + (k + n), none⟩) (l - (k + n)) (cap - (k + n)) = restAt g off n k l cap := by
    unfold restAt
    split <;> rfl
  rw [e1, e2]
  clear e1 e2
  obtain ⟨u, hu⟩ : ∃ u, u = wordAt g off n k cap := ⟨_, rfl⟩
  obtain ⟨r, hr⟩ : ∃ r, r = restAt g off n k l cap := ⟨_, rfl⟩
  rw [← hu, ← hr]
  have HU := hide hu
  have HR := hide hr
  clear hu hr
  go_wp2_with fail
  refine bodyPost_ret (results_tmp3 rfl _ _ _) rfl ⟨?_, nq, rfl⟩
  rw [← HU.out, ← HR.out]
  rfl

/-- What is told of a leaf: its starts, its block's bytes. -/
structure Leaf (w : World) (nb bb sg m sc g N cap : Nat) (st : List Int) : Prop where
  starts : w.cell? ⟨nb, 2, none⟩ = some (.slice (some ⟨sg, 0, none⟩) m sc)
  block : w.cell? ⟨nb, 5, none⟩ = some (pt bb)
  data : w.cell? ⟨bb, 0, none⟩ = some (.slice (some ⟨g, 0, none⟩) N cap)
  row : ∀ j, j < m → w.cell? ⟨sg, j, none⟩ = some (.int .u32 (st.getD j 0))

theorem key_of {w : World} {nb bb sg m sc g N cap : Nat} {st : List Int} (L : Leaf w nb bb sg m sc g N cap st) (i : Nat) (hi : i < m) (s n k : Nat) (hs : st.getD i 0 = (s : Int)) (h : Var w g s n k) (hl : s + k + n ≤ N) (hc : N ≤ cap) (hm : cap ≤ maxLen) (hk : 1 ≤ k ∧ k ≤ 2) (hn : n ≤ 1024) :
    Calls Yba.prog 15 #[pt nb, .int .i64 i] w fun e w' => e = .returned (wordAt g s n k (cap - s)) ∧ ∃ nd, w' = w.drewN nd := by
  have c1 := L.starts
  have c2 := L.block
  have hr := L.row i hi
  rw [hs] at hr
  have hi1 : (i : Int) < (m : Int) := by omega
  have hi0 : (0 : Int) ≤ (i : Int) := by omega
  have hb := hide (fun nd => bytes_of (w := w.drewN nd) (v := .slice (some ⟨g, 0, none⟩) N cap) L.data)
  have hw := hide (fun nd => cut_word (w := w.drewN nd) (l := N - s) (cap := cap - s) (show Var (w.drewN nd) g s n k from h) (by omega) (by omega) (by unfold maxLen at *; omega) hk hn)
  unfold maxLen at hm
  have s1 : (s : Int) ≤ (N : Int) := by omega
  have s5 : (N : Int) ≤ (cap : Int) := by omega
  have s6 : ¬ cap = s := by omega
  go_enter Yba.func15, Yba.ntmps15
  go_wp2_with fail
  go_quiet (first | exact (hb.out _).quiet_of_same | exact (hw.out _).quiet_of)
  obtain ⟨u, hu⟩ : ∃ u, u = wordAt g s n k (cap - s) := ⟨_, rfl⟩
  rw [← hu]
  have HU := hide hu
  clear hu
  go_wp2_with fail
  refine bodyPost_ret (results_tmp rfl _ _ _) rfl ⟨?_, nq, rfl⟩
  rw [← HU.out]
  rfl

theorem new_block (w : World) (a : Option Addr) (l c : Nat) : Calls Yba.prog 13 #[.slice a l c] w fun e w' => e = .returned (pt w.heap.size) ∧ w' = w.alloc (.cells #[.slice a l c, .int .u32 0, .int .i32 0, .int .u32 0, .slice none 0 0] 100) := by
  go_enter Yba.func13, Yba.ntmps13
  go_wp2_with fail
  exact bodyPost_ret (results_tmp rfl _ _ _) rfl ⟨rfl, rfl⟩

theorem step {w : World} {nb : Nat} {cs : Array Value} (j : Nat) (v : Value) (h : w.heap[nb]? = some (.cells cs 33 (0, 0))) :
    ∃ w', w.setCell ⟨nb, j, none⟩ v = w' ∧ w'.heap[nb]? = some (.cells (cs.setIfInBounds j v) 33 (0, 0)) ∧ w.grownBy w' (some nb) ∧ w'.heap.size = w.heap.size :=
  ⟨_, rfl, Go.heap_setCell_same w nb j _ 33 v h, ⟨rfl, rfl, rfl, by rw [Go.Deep.nblk_setCell]; exact Nat.le_refl _, fun k _ hk => Go.Deep.blk_setCell_other w _ v k (by simpa using hk)⟩, Go.Deep.nblk_setCell _ _ _⟩

theorem gtrans {a b c : World} {r : Nat} (h : a.grownBy b (some r)) (k : b.grownBy c (some r)) : a.grownBy c (some r) :=
  ⟨k.os.trans h.os, k.tape.trans h.tape, k.output.trans h.output, Nat.le_trans h.size k.size, fun i hi hr => (k.block i (Nat.lt_of_lt_of_le hi h.size) hr).trans (h.block i hi hr)⟩

/-- Five stores into one row, a new block. -/
theorem stored5 {w : World} {nb : Nat} {cs : Array Value} {d0 d1 d2 d5 e5 : Value} {o : Obj} (hnode : w.heap[nb]? = some (.cells cs 33 (0, 0))) :
    ∃ W, (((((w.setCell ⟨nb, 0, none⟩ d0).setCell ⟨nb, 1, none⟩ d1).setCell ⟨nb, 2, none⟩ d2).setCell ⟨nb, 5, none⟩ d5).setCell ⟨nb, 5, none⟩ e5).alloc o = W ∧
    W.heap[nb]? = some (.cells (((((cs.setIfInBounds 0 d0).setIfInBounds 1 d1).setIfInBounds 2 d2).setIfInBounds 5 d5).setIfInBounds 5 e5) 33 (0, 0)) ∧ W.heap[w.heap.size]? = some o ∧ w.grownBy W (some nb) ∧ W.heap.size = w.heap.size + 1 := by
  have hlt : nb < w.heap.size := (Array.getElem?_eq_some_iff.1 hnode).1
  obtain ⟨w1, e1, a1, g1, z1⟩ := step 0 d0 hnode
  obtain ⟨w2, e2, a2, g2, z2⟩ := step 1 d1 a1
  obtain ⟨w3, e3, a3, g3, z3⟩ := step 2 d2 a2
  obtain ⟨w4, e4, a4, g4, z4⟩ := step 5 d5 a3
  obtain ⟨w5, e5, a5, g5, z5⟩ := step 5 e5 a4
  have z : w5.heap.size = w.heap.size := by omega
  rw [e1, e2, e3, e4, e5]
  refine ⟨_, rfl, ((World.grownBy_alloc w5 o none).block nb (by rw [z]; exact hlt) (by simp)).trans a5, ?_, gtrans g1 (gtrans g2 (gtrans g3 (gtrans g4 (gtrans g5 (World.grownBy_alloc w5 o (some nb)))))), ?_⟩
  · rw [← z]; exact heap_alloc_new w5 o
  · rw [← z]; simp only [World.alloc, Array.size_push]

set_option maxHeartbeats 1000000 in
theorem set_block {w : World} {nb g N cap : Nat} {st : Value} {m sc : Nat} {sa : Option Addr} (hst : st = .slice sa m sc)
    (hnode : w.heap[nb]? = some (.cells #[.int .i64 0, .int .i64 0, .slice none 0 0, .slice none 0 0, .slice none 0 0, .pointer none, .pointer none, .pointer none] 33 (0, 0))) (hN : 0 < N) :
    Calls Yba.prog 6 #[pt nb, .slice (some ⟨g, 0, none⟩) N cap, st] w fun e w' => e = .returned (.tuple #[]) ∧ w'.heap[nb]? = some (.cells #[.int .i64 N, .int .i64 m, st, .slice none 0 0, .slice none 0 0, pt w.heap.size, .pointer none, .pointer none] 33 (0, 0)) ∧
      w'.cell? ⟨w.heap.size, 0, none⟩ = some (.slice (some ⟨g, 0, none⟩) N cap) ∧ w.grownBy w' (some nb) ∧ w'.heap.size = w.heap.size + 1 := by
  subst hst
  have hlt : nb < w.heap.size := (Array.getElem?_eq_some_iff.1 hnode).1
  have hN' : (0 : Int) < (N : Int) := by omega
  have hc : ∀ (j : Nat) (v : Value), #[Value.int .i64 0, .int .i64 0, .slice none 0 0, .slice none 0 0, .slice none 0 0, .pointer none, .pointer none, .pointer none][j]? = some v → w.cell? ⟨nb, j, none⟩ = some v := fun j v h => by rw [cell_of_row _ _ _ _ _ _ hnode]; exact h
  have hf : ∀ j, w.frozen? ⟨nb, j, none⟩ = false := fun j => frozen_of_row _ _ _ _ _ hnode
  have k0 := hc 0 _ rfl
  have k1 := hc 1 _ rfl
  have k2 := hc 2 _ rfl
  have k5 := hc 5 _ rfl
  have HN := hide hnode
  clear hc hnode
  go_enter Yba.func6, Yba.ntmps6
  go_wp2_with fail
  refine (new_block _ _ _ _).mono ?_
  rintro e w' ⟨rfl, rfl⟩
  go_wp2_with fail
  obtain ⟨W, e, t1, t2, t3, t4⟩ := stored5 (d0 := .int .i64 N) (d1 := .int .i64 m) (d2 := .slice sa m sc) (d5 := .pointer none) (e5 := .pointer (some ⟨w.heap.size, 0, none⟩)) (o := .cells #[.slice (some ⟨g, 0, none⟩) N cap, .int .u32 0, .int .i32 0, .int .u32 0, .slice none 0 0] 100) HN.out
  rw [e]
  refine bodyPost_end (results_none rfl _ _ _) rfl ?_
  refine ⟨rfl, t1, ?_, t3, t4⟩
  rw [cell_of_row _ _ _ _ _ _ t2]
  rfl
end Go.Proofs.Ybulkayte
