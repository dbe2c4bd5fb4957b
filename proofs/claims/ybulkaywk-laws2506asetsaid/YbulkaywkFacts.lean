/-
  WHAT THE WALK OF LawS2506ASet CARRIES: PLAIN FACTS ON BLOCKS.
-/
import Derived.Test.YbulkaywkPtr
import Derived.Deep.Heap
import Derived.Laws.OwnMore
namespace Go.Proofs.Ybulkaywk
open Go.RowKit Go.ChangeMaps Go.MapKept

/-- A store of a literal into a map that the call has just made. -/
theorem wpList_insert {P : Program} (w : World) {ops : Array Oper} {rest : List Oper} {o : Oper} {a : Act} {Q : Exit → Act → World → Prop}
    (hg : o.guard = none) (m x v : Operand) (t : TypeId) (hop : o.op = Op.insert t m x v) (B : Nat) (o' : Obj) (hB : w.heap[B]? = some (.map #[] 0))
    (hrun : (Instr.mapUpdate t (a.eval m) (a.eval x) (a.eval v)).run P w = .ok () (setBlock w B o'))
    (hK : ∀ w', w'.heap[B]? = some o' → w.grownBy w' (some B) → w'.heap.size = w.heap.size → wpList P ops Q rest (a.put o.dst undef) w') :
    wpList P ops Q (o :: rest) a w := by
  refine wpList_plain hg fun K' hK' => ?_
  unfold Oper.wp
  simp [execOp, hop, hrun, Result.andThen]
  exact hK' _ _ (hK _ (heap_setBlock_same hB _) (grown_set hB _) (by simp [setBlock]))

/-- What stands still from the start on: the first param, the two maps' fields, the two rows of one entry. N: the first new block. -/
structure Fx (w : World) (N : Nat) : Prop where
  pre : Blk w N
  one : w.heap[N + 3]? = some (.map #[⟨.string ⟨#[88]⟩, .slice (some ⟨N + 4, 0, none⟩) 1 1, 0⟩] 1)
  r1 : w.cell? ⟨N + 4, 0, none⟩ = some (ptr (N + 2))
  r2 : w.cell? ⟨N + 5, 0, none⟩ = some (ptr (N + 2))
  o0 : w.cell? ⟨N + 7, 0, none⟩ = some (.map (some (N + 3)))
  o1 : w.cell? ⟨N + 7, 1, none⟩ = some (.slice (some ⟨N + 5, 0, none⟩) 1 1)
  o2 : w.cell? ⟨N + 7, 2, none⟩ = some (.map (some (N + 6)))
  size : N + 8 ≤ w.heap.size

theorem Fx.keep {w w' : World} {N b : Nat} (h : Fx w N) (hg : w.grownBy w' (some b)) (hb : b = N + 6 ∨ N + 8 ≤ b) : Fx w' N := by
  have hs := h.size
  have hk : ∀ k, k < N + 8 → k ≠ N + 6 → w'.heap[k]? = w.heap[k]? := fun k h1 h2 => hg.block k (by omega) (by simp; omega)
  refine ⟨?_, ?_, ?_, ?_, ?_, ?_, ?_, by have := hg.size; omega⟩
  · obtain ⟨cs, t, hc⟩ := h.pre
    exact ⟨cs, t, (hk N (by omega) (by omega)).trans hc⟩
  · exact (hk _ (by omega) (by omega)).trans h.one
  · exact (World.cell?_of_block (hk (N + 4) (by omega) (by omega))).trans h.r1
  · exact (World.cell?_of_block (hk (N + 5) (by omega) (by omega))).trans h.r2
  · exact (World.cell?_of_block (hk (N + 7) (by omega) (by omega))).trans h.o0
  · exact (World.cell?_of_block (hk (N + 7) (by omega) (by omega))).trans h.o1
  · exact (World.cell?_of_block (hk (N + 7) (by omega) (by omega))).trans h.o2

theorem five (w : World) (o0 o1 o2 o3 o4 : Obj) : ((((((w.alloc o0).alloc o1).alloc o2).alloc o3).alloc o4).heap[w.heap.size]? = some o0 ∧ (((((w.alloc o0).alloc o1).alloc o2).alloc o3).alloc o4).heap[w.heap.size + 3]? = some o3 ∧
    (((((w.alloc o0).alloc o1).alloc o2).alloc o3).alloc o4).heap[w.heap.size + 4]? = some o4 ∧ (((((w.alloc o0).alloc o1).alloc o2).alloc o3).alloc o4).heap.size = w.heap.size + 5 ∧ Below w.heap.size w (((((w.alloc o0).alloc o1).alloc o2).alloc o3).alloc o4)) := by
  refine ⟨?_, ?_, ?_, ?_, ⟨rfl, rfl, rfl, ?_, fun k hk => ?_⟩⟩ <;> simp only [World.alloc, Array.getElem?_push, Array.size_push]
  · rw [if_neg (by omega), if_neg (by omega), if_neg (by omega), if_neg (by omega), if_pos trivial]
  · rw [if_neg (by omega), if_pos trivial]
  · rw [if_pos trivial]
  · omega
  · rw [if_neg (by omega), if_neg (by omega), if_neg (by omega), if_neg (by omega), if_neg (by omega)]

theorem two (w : World) (o0 o1 : Obj) : (((w.alloc o0).alloc o1).heap[w.heap.size]? = some o0 ∧ ((w.alloc o0).alloc o1).heap[w.heap.size + 1]? = some o1 ∧ ((w.alloc o0).alloc o1).heap.size = w.heap.size + 2 ∧ Below w.heap.size w ((w.alloc o0).alloc o1)) := by
  refine ⟨?_, ?_, ?_, ⟨rfl, rfl, rfl, ?_, fun k hk => ?_⟩⟩ <;> simp only [World.alloc, Array.getElem?_push, Array.size_push]
  · rw [if_neg (by omega), if_pos trivial]
  · rw [if_pos trivial]
  · omega
  · rw [if_neg (by omega), if_neg (by omega)]

theorem below_then {B : Nat} {w w' w'' : World} {b : Nat} (h : Below B w w') (hg : w'.grownBy w'' (some b)) (hb : B ≤ b) (hB : B ≤ w'.heap.size) : Below B w w'' :=
  ⟨hg.os.trans h.os, hg.tape.trans h.tape, hg.output.trans h.output, Nat.le_trans h.size hg.size, fun k hk => (hg.block k (by omega) (by simp; omega)).trans (h.block k hk)⟩

theorem alloc_new (w : World) (o : Obj) : (w.alloc o).heap[w.heap.size]? = some o := heap_alloc_new w o
theorem alloc_size (w : World) (o : Obj) : (w.alloc o).heap.size = w.heap.size + 1 := by simp only [World.alloc, Array.size_push]
theorem alloc_grown (w : World) (o : Obj) (b : Nat) : w.grownBy (w.alloc o) (some b) := World.grownBy_alloc w o (some b)

theorem Blk.keep {w w' : World} {k b : Nat} (h : Blk w k) (hg : w.grownBy w' (some b)) (hne : k ≠ b) : Blk w' k := by
  have hlt := h.lt
  obtain ⟨cs, t, hc⟩ := h
  exact ⟨cs, t, (hg.block k hlt (by simpa using hne)).trans hc⟩

theorem blk_new (w : World) (cs : Array Value) (t : TypeId) : Blk (w.alloc (.cells cs t)) w.heap.size := ⟨_, _, alloc_new w _⟩

theorem grown_any {w w' : World} (h : w.grownBy w' none) (b : Nat) : w.grownBy w' (some b) := ⟨h.os, h.tape, h.output, h.size, fun k hk _ => h.block k hk (by simp)⟩
theorem Blk.keep0 {w w' : World} {k : Nat} (h : Blk w k) (hg : w.grownBy w' none) : Blk w' k := h.keep (grown_any hg (k + 1)) (by omega)
theorem Fx.keep0 {w w' : World} {N : Nat} (h : Fx w N) (hg : w.grownBy w' none) : Fx w' N := h.keep (grown_any hg (N + 6)) (.inl rfl)
theorem below_none {w w' : World} {B : Nat} (h : w.grownBy w' none) (hB : B ≤ w.heap.size) : Below B w w' := ⟨h.os, h.tape, h.output, h.size, fun k hk => h.block k (by omega) (by simp)⟩

theorem Fx.drew {w : World} {N : Nat} (h : Fx w N) (nd : Nat) : Fx (w.drewN nd) N := ⟨h.pre, h.one, h.r1, h.r2, h.o0, h.o1, h.o2, h.size⟩

theorem fx_made {w2 : World} {N : Nat} {cs : Array Value} (hs : w2.heap.size = N + 7) (c2 : Blk w2 N) (c3 : w2.heap[N + 3]? = some (.map #[⟨.string ⟨#[88]⟩, .slice (some ⟨N + 4, 0, none⟩) 1 1, 0⟩] 1))
    (c4 : w2.heap[N + 4]? = some (.cells #[ptr (N + 2)] 29)) (c5 : w2.heap[N + 5]? = some (.cells #[ptr (N + 2)] 29)) (r1 : w2.heap[N + 6]? = some (.map #[⟨ptr N, .bool true, 0⟩] 1))
    (hcs : cs = #[.map (some (N + 3)), .slice (some ⟨N + 5, 0, none⟩) 1 1, .map (some (N + 6))]) :
    Fx (w2.alloc (.cells cs 44)) N ∧ PtrSet (w2.alloc (.cells cs 44)) (N + 6) [N] ∧ (w2.alloc (.cells cs 44)).heap.size = N + 8 := by
  have hk : ∀ k, k < N + 7 → (w2.alloc (.cells cs 44)).heap[k]? = w2.heap[k]? := fun k hk => (alloc_grown w2 (.cells cs 44) (N + 7)).block k (by omega) (by simp; omega)
  have hn : (w2.alloc (.cells cs 44)).heap[N + 7]? = some (.cells cs 44) := by rw [← hs]; exact alloc_new w2 _
  have hb : Blk (w2.alloc (.cells cs 44)) N := by obtain ⟨c, t, h⟩ := c2; exact ⟨c, t, (hk N (by omega)).trans h⟩
  refine ⟨⟨hb, (hk _ (by omega)).trans c3, ?_, ?_, ?_, ?_, ?_, by rw [alloc_size]; omega⟩, ⟨_, _, (hk _ (by omega)).trans r1, ⟨rfl, by simp⟩, by simpa using hb⟩, by rw [alloc_size]; omega⟩
  · rw [cell_of_row _ _ _ _ _ _ ((hk _ (by omega)).trans c4)]; rfl
  · rw [cell_of_row _ _ _ _ _ _ ((hk _ (by omega)).trans c5)]; rfl
  · rw [cell_of_row _ _ _ _ _ _ hn, hcs]; rfl
  · rw [cell_of_row _ _ _ _ _ _ hn, hcs]; rfl
  · rw [cell_of_row _ _ _ _ _ _ hn, hcs]; rfl

theorem row_of_owns {w : World} {base g n : Nat} {t : TypeId} {xs : List Value} (h : w.ownsRow base t 1 (.slice (some ⟨g, 0, none⟩) n n) n xs) : w.heap[g]? = some (.cells xs.toArray t (0, 0)) := by
  rcases h.2 with ⟨h3, _⟩ | ⟨g', cap', cur, hv, _, hh, _, _, hs, ht⟩
  · simp at h3
  · simp only [Value.slice.injEq, Option.some.injEq, Addr.mk.injEq] at hv
    obtain ⟨⟨rfl, -, -⟩, -, rfl⟩ := hv
    rw [hh, ← ht, List.take_of_length_le (by simp [hs])]

theorem row_at {w : World} {g : Nat} {t : TypeId} {xs : List Value} (h : w.heap[g]? = some (.cells xs.toArray t (0, 0))) (j : Nat) : w.cell? ⟨g, j, none⟩ = xs[j]? := by
  rw [cell_of_row _ _ _ _ _ _ h]; simp

theorem row_set {w : World} {g : Nat} {t : TypeId} {xs : List Value} (h : w.heap[g]? = some (.cells xs.toArray t (0, 0))) (j : Nat) (v : Value) :
    (w.setCell ⟨g, j, none⟩ v).heap[g]? = some (.cells (xs.set j v).toArray t (0, 0)) ∧ w.grownBy (w.setCell ⟨g, j, none⟩ v) (some g) := by
  refine ⟨by rw [Go.heap_setCell_same w g j _ t v h]; simp, ⟨rfl, rfl, rfl, by rw [Go.Deep.nblk_setCell]; exact Nat.le_refl _, fun k _ hk => Go.Deep.blk_setCell_other w _ v k (by simpa using hk)⟩⟩

/-- The params' row behind k rounds. -/
def psL (N n k : Nat) : List Value := (List.range n).map fun j => if j < k then ptr (N + j) else .pointer none
theorem psL_set {N n k : Nat} : (psL N n k).set k (ptr (N + k)) = psL N n (k + 1) := by
  apply List.ext_getElem?
  intro j
  unfold psL
  rw [List.getElem?_set]
  by_cases hj : k = j
  · subst hj
    by_cases hn : k < n
    · simp [hn]
    · simp [hn]
  · rw [if_neg hj]
    by_cases hn : j < n
    · simp [hn, show j < k + 1 ↔ j < k by omega]
    · simp [hn]
theorem psL_zero {N n : Nat} : psL N n 0 = List.replicate n (.pointer none) := by
  apply List.ext_getElem?
  intro j
  unfold psL
  by_cases hn : j < n
  · simp [hn]
  · simp [hn]
theorem psL_at {N n j : Nat} (h : j < n) : (psL N n n)[j]? = some (ptr (N + j)) := by simp [psL, h]

/-- Behind k rounds of the first loop. g: the params' row. -/
structure I1 (w wr : World) (N0 g N n k : Nat) : Prop where
  bel : Below N0 w wr
  fx : Fx wr N0
  set : PtrSet wr (N0 + 6) [N0]
  row : wr.heap[g]? = some (.cells (psL N n k).toArray 24 (0, 0))
  blk : ∀ j, j < k → Blk wr (N + j)
  size : wr.heap.size = N + k

theorem I1.step {w wr : World} {N0 g N n k : Nat} (h : I1 w wr N0 g N n k) (hg : N0 + 8 ≤ g) (hN : g < N) (cs : Array Value) : I1 w ((wr.alloc (.cells cs 28)).setCell ⟨g, k, none⟩ (ptr (N + k))) N0 g N n (k + 1) := by
  have hs := h.size
  have a1 := alloc_grown wr (.cells cs 28) g
  have hrow : (wr.alloc (.cells cs 28)).heap[g]? = some (.cells (psL N n k).toArray 24 (0, 0)) := by
    have := (alloc_grown wr (.cells cs 28) (N + k)).block g (by omega) (by simp; omega)
    exact this.trans h.row
  obtain ⟨r1, r2⟩ := row_set hrow k (ptr (N + k))
  have hz : (wr.alloc (.cells cs 28)).heap.size = N + k + 1 := by rw [alloc_size, hs]
  refine ⟨?_, (h.fx.keep a1 (.inr hg)).keep r2 (.inr hg), ?_, by rw [r1, psL_set], fun j hj => ?_, by rw [Go.Deep.nblk_setCell, hz]; omega⟩
  · have hb := h.bel
    exact below_then (below_then hb a1 (by omega) (by omega)) r2 (by omega) (by omega)
  · have hk : ∀ (v : World), wr.grownBy v (some g) → PtrSet v (N0 + 6) [N0] := fun v hv => h.set.keep hv (by simp; omega) (fun b hb hB => hB.keep hv (by simp at hb; omega))
    have s1 := hk _ a1
    exact s1.keep r2 (by simp; omega) (fun b hb hB => hB.keep r2 (by simp at hb; omega))
  · by_cases e : j = k
    · subst e
      have : Blk (wr.alloc (.cells cs 28)) (N + j) := by rw [← hs]; exact blk_new wr cs 28
      exact this.keep r2 (by omega)
    · exact ((h.blk j (by omega)).keep a1 (by omega)).keep r2 (by omega)

/-- Behind the first loop. -/
structure Inv (w wr : World) (N0 g N n : Nat) : Prop where
  bel : Below N0 w wr
  fx : Fx wr N0
  row : wr.heap[g]? = some (.cells (psL N n n).toArray 24 (0, 0))
  blk : ∀ j, j < n → Blk wr (N + j)
  size : N + n ≤ wr.heap.size

theorem Inv.keep {w wr w' : World} {N0 g N n b : Nat} (h : Inv w wr N0 g N n) (hg : wr.grownBy w' (some b)) (hN0 : N0 + 8 ≤ g) (hgN : g < N) (hb : b = N0 + 6 ∨ N + n ≤ b) : Inv w' w' N0 g N n ∧ Inv w w' N0 g N n := by
  have hs := h.size
  have hk : Fx w' N0 := h.fx.keep hg (by omega)
  have hr : w'.heap[g]? = some (.cells (psL N n n).toArray 24 (0, 0)) := (hg.block g (by omega) (by simp; omega)).trans h.row
  have hbl : ∀ j, j < n → Blk w' (N + j) := fun j hj => (h.blk j hj).keep hg (by omega)
  have hsz : N + n ≤ w'.heap.size := Nat.le_trans hs hg.size
  exact ⟨⟨Below.refl _ _, hk, hr, hbl, hsz⟩, ⟨below_then h.bel hg (by omega) (by omega), hk, hr, hbl, hsz⟩⟩

/-- The marks and the set's list agree. -/
def Mk (N n : Nat) (ms : List Bool) (L : List Nat) : Prop := ms.length = n ∧ ∀ j, j < n → (N + j ∈ L ↔ ms.getD j false = true)

theorem mk_zero (N n : Nat) : Mk N n (List.replicate n false) [] := ⟨by simp, fun j hj => by simp [List.getD, hj]⟩

theorem Mk.seen {N n N0 : Nat} {ms : List Bool} {L : List Nat} (h : Mk N n ms L) {k : Nat} (hk : k < n) (hm : ms.getD k false = true) : added (N0 :: L) (N + k) = N0 :: L := by
  unfold added
  rw [if_pos (by simp [(h.2 k hk).2 hm])]

theorem Mk.fresh {N n N0 : Nat} {ms : List Bool} {L : List Nat} (h : Mk N n ms L) {k : Nat} (hk : k < n) (hN : N0 < N) (hm : ms.getD k false = false) : added (N0 :: L) (N + k) = N0 :: (L ++ [N + k]) ∧ Mk N n (ms.set k true) (L ++ [N + k]) := by
  have hn : N + k ∉ L := fun hx => by have := (h.2 k hk).1 hx; rw [hm] at this; cases this
  constructor
  · unfold added
    rw [if_neg (by simp [hn]; omega)]
    rfl
  · refine ⟨by simpa using h.1, fun j hj => ?_⟩
    have := h.2 j hj
    have hl := h.1
    by_cases e : j = k
    · subst e
      simp [List.getD, hl, hj]
    · simp only [List.mem_append, List.mem_singleton, show N + j = N + k ↔ False by simp [e], or_false, this]
      simp [List.getD, show ¬ k = j by omega]

theorem Mk.mem {N n N0 : Nat} {ms : List Bool} {L : List Nat} (h : Mk N n ms L) {k : Nat} (hk : k < n) (hN : N0 < N) : decide (N + k ∈ N0 :: L) = ms.getD k false := by
  have := h.2 k hk
  have hne : N + k ≠ N0 := by omega
  cases hm : ms.getD k false with
  | true => rw [hm] at this; simp [this]
  | false => rw [hm] at this; simp [hne]; simpa using this

/-- In the second loop and behind it. gm: the marks' row. -/
structure I2 (w wr : World) (N0 g N n gm : Nat) (ms : List Bool) (L : List Nat) : Prop where
  inv : Inv w wr N0 g N n
  set : PtrSet wr (N0 + 6) (N0 :: L)
  row : wr.heap[gm]? = some (.cells (ms.map Value.bool).toArray 4 (0, 0))
  agree : Mk N n ms L
  low : ∀ b ∈ L, b < N + n

theorem I2.mark {w wr : World} {N0 g N n gm : Nat} {ms : List Bool} {L : List Nat} (h : I2 w wr N0 g N n gm ms L) {k : Nat} (hk : k < n) : wr.cell? ⟨gm, k, none⟩ = some (.bool (ms.getD k false)) := by
  have hl := h.agree.1
  rw [row_at h.row]
  simp [List.getD, hl, hk]

theorem I2.param {w wr : World} {N0 g N n gm : Nat} {ms : List Bool} {L : List Nat} (h : I2 w wr N0 g N n gm ms L) {k : Nat} (hk : k < n) : wr.cell? ⟨g, k, none⟩ = some (ptr (N + k)) := by
  rw [row_at h.inv.row, psL_at hk]

section
variable {w wr w' : World} {N0 g N n gm k : Nat} {ms : List Bool} {L : List Nat}
theorem I2.seen (h : I2 w wr N0 g N n gm ms L) (hp : PtrSet w' (N0 + 6) (added (N0 :: L) (N + k))) (hg : wr.grownBy w' (some (N0 + 6))) (hk : k < n) (hN0 : N0 + 8 ≤ g) (hgN : g < N) (hgm : N + n ≤ gm)
    (hm : ms.getD k false = true) : I2 w w' N0 g N n gm ms L := by
  refine ⟨(h.inv.keep hg hN0 hgN (.inl rfl)).2, ?_, ?_, h.agree, h.low⟩
  · rwa [h.agree.seen hk hm] at hp
  · exact (hg.block gm (Array.getElem?_eq_some_iff.1 h.row).1 (by simp; omega)).trans h.row

theorem I2.fresh (h : I2 w wr N0 g N n gm ms L) (hp : PtrSet w' (N0 + 6) (added (N0 :: L) (N + k))) (hg : wr.grownBy w' (some (N0 + 6))) (hk : k < n) (hN0 : N0 + 8 ≤ g) (hgN : g < N) (hgm : N + n ≤ gm)
    (hm : ms.getD k false = false) : I2 w (w'.setCell ⟨gm, k, none⟩ (.bool true)) N0 g N n gm (ms.set k true) (L ++ [N + k]) := by
  have hrow : w'.heap[gm]? = some (.cells (ms.map Value.bool).toArray 4 (0, 0)) := (hg.block gm (Array.getElem?_eq_some_iff.1 h.row).1 (by simp; omega)).trans h.row
  obtain ⟨r1, r2⟩ := row_set hrow k (.bool true)
  obtain ⟨e1, e2⟩ := h.agree.fresh (N0 := N0) hk (by omega) hm
  rw [e1] at hp
  refine ⟨(((h.inv.keep hg hN0 hgN (.inl rfl)).2).keep r2 hN0 hgN (.inr hgm)).2, ?_, ?_, e2, fun b hb => ?_⟩
  · refine hp.keep r2 (by simp; omega) (fun b hb hB => hB.keep r2 ?_)
    have hb' : b = N0 ∨ b ∈ L ∨ b = N + k := by simpa using hb
    rcases hb' with h1 | h1 | h1
    · omega
    · have := h.low b h1; omega
    · omega
  · rw [r1, List.map_set]
  · rcases List.mem_append.1 hb with h1 | h1
    · exact h.low b h1
    · simp at h1; omega
end
end Go.Proofs.Ybulkaywk
