/-
  A SLICE OF INTEGERS OF THE CALL's OWN, NEVER NIL: ITS SMALL LAWS.
-/
import Derived.Test.YbulkayteRows
import Derived.WalkKit
import Derived.WalkSpells
import Derived.WalkLawsBesides
import Derived.BigQuiet
import Derived.Deep.QuietTactic
import Derived.Deep.DeepCutAuto
import Derived.Laws.CopyOwn
import Derived.OpenShut
namespace Go.Proofs.Ybulkayte
open Go.RowKit

theorem hide {p : Prop} (h : p) : Hid p := h

/-- A slice of integers of the call's own, not nil: block g from its head on, n elements, the numbers xs; g is a block from 'base' on. -/
def Own (q : IntKind) (t : TypeId) (w : World) (base g n cap : Nat) (xs : List Int) : Prop := xs.length = n ∧ w.ownsRow base t 1 (.slice (some ⟨g, 0, none⟩) n cap) n (xs.map (Value.int q))

section
variable {q : IntKind} {t : TypeId} {w w' : World} {base g n cap : Nat} {xs ys : List Int}

theorem Own.lo (h : Own q t w base g n cap xs) : base ≤ g := (h.2.lt g rfl).1
theorem Own.hi (h : Own q t w base g n cap xs) : g < w.heap.size := (h.2.lt g rfl).2

theorem Own.cell (h : Own q t w base g n cap xs) {j : Nat} (hj : j < n) : w.cell? ⟨g, j, none⟩ = some (.int q (xs.getD j 0)) := by
  have hl := h.1
  have hc := h.2.cells (g := g) rfl j (.int q (xs.getD j 0)) (by simp [List.getD, show j < xs.length by omega])
  simpa [Addr.add_lit] using hc

theorem Own.parts (h : Own q t w base g n cap xs) : ∃ cur, base ≤ g ∧ w.heap[g]? = some (.cells cur t (0, 0)) ∧ n ≤ cap ∧ cap ≤ maxLen ∧ cur.size = cap * 1 ∧ cur.toList.take (n * 1) = xs.map (Value.int q) := by
  rcases h.2.2 with ⟨h3, _⟩ | ⟨g', cap', cur, hv, r⟩
  · simp at h3
  · simp only [Value.slice.injEq, Option.some.injEq, Addr.mk.injEq] at hv
    obtain ⟨⟨rfl, -, -⟩, -, rfl⟩ := hv
    exact ⟨cur, r⟩

theorem Own.of_parts {cur : Array Value} (hx : xs.length = n) (hb : base ≤ g) (hh : w.heap[g]? = some (.cells cur t (0, 0))) (hn : n ≤ cap) (hm : cap ≤ maxLen) (hs : cur.size = cap * 1) (ht : cur.toList.take (n * 1) = xs.map (Value.int q)) : Own q t w base g n cap xs :=
  ⟨hx, by simp [hx], .inr ⟨g, cap, cur, rfl, hb, hh, hn, hm, hs, ht⟩⟩

theorem Own.le (h : Own q t w base g n cap xs) : n ≤ cap := by obtain ⟨_, _, _, h, _⟩ := h.parts; exact h

theorem Own.take (h : Own q t w base g n cap xs) {k : Nat} (hk : k ≤ n) : Own q t w base g k cap (xs.take k) := by
  obtain ⟨cur, hb, hh, hn, hm, hs, ht⟩ := h.parts
  have hl := h.1
  refine Own.of_parts (by simp; omega) hb hh (by omega) hm hs ?_
  simp only [Nat.mul_one] at ht ⊢
  rw [List.map_take, ← ht, List.take_take, Nat.min_eq_left hk]

theorem Own.keep (h : Own q t w base g n cap xs) (hb : w'.heap[g]? = w.heap[g]?) : Own q t w' base g n cap xs := by
  obtain ⟨cur, hbb, hh, hn, hm, hs, ht⟩ := h.parts
  exact Own.of_parts h.1 hbb (hb.trans hh) hn hm hs ht

theorem Own.rebase (h : Own q t w base g n cap xs) {b' : Nat} (hb : b' ≤ g) : Own q t w b' g n cap xs := by
  obtain ⟨cur, _, hh, hn, hm, hs, ht⟩ := h.parts
  exact Own.of_parts h.1 hb hh hn hm hs ht

theorem Own.stored (h : Own q t w base g n cap xs) (j : Nat) (u : Int) : Own q t (w.setCell ⟨g, j, none⟩ (.int q u)) base g n cap (xs.set j u) :=
  ⟨by simpa using h.1, by have := (h.2.stored j (.int q u)).1; rwa [← List.map_set] at this⟩

theorem Own.frozen (h : Own q t w base g n cap xs) (j : Nat) : w.frozen? ⟨g, j, none⟩ = false := h.2.frozenAt j

theorem Own.row (h : Own q t w base g n n xs) : w.heap[g]? = some (.cells (xs.map (Value.int q)).toArray t (0, 0)) := by
  obtain ⟨cur, _, hh, _, _, hs, ht⟩ := h.parts
  rw [hh]
  have e : cur.toList = xs.map (Value.int q) := by rw [← ht, List.take_of_length_le (by simp [hs])]
  rw [← e]

theorem own_of_row (h : w.heap[g]? = some (.cells (xs.map (Value.int q)).toArray t (0, 0))) (hb : base ≤ g) (hn : xs.length = n) (hm : n ≤ maxLen) : Own q t w base g n n xs :=
  Own.of_parts hn hb h (Nat.le_refl _) hm (by simp [hn]) (by rw [List.take_of_length_le (by simp [hn])])

theorem Own.alloc (h : Own q t w base g n cap xs) (o : Obj) : Own q t (w.alloc o) base g n cap xs := ⟨h.1, h.2.alloc o⟩

theorem own_form {base e size n : Nat} {v : Value} {xs : List Value} (h : w.ownsRow base e size v n xs) (hv : v ≠ .slice none 0 0) : ∃ g cap, v = .slice (some ⟨g, 0, none⟩) n cap := by
  rcases h.2 with ⟨h, _⟩ | ⟨g, cap, _, h, _⟩
  · exact absurd h hv
  · exact ⟨g, cap, h⟩

/-- What an append leaves of an owned slice that is not nil. -/
theorem own_grown {m : Nat} {v : Value} (hn : xs.length = n) (hm : ys.length = m)
    (h : w'.ownsRow base t 1 v (n + m) (xs.map (Value.int q) ++ ys.map (Value.int q))) (hg : w.grownBy w' (Value.slice (some ⟨g, 0, none⟩) n cap).ownBlock)
    (hv : ¬ v = .slice none 0 0) : ∃ g' cap', v = .slice (some ⟨g', 0, none⟩) (n + m) cap' ∧ Own q t w' base g' (n + m) cap' (xs ++ ys) ∧ w.grownBy w' (some g) := by
  obtain ⟨g', cap', rfl⟩ := own_form h hv
  exact ⟨g', cap', rfl, ⟨by simp [hn, hm], by simpa using h⟩, hg⟩

/-- What 'make' leaves. -/
theorem own_made {z : Int} (h : w'.ownsRow base t 1 (.slice (some ⟨g, 0, none⟩) n n) n (madeCells #[.int q z] n).toList) : Own q t w' base g n n (List.replicate n z) :=
  ⟨by simp, by simpa [toList_madeCells_one] using h⟩

theorem cells_take {b off m : Nat} {rs : List Int} (hrs : rs.length = m) (hcell : ∀ j, j < m → w.cell? ⟨b, off + j, none⟩ = some (.int q (rs.getD j 0))) (k : Nat) :
    ∀ j u, ((rs.take k).map (Value.int q))[j]? = some u → w.cell? ((⟨b, off, none⟩ : Addr).add j) = some u := by
  intro j u hu
  obtain ⟨hj, hju⟩ := List.getElem?_eq_some_iff.1 hu
  simp only [List.length_map, List.length_take] at hj
  rw [Addr.add_lit, hcell j (by omega)]
  simp only [List.getElem_map, List.getElem_take] at hju
  rw [← hju]
  simp [List.getD, show j < rs.length by omega]

theorem cells_all {b off m : Nat} {rs : List Int} (hrs : rs.length = m) (hcell : ∀ j, j < m → w.cell? ⟨b, off + j, none⟩ = some (.int q (rs.getD j 0))) :
    ∀ j u, (rs.map (Value.int q))[j]? = some u → w.cell? ((⟨b, off, none⟩ : Addr).add j) = some u := by
  have := cells_take hrs hcell m
  rw [List.take_of_length_le (by omega)] at this
  exact this

theorem grown_below (hb : base ≤ w.heap.size) (hg : base ≤ g) (h : w.grownBy w' (some g)) : Below base w w' :=
  ⟨h.os, h.tape, h.output, h.size, fun k hk => h.block k (by omega) (by simp; omega)⟩

theorem below_drewN {b : World} {nd : Nat} (h : Below base w b) : Below base w (b.drewN nd) := ⟨h.os, h.tape, h.output, h.size, h.block⟩
end

/-- A new cell; an old cell behind a new block. -/
theorem cell_new (W : World) (cs : Array Value) (T : TypeId) (o : Nat) (b : Nat) (hb : b = W.heap.size) : (W.alloc (.cells cs T)).cell? ⟨b, o, none⟩ = cs[o]? := by
  subst hb
  rw [cell_of_row _ _ _ _ _ _ (heap_alloc_new W _)]

theorem cell_old (W : World) (o : Obj) (b i : Nat) (hb : b < W.heap.size) : (W.alloc o).cell? ⟨b, i, none⟩ = W.cell? ⟨b, i, none⟩ :=
  World.cell?_of_block (a := ⟨b, i, none⟩) (Below.heap_alloc W o b hb)

/-- WHAT IS TOLD OF A SLICE OF INTEGERS THAT CAME IN: it is nil; or it leads to a row of 'cap' cells, the numbers 'zs' (the first 'len' are its elements, the rest its spare room), each fitting its kind. -/
def IsRow (k : IntKind) (w : World) (a : Option Addr) (len cap : Nat) (zs : List Int) : Prop :=
  (a = none ∧ len = 0 ∧ cap = 0 ∧ zs = []) ∨
  ∃ x, a = some x ∧ len ≤ cap ∧ cap ≤ maxLen ∧ zs.length = cap ∧ (∀ i, i < zs.length → w.cell? (x.add i) = some (.int k (zs.getD i 0))) ∧ ∀ n ∈ zs, (Lit.int k n).wf = true

theorem row_cell {k : IntKind} {w : World} {a : Option Addr} {len cap : Nat} {zs : List Int} (h : IsRow k w a len cap zs) : len ≤ zs.length ∧ (a = none → len = 0 ∧ cap = 0) ∧ ∀ j, j < len → ∃ b off, a = some ⟨b, off, none⟩ ∧ w.cell? ⟨b, off + j, none⟩ = some (.int k (zs.getD j 0)) ∧ (Lit.int k (zs.getD j 0)).wf = true := by
  rcases h with ⟨rfl, rfl, rfl, rfl⟩ | ⟨x, rfl, hl, hc, hz, hcell, hwf⟩
  · exact ⟨Nat.le_refl _, fun _ => ⟨rfl, rfl⟩, fun j hj => absurd hj (Nat.not_lt_zero _)⟩
  · refine ⟨by omega, fun h => by simp at h, fun j hj => ?_⟩
    have hw : (Lit.int k (zs.getD j 0)).wf = true := by
      have e : zs.getD j 0 = zs[j] := by simp [List.getD, show j < zs.length by omega]
      rw [e]
      exact hwf _ (List.getElem_mem _)
    obtain ⟨b, off, rfl, hc⟩ := ints_at hcell (by omega)
    exact ⟨b, off, rfl, hc j (by omega), hw⟩

theorem IsRow.later {k : IntKind} {w w' : World} {a : Option Addr} {len cap : Nat} {zs : List Int} (h : IsRow k w a len cap zs) (hb : Below w.heap.size w w') : IsRow k w' a len cap zs := by
  rcases h with h | ⟨x, rfl, hl, hc, hz, hcell, hwf⟩
  · exact .inl h
  · exact .inr ⟨x, rfl, hl, hc, hz, fun i hi => (hb.cell (World.block_lt_of_cell? w _ (hcell i hi))).trans (hcell i hi), hwf⟩

/-- The row behind k rounds of 'row[i] = f(zs[i])'. -/
def rowF (f : Int → Int) (zs : List Int) (m k : Nat) : List Int := (zs.take k).map f ++ List.replicate (m - k) 0
theorem rowF_len {f : Int → Int} {zs : List Int} {m k : Nat} (h : m ≤ zs.length) (hk : k ≤ m) : (rowF f zs m k).length = m := by simp [rowF]; omega
theorem rowF_set {f : Int → Int} {zs : List Int} {m k : Nat} (h : m ≤ zs.length) (hk : k < m) : (rowF f zs m k).set k (f (zs.getD k 0)) = rowF f zs m (k + 1) := by
  apply List.ext_getElem?
  intro j
  unfold rowF
  have e : zs.getD k 0 = zs[k] := by simp [List.getD, show k < zs.length by omega]
  rw [e, List.getElem?_set]
  by_cases hj : k = j
  · subst hj
    rw [if_pos rfl, if_pos (by simp; omega), List.getElem?_append_left (by simp; omega)]
    simp [show k < zs.length by omega]
  · rw [if_neg hj]
    by_cases hlt : j < k
    · rw [List.getElem?_append_left (by simp; omega), List.getElem?_append_left (by simp; omega)]
      simp [hlt, show j < k + 1 by omega]
    · rw [List.getElem?_append_right (by simp; omega), List.getElem?_append_right (by simp; omega)]
      simp only [List.length_map, List.length_take, List.getElem?_replicate]
      by_cases hm : j < m
      · rw [if_pos (by omega), if_pos (by omega)]
      · rw [if_neg (by omega), if_neg (by omega)]
theorem rowF_full {f : Int → Int} {zs : List Int} {m : Nat} : rowF f zs m m = (zs.take m).map f := by simp [rowF]
theorem rowF_zero {f : Int → Int} {zs : List Int} {m : Nat} : rowF f zs m 0 = List.replicate m 0 := by simp [rowF]

end Go.Proofs.Ybulkayte
