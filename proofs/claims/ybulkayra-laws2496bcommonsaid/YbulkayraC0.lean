/-
  repeatPrefix, ALL ITS WAYS IN ONE CONTRACT; A NODE THAT STAYS WHAT IT IS; THE PLAIN SIDE OF LawS2496CLiteralRepeat.
-/
import Derived.Test.YbulkayraRepeat
namespace Go.Proofs.Ybulkayra
open Go.RowKit

def rpq (mn : Nat) (mx : Int) (p : List Int) (ex : Bool) : List Int := if (mx == 0) = true then [] else if (mn == 0) = true then [] else if ex = true then rep p mn else p
def rpx (mn : Nat) (mx : Int) (p : List Int) (ex : Bool) : Bool := if (mx == 0) = true then true else if (mn == 0) = true then ex && p.isEmpty else if ex = true then ((mn : Int) == mx) || p.isEmpty else false
def rpf (mn : Nat) (mx : Int) (ex fr : Bool) : Bool := if (mx == 0) = true then true else if (mn == 0) = true then true else if ex = true then fr else false

theorem repeat_all (base nb sb c b1 g n cap mn : Nat) (mx : Int) (p : List Int) (ex fr : Bool) (xs : List Int) (w : World) (h6 : w.cell? ⟨nb, 6, none⟩ = some (.int .i64 (mn : Int))) (h7 : w.cell? ⟨nb, 7, none⟩ = some (.int .i64 mx))
    (h9 : w.cell? ⟨nb, 9, none⟩ = some (.slice (some ⟨sb, 0, none⟩) 1 c)) (hx : w.cell? ⟨sb, 0, none⟩ = some (.pointer (some ⟨b1, 0, none⟩))) (hmn : mn ≤ 4) (hnb : nb < base)
    (hp : Pfx w base b1 p ex fr) (hpl : p.length ≤ 2000) (hown : Own w base g n cap xs) (hn : n ≤ 2000) (hbase : base ≤ w.heap.size) :
    Calls Yba.prog 7 #[.pointer (some ⟨nb, 0, none⟩), .slice (some ⟨g, 0, none⟩) n cap] w fun e w' => ∃ g' cap' N, e = .returned (.tuple #[.slice (some ⟨g', 0, none⟩) N cap', .bool (rpx mn mx p ex), .bool (rpf mn mx ex fr)]) ∧
      Own w' base g' N cap' (xs ++ rpq mn mx p ex) ∧ Below base w w' := by
  unfold rpx rpf rpq
  cases hmx : (mx == 0)
  · cases mn with
    | zero =>
      refine (repeat_min0 base nb sb c b1 g n cap mx p ex fr xs w h6 h7 h9 hx hmx hnb hp hpl hown hn hbase).mono ?_
      rintro e w' ⟨g', cap', rfl, ho, hb⟩
      exact ⟨g', cap', n, rfl, by simpa using ho, hb⟩
    | succ k =>
      cases ex with
      | false =>
        refine (repeat_not base nb sb c b1 g n cap _ mx p fr xs w h6 h7 h9 hx hmx (by simp; omega) hnb hp hpl hown hn hbase).mono ?_
        rintro e w' ⟨g', cap', rfl, ho, hb⟩
        exact ⟨g', cap', _, rfl, ho, hb⟩
      | true =>
        refine (repeat_yes base nb sb c b1 g n cap k mx p fr xs w (by rw [h6]; simp) h7 h9 hx hmx (by omega) hnb hp hpl hown hn hbase).mono ?_
        rintro e w' ⟨g', cap', N, rfl, ho, hb⟩
        exact ⟨g', cap', N, by simp, ho, hb⟩
  · obtain rfl : mx = 0 := by simpa using hmx
    refine (repeat_max0 nb _ w h7).mono ?_
    rintro e w' ⟨rfl, rfl⟩
    exact ⟨g, cap, n, rfl, by simpa using hown, Below.refl _ _⟩

/-- A NODE AS IT STANDS IN W: in every later world that has turned none of W's blocks the prefixer does so. -/
def Node (W : World) (nb : Nat) (p : List Int) (ex fr : Bool) : Prop := nb < W.heap.size ∧ ∀ (base : Nat) (w : World), W.heap.size ≤ base → (∀ k, k < W.heap.size → w.heap[k]? = W.heap[k]?) → Pfx w base nb p ex fr

theorem cell_same {W w : World} (h : ∀ k, k < W.heap.size → w.heap[k]? = W.heap[k]?) {b o : Nat} {v : Value} (hv : W.cell? ⟨b, o, none⟩ = some v) : w.cell? ⟨b, o, none⟩ = some v :=
  (World.cell?_of_block (a := ⟨b, o, none⟩) (h b (World.block_lt_of_cell? W ⟨b, o, none⟩ hv))).trans hv

theorem Node.later {W w : World} {nb : Nat} {p : List Int} {ex fr : Bool} (h : Node W nb p ex fr) (hb : Below W.heap.size W w) : Node w nb p ex fr :=
  ⟨Nat.lt_of_lt_of_le h.1 hb.size, fun base w' h1 h2 => h.2 base w' (Nat.le_trans hb.size h1) fun k hk => (h2 k (Nat.lt_of_lt_of_le hk hb.size)).trans (hb.block k hk)⟩

theorem node_lit {W : World} {nb b m c : Nat} {rs : List Int} (h0 : W.cell? ⟨nb, 0, none⟩ = some (.int .u8 1)) (h1 : W.cell? ⟨nb, 1, none⟩ = some (.slice (some ⟨b, 0, none⟩) m c))
    (hrs : rs.length = m) (hmc : m ≤ c) (hm : m ≤ 2000) (hcell : ∀ j, j < m → W.cell? ⟨b, j, none⟩ = some (.int .i32 (rs.getD j 0))) : Node W nb (pre rs) (rs.all vr) (rs.all vr) :=
  ⟨World.block_lt_of_cell? W _ h0, fun base w _ h => prefix_lit base nb b 0 m c rs w (cell_same h h0) (cell_same h h1) hrs hmc hm (fun j hj => by rw [Nat.zero_add]; exact cell_same h (hcell j hj))⟩

theorem node_assert {W : World} {nb : Nat} (h0 : W.cell? ⟨nb, 0, none⟩ = some (.int .u8 3)) : Node W nb [] true false :=
  ⟨World.block_lt_of_cell? W _ h0, fun base w _ h => prefix_assert base nb w (cell_same h h0)⟩

theorem node_empty {W : World} {nb : Nat} (h0 : W.cell? ⟨nb, 0, none⟩ = some (.int .u8 0)) : Node W nb [] true true :=
  ⟨World.block_lt_of_cell? W _ h0, fun base w _ h => prefix_empty base nb w (cell_same h h0)⟩

theorem node_wide {W : World} {nb b c : Nat} (h0 : W.cell? ⟨nb, 0, none⟩ = some (.int .u8 2)) (h2 : W.cell? ⟨nb, 2, none⟩ = some (.slice (some ⟨b, 0, none⟩) 2 c))
    (hx : W.cell? ⟨b, 0, none⟩ = some (.int .i32 97)) (hy : W.cell? ⟨b, 1, none⟩ = some (.int .i32 99)) : Node W nb [] false false :=
  ⟨World.block_lt_of_cell? W _ h0, fun base w _ h => prefix_wide base nb b c w (cell_same h h0) (cell_same h h2) (cell_same h hx) (cell_same h hy)⟩

theorem node_one {W : World} {nb b c : Nat} {r : Int} (h0 : W.cell? ⟨nb, 0, none⟩ = some (.int .u8 2)) (h2 : W.cell? ⟨nb, 2, none⟩ = some (.slice (some ⟨b, 0, none⟩) 2 c))
    (hx : W.cell? ⟨b, 0, none⟩ = some (.int .i32 r)) (hy : W.cell? ⟨b, 1, none⟩ = some (.int .i32 r)) (hc2 : 2 ≤ c) : Node W nb (pre [r]) (vr r) (vr r) :=
  ⟨World.block_lt_of_cell? W _ h0, fun base w _ h => prefix_one base nb b c r w (cell_same h h0) (cell_same h h2) (cell_same h hx) (cell_same h hy) hc2⟩

theorem node_concat {W : World} {nb sb c b1 b2 : Nat} {p : List Int} {ex : Bool} (h0 : W.cell? ⟨nb, 0, none⟩ = some (.int .u8 6)) (h9 : W.cell? ⟨nb, 9, none⟩ = some (.slice (some ⟨sb, 0, none⟩) 2 c))
    (hx : W.cell? ⟨sb, 0, none⟩ = some (.pointer (some ⟨b1, 0, none⟩))) (hy : W.cell? ⟨sb, 1, none⟩ = some (.pointer (some ⟨b2, 0, none⟩))) (h2 : W.cell? ⟨b2, 0, none⟩ = some (.int .u8 3)) (hp : Node W b1 p ex ex) : Node W nb p ex false :=
  ⟨World.block_lt_of_cell? W _ h0, fun base w h1 h => prefix_concat base nb sb c b1 b2 p ex w (cell_same h h0) (cell_same h h9) (cell_same h hx) (cell_same h hy)
    (Nat.lt_of_lt_of_le (World.block_lt_of_cell? W _ hx) h1) (Nat.lt_of_lt_of_le (World.block_lt_of_cell? W _ h2) h1) (cell_same h h2) (hp.2 base w h1 h)⟩

theorem Own.stored {w : World} {base g n cap : Nat} {xs : List Int} (h : Own w base g n cap xs) (j : Nat) (u : Int) : Own (w.setCell ⟨g, j, none⟩ (.int .i32 u)) base g n cap (xs.set j u) :=
  ⟨by simpa using h.1, by have := (h.2.stored j (.int .i32 u)).1; rwa [← List.map_set] at this⟩

/-- A node in a block that has just been laid. -/
theorem cell_new (W : World) (cs : Array Value) (T : TypeId) (o : Nat) (b : Nat) (hb : b = W.heap.size) : (W.alloc (.cells cs T)).cell? ⟨b, o, none⟩ = cs[o]? := by
  subst hb
  rw [cell_of_row _ _ _ _ _ _ (heap_alloc_new W _)]

theorem cell_old (W : World) (o : Obj) (b i : Nat) (hb : b < W.heap.size) : (W.alloc o).cell? ⟨b, i, none⟩ = W.cell? ⟨b, i, none⟩ :=
  World.cell?_of_block (a := ⟨b, i, none⟩) (Below.heap_alloc W o b hb)

theorem Node.alloc {W : World} {nb : Nat} {p : List Int} {ex fr : Bool} (h : Node W nb p ex fr) (o : Obj) : Node (W.alloc o) nb p ex fr := h.later ((Below.refl _ _).alloc (Nat.le_refl _) o)

theorem node_concat_made {W : World} {b1 n : Nat} {p : List Int} {ex : Bool} (h : Node W b1 p ex ex) (hn : W.heap.size = n) {oa os oc : Array Value} {ta ts tc : TypeId} (ha : oa[0]? = some (.int .u8 3)) (hs0 : os[0]? = some (.pointer (some ⟨b1, 0, none⟩)))
    (hs1 : os[1]? = some (.pointer (some ⟨n, 0, none⟩))) (hc0 : oc[0]? = some (.int .u8 6)) (hc9 : oc[9]? = some (.slice (some ⟨n + 1, 0, none⟩) 2 2)) :
    Node (((W.alloc (.cells oa ta)).alloc (.cells os ts)).alloc (.cells oc tc)) (n + 1 + 1) p ex false := by
  subst hn
  have e1 : (W.alloc (.cells oa ta)).heap.size = W.heap.size + 1 := by simp
  have e2 : ((W.alloc (.cells oa ta)).alloc (.cells os ts)).heap.size = W.heap.size + 1 + 1 := by simp
  refine node_concat (sb := W.heap.size + 1) (c := 2) (b1 := b1) (b2 := W.heap.size) ?_ ?_ ?_ ?_ ?_ (((h.alloc _).alloc _).alloc _)
  · rw [cell_new _ _ _ _ _ e2.symm]; exact hc0
  · rw [cell_new _ _ _ _ _ e2.symm]; exact hc9
  · rw [cell_old _ _ _ _ (by omega), cell_new _ _ _ _ _ e1.symm]; exact hs0
  · rw [cell_old _ _ _ _ (by omega), cell_new _ _ _ _ _ e1.symm]; exact hs1
  · rw [cell_old _ _ _ _ (by omega), cell_old _ _ _ _ (by omega), cell_new _ _ _ _ _ rfl]; exact ha

/-- An owned row without spare room, whole. -/
theorem Own.row {w : World} {base g n : Nat} {xs : List Int} (h : Own w base g n n xs) : w.heap[g]? = some (.cells (xs.map (Value.int .i32)).toArray 21 (0, 0)) := by
  obtain ⟨h1, h2, h3⟩ := h
  rcases h3 with ⟨h3, _⟩ | ⟨g', cap', cur, hv, hb, hh, hn, hm, hs, ht⟩
  · simp at h3
  · simp only [Value.slice.injEq, Option.some.injEq, Addr.mk.injEq] at hv
    obtain ⟨⟨rfl, -, -⟩, -, rfl⟩ := hv
    rw [hh]
    have e : cur.toList = xs.map (Value.int .i32) := by rw [← ht, List.take_of_length_le (by simp [hs])]
    rw [← e]

theorem own_of_row {w : World} {base g n : Nat} {xs : List Int} (h : w.heap[g]? = some (.cells (xs.map (Value.int .i32)).toArray 21 (0, 0))) (hb : base ≤ g) (hn : xs.length = n) (hm : n ≤ maxLen) : Own w base g n n xs :=
  ⟨hn, by simp [hn], .inr ⟨g, n, _, rfl, hb, h, Nat.le_refl _, hm, by simp [hn], by show List.take (n * 1) _ = _; rw [List.take_of_length_le (by simp [hn])]⟩⟩

/-- What is owned stays owned while its block stays. -/
theorem Own.keep {w w' : World} {base g n cap : Nat} {xs : List Int} (h : Own w base g n cap xs) (hb : w'.heap[g]? = w.heap[g]?) : Own w' base g n cap xs := by
  obtain ⟨h1, h2, h3⟩ := h
  refine ⟨h1, h2, ?_⟩
  rcases h3 with ⟨h3, h4⟩ | ⟨g', cap', cur, hv, hbb, hh, r⟩
  · exact .inl ⟨h3, h4⟩
  · simp only [Value.slice.injEq, Option.some.injEq, Addr.mk.injEq] at hv
    obtain ⟨⟨rfl, -, -⟩, -, rfl⟩ := hv
    exact .inr ⟨g, cap, cur, rfl, hbb, hb.trans hh, r⟩

/-- How far the runes that are no surrogate reach. -/
theorem pre_reach {rs : List Int} {t m : Nat} (hm : rs.length = m) (hrt : ∀ j, j < m → vr (rs.getD j 0) = (rs.getD j 0 != 55296)) (ht : t ≤ m) (hv : ∀ j, j < t → (rs.getD j 0 != 55296) = true) (hend : t < m → (rs.getD t 0 != 55296) = false) :
    (pre rs).length = t ∧ pre rs = rs.take t ∧ (rs.all vr = decide (t = m)) := by
  by_cases h : t < m
  · obtain ⟨h1, h2⟩ := pre_stop (rs := rs) (k := t) (by omega) (fun j hj => by rw [hrt j (by omega)]; exact hv j hj) (by rw [hrt t h]; exact hend h)
    refine ⟨by rw [h1]; simp; omega, h1, ?_⟩
    rw [h2]
    exact (decide_eq_false (by omega)).symm
  · have he : t = m := by omega
    have ha : rs.all vr = true := all_of fun j hj => by rw [hrt j (by omega)]; exact hv j (by omega)
    refine ⟨by rw [pre_all ha]; omega, by rw [pre_all ha, List.take_of_length_le (by omega)], ?_⟩
    rw [ha]
    exact (decide_eq_true he).symm

theorem all_iff (rs : List Int) : rs.all vr = decide ((pre rs).length = rs.length) := by
  unfold pre
  induction rs with
  | nil => simp
  | cons r rs ih =>
    cases h : vr r
    · simp [h]
    · simp [h, ih]

theorem pre_take (rs : List Int) : pre rs = rs.take (pre rs).length := by
  unfold pre
  exact List.prefix_iff_eq_take.1 (List.takeWhile_prefix _)

theorem empty_iff (rs : List Int) (k : Nat) (h : rs.length = k) : rs.isEmpty = ((k : Int) == 0) := by
  subst h
  cases rs with
  | nil => rfl
  | cons r rs => simp; omega

/-! ### the table of LawS2496CLiteralRepeat -/
def tab (x : Int) : Int := if x % 5 = 0 then 97 else if x % 5 = 1 then 98 else if x % 5 = 2 then 99 else if x % 5 = 3 then 233 else 55296

theorem vr_tab (x : Int) : vr (tab x) = (tab x != 55296) := by
  unfold tab
  split
  · decide
  · split
    · decide
    · split
      · decide
      · split
        · decide
        · decide

/-- The row of runes behind k rounds. -/
def rowAt (zs : List Int) (m k : Nat) : List Int := (zs.take k).map tab ++ List.replicate (m - k) 0
theorem rowAt_len {zs : List Int} {m k : Nat} (h : m ≤ zs.length) (hk : k ≤ m) : (rowAt zs m k).length = m := by simp [rowAt]; omega
theorem rowAt_set {zs : List Int} {m k : Nat} (h : m ≤ zs.length) (hk : k < m) : (rowAt zs m k).set k (tab (zs.getD k 0)) = rowAt zs m (k + 1) := by
  apply List.ext_getElem?
  intro j
  unfold rowAt
  have e : zs.getD k 0 = zs[k] := by simp [List.getD, show k < zs.length by omega]
  rw [e, List.getElem?_set]
  by_cases hj : k = j
  · subst hj
    rw [if_pos rfl, if_pos (by simp; omega), List.getElem?_append_left (by simp; omega)]
    simp [show k < zs.length by omega]
  · rw [if_neg hj]
    by_cases hlt : j < k
    · rw [List.getElem?_append_left (by simp; omega), List.getElem?_append_left (by simp; omega)]
      simp [hlt, show j < k + 1 by omega]
    · rw [List.getElem?_append_right (by simp; omega), List.getElem?_append_right (by simp; omega)]
      simp only [List.length_map, List.length_take, List.getElem?_replicate]
      by_cases hm : j < m
      · rw [if_pos (by omega), if_pos (by omega)]
      · rw [if_neg (by omega), if_neg (by omega)]
theorem rowAt_full {zs : List Int} {m : Nat} : rowAt zs m m = (zs.take m).map tab := by simp [rowAt]
theorem rowAt_zero {zs : List Int} {m : Nat} : rowAt zs m 0 = List.replicate m 0 := by simp [rowAt]

end Go.Proofs.Ybulkayra
