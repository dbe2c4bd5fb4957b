/-
  THE WALKS OF repeatPrefix.
-/
import Derived.Test.YbulkayraPrefix
namespace Go.Proofs.Ybulkayra
open Go.RowKit

theorem Own.take {w : World} {base g n cap : Nat} {xs : List Int} (h : Own w base g n cap xs) {k : Nat} (hk : k ≤ n) : Own w base g k cap (xs.take k) := by
  obtain ⟨h1, h2, h3⟩ := h
  refine ⟨by simp; omega, by simp; omega, ?_⟩
  rcases h3 with ⟨h3, _⟩ | ⟨g', cap', cur, hv, hb, hh, hn, hm, hs, ht⟩
  · simp at h3
  · simp only [Value.slice.injEq, Option.some.injEq, Addr.mk.injEq] at hv
    obtain ⟨⟨rfl, -, -⟩, -, rfl⟩ := hv
    refine .inr ⟨g, cap, cur, rfl, hb, hh, by omega, hm, hs, ?_⟩
    simp only [Nat.mul_one] at ht ⊢
    rw [List.map_take, ← ht, List.take_take, Nat.min_eq_left hk]

theorem Own.cell {w : World} {base g n cap : Nat} {xs : List Int} (h : Own w base g n cap xs) {j : Nat} (hj : j < n) : w.cell? ⟨g, j, none⟩ = some (.int .i32 (xs.getD j 0)) := by
  have hl := h.1
  have hc := h.2.cells (g := g) rfl j (.int .i32 (xs.getD j 0)) (by simp [List.getD, show j < xs.length by omega])
  simpa [Addr.add_lit] using hc

theorem Own.le {w : World} {base g n cap : Nat} {xs : List Int} (h : Own w base g n cap xs) : n ≤ cap := by
  rcases h.2.2 with ⟨h3, _⟩ | ⟨g', cap', cur, hv, hb, hh, hn, hm, hs, ht⟩
  · simp at h3
  · simp only [Value.slice.injEq] at hv
    obtain ⟨-, -, rfl⟩ := hv
    exact hn

set_option maxHeartbeats 400000 in
theorem repeat_max0 (nb : Nat) (v : Value) (w : World) (h7 : w.cell? ⟨nb, 7, none⟩ = some (.int .i64 0)) :
    Calls Yba.prog 7 #[.pointer (some ⟨nb, 0, none⟩), v] w fun e w' => e = .returned (.tuple #[v, .bool true, .bool true]) ∧ w = w' := by
  go_enter Yba.func7, Yba.ntmps7
  go_wp2_with fail
  go_ret3
  exact ⟨rfl, rfl⟩

theorem ret3 {a b c a' b' c' : Value} (h1 : a = a') (h2 : b = b') (h3 : c = c') : Ending.returned (.tuple #[a, b, c]) = .returned (.tuple #[a', b', c']) := by rw [h1, h2, h3]

theorem once_zero (n : Nat) (p : List Int) : (((n : Int) + (p.length : Int) - (n : Int) == 0) : Bool) = p.isEmpty := by
  cases p with
  | nil => simp
  | cons x p => simp; omega

theorem below_of_grown {w w' : World} {base g : Nat} (hb : base ≤ w.heap.size) (hg : base ≤ g) (h : w.grownBy w' (some g)) : Below base w w' :=
  ⟨h.os, h.tape, h.output, h.size, grown_below hb hg h⟩

set_option maxHeartbeats 400000 in
theorem repeat_min0 (base nb sb c b1 g n cap : Nat) (mx : Int) (p : List Int) (ex fr : Bool) (xs : List Int) (w : World) (h6 : w.cell? ⟨nb, 6, none⟩ = some (.int .i64 0)) (h7 : w.cell? ⟨nb, 7, none⟩ = some (.int .i64 mx))
    (h9 : w.cell? ⟨nb, 9, none⟩ = some (.slice (some ⟨sb, 0, none⟩) 1 c)) (hx : w.cell? ⟨sb, 0, none⟩ = some (.pointer (some ⟨b1, 0, none⟩))) (hmx : (mx == 0) = false) (hnb : nb < base)
    (hp : Pfx w base b1 p ex fr) (hpl : p.length ≤ 2000) (hown : Own w base g n cap xs) (hn : n ≤ 2000) (hbase : base ≤ w.heap.size) :
    Calls Yba.prog 7 #[.pointer (some ⟨nb, 0, none⟩), .slice (some ⟨g, 0, none⟩) n cap] w fun e w' => ∃ g' cap', e = .returned (.tuple #[.slice (some ⟨g', 0, none⟩) n cap', .bool (ex && p.isEmpty), .bool true]) ∧
      Own w' base g' n cap' xs ∧ Below base w w' := by
  have hlo := hown.lo
  cases hex : ex
  all_goals
    rw [hex] at hp
    go_enter Yba.func7, Yba.ntmps7
    go_wp2_with fail
    refine (hp g n cap xs hown (by omega) hbase).mono ?_
    rintro e w1 ⟨g1, cap1, rfl, ho, hg⟩
    have h61 : w1.cell? ⟨nb, 6, none⟩ = some (.int .i64 0) := (World.cell?_of_block (a := ⟨nb, 6, none⟩) (grown_below hbase hlo hg nb hnb)).trans h6
    have hle := ho.le
    go_wp2_with fail
    go_ret3
    refine ⟨g1, cap1, ret3 rfl (congrArg Value.bool ?_) rfl, ?_, below_of_grown hbase hlo hg⟩
    · first | rfl | (rw [Bool.true_and]; exact once_zero n p)
    · have := ho.take (k := n) (by omega)
      rwa [List.take_append_of_le_length (by rw [hown.1]; omega), List.take_of_length_le (by rw [hown.1]; omega)] at this

set_option maxHeartbeats 400000 in
theorem repeat_not (base nb sb c b1 g n cap : Nat) (mn mx : Int) (p : List Int) (fr : Bool) (xs : List Int) (w : World) (h6 : w.cell? ⟨nb, 6, none⟩ = some (.int .i64 mn)) (h7 : w.cell? ⟨nb, 7, none⟩ = some (.int .i64 mx))
    (h9 : w.cell? ⟨nb, 9, none⟩ = some (.slice (some ⟨sb, 0, none⟩) 1 c)) (hx : w.cell? ⟨sb, 0, none⟩ = some (.pointer (some ⟨b1, 0, none⟩))) (hmx : (mx == 0) = false) (hmn : (mn == 0) = false) (hnb : nb < base)
    (hp : Pfx w base b1 p false fr) (hpl : p.length ≤ 2000) (hown : Own w base g n cap xs) (hn : n ≤ 2000) (hbase : base ≤ w.heap.size) :
    Calls Yba.prog 7 #[.pointer (some ⟨nb, 0, none⟩), .slice (some ⟨g, 0, none⟩) n cap] w fun e w' => ∃ g' cap', e = .returned (.tuple #[.slice (some ⟨g', 0, none⟩) (n + p.length) cap', .bool false, .bool false]) ∧
      Own w' base g' (n + p.length) cap' (xs ++ p) ∧ Below base w w' := by
  have hlo := hown.lo
  go_enter Yba.func7, Yba.ntmps7
  go_wp2_with fail
  refine (hp g n cap xs hown (by omega) hbase).mono ?_
  rintro e w1 ⟨g1, cap1, rfl, ho, hg⟩
  have h61 : w1.cell? ⟨nb, 6, none⟩ = some (.int .i64 mn) := (World.cell?_of_block (a := ⟨nb, 6, none⟩) (grown_below hbase hlo hg nb hnb)).trans h6
  go_wp2_with fail
  go_ret3
  exact ⟨g1, cap1, rfl, ho, below_of_grown hbase hlo hg⟩

/-- p written k times. -/
def rep (p : List Int) : Nat → List Int
  | 0 => []
  | k + 1 => rep p k ++ p

theorem rep_front (p : List Int) (k : Nat) : rep p (k + 1) = p ++ rep p k := by
  induction k with
  | zero => simp [rep]
  | succ k ih =>
    show rep p (k + 1) ++ p = p ++ (rep p k ++ p)
    rw [ih, List.append_assoc]

theorem rep_nil (k : Nat) : rep [] k = [] := by
  induction k with
  | zero => rfl
  | succ k ih => simp [rep, ih]

/-- The cells of the first copy, as the append asks for them. -/
theorem rep_cells {w : World} {base g N cap n k : Nat} {xs p : List Int} (h : Own w base g N cap (xs ++ rep p (k + 1))) (hx : xs.length = n) :
    ∀ j u, (p.map (Value.int .i32))[j]? = some u → w.cell? ((⟨g, n, none⟩ : Addr).add j) = some u := by
  intro j u hu
  obtain ⟨hj, hju⟩ := List.getElem?_eq_some_iff.1 hu
  simp only [List.length_map] at hj
  have hl := h.1
  rw [rep_front] at hl h
  simp only [List.length_append] at hl
  rw [Addr.add_lit, h.cell (j := n + j) (by omega), ← hju]
  have e : (xs ++ (p ++ rep p k))[n + j]? = some p[j] := by
    rw [List.getElem?_append_right (by omega), show n + j - xs.length = j by omega, List.getElem?_append_left hj, List.getElem?_eq_getElem hj]
  simp [List.getD, e]

theorem own_append {w w' : World} {base g n cap m : Nat} {xs ys : List Int} {v : Value} (ho : Own w base g n cap xs) (hm : ys.length = m)
    (h : w'.ownsRow base 21 1 v (n + m) (xs.map (Value.int .i32) ++ ys.map (Value.int .i32))) (hg : w.grownBy w' (Value.slice (some ⟨g, 0, none⟩) n cap).ownBlock)
    (hv : ¬ v = .slice none 0 0) : ∃ g' cap', v = .slice (some ⟨g', 0, none⟩) (n + m) cap' ∧ Own w' base g' (n + m) cap' (xs ++ ys) ∧ w.grownBy w' (some g) :=
  own_grown ho.1 hm h hg hv

set_option maxHeartbeats 1000000 in
theorem repeat_yes (base nb sb c b1 g n cap : Nat) (mn : Nat) (mx : Int) (p : List Int) (fr : Bool) (xs : List Int) (w : World) (h6 : w.cell? ⟨nb, 6, none⟩ = some (.int .i64 ((mn : Int) + 1))) (h7 : w.cell? ⟨nb, 7, none⟩ = some (.int .i64 mx))
    (h9 : w.cell? ⟨nb, 9, none⟩ = some (.slice (some ⟨sb, 0, none⟩) 1 c)) (hx : w.cell? ⟨sb, 0, none⟩ = some (.pointer (some ⟨b1, 0, none⟩))) (hmx : (mx == 0) = false) (hmn : mn ≤ 4) (hnb : nb < base)
    (hp : Pfx w base b1 p true fr) (hpl : p.length ≤ 2000) (hown : Own w base g n cap xs) (hn : n ≤ 2000) (hbase : base ≤ w.heap.size) :
    Calls Yba.prog 7 #[.pointer (some ⟨nb, 0, none⟩), .slice (some ⟨g, 0, none⟩) n cap] w fun e w' => ∃ g' cap' N, e = .returned (.tuple #[.slice (some ⟨g', 0, none⟩) N cap', .bool (((mn : Int) + 1 == mx) || p.isEmpty), .bool fr]) ∧
      Own w' base g' N cap' (xs ++ rep p (mn + 1)) ∧ Below base w w' := by
  have hlo := hown.lo
  obtain ⟨i0, hi, hz0, hz1, hz2⟩ := info_parts Yba.info21
  have hm0 : ((mn : Int) + 1 == 0) = false := by simp; omega
  go_enter Yba.func7, Yba.ntmps7
  go_wp2_with fail
  refine (hp g n cap xs hown (by omega) hbase).mono ?_
  rintro e w1 ⟨g1, cap1, rfl, ho, hg⟩
  have h61 : w1.cell? ⟨nb, 6, none⟩ = some (.int .i64 ((mn : Int) + 1)) := (World.cell?_of_block (a := ⟨nb, 6, none⟩) (grown_below hbase hlo hg nb hnb)).trans h6
  have h71 : w1.cell? ⟨nb, 7, none⟩ = some (.int .i64 mx) := (World.cell?_of_block (a := ⟨nb, 7, none⟩) (grown_below hbase hlo hg nb hnb)).trans h7
  have hbel := below_of_grown hbase hlo hg
  have ho' : Own w1 base g1 (n + p.length) cap1 (xs ++ rep p 1) := ho
  have hxl : Hid (xs.length = n) := hown.1
  clear ho hg hown
  go_wp2_with fail
  go_loopw [1, 56] (fun v i wr => ∃ k N g2 cap2 : Nat, k ≤ mn ∧ i = .int .i64 k ∧ v = .slice (some ⟨g2, 0, none⟩) N cap2 ∧ Own wr base g2 N cap2 (xs ++ rep p (k + 1)) ∧ n + p.length ≤ N ∧ N ≤ 4000 + k * 2000 ∧ Below base w wr) (fun _ i _ => mn - (intOf i).toNat)
  case atStart => exact ⟨0, n + p.length, g1, cap1, Nat.zero_le _, rfl, rfl, ho', Nat.le_refl _, by omega, hbel⟩
  case round =>
    obtain ⟨k, N, g2, cap2, hk, rfl, rfl, ho2, hN1, hN2, hb2⟩ := hrel
    have hle := ho2.le
    by_cases hlt : k < mn
    · have hwb : base ≤ wr.heap.size := Nat.le_trans hbase hb2.size
      have hlo2 := ho2.lo
      have hxn : Hid (xs.length = n) := hxl
      by_cases hcn : cap2 = n
      · have hp0 : Hid (p = []) := List.eq_nil_of_length_eq_zero (by omega)
        have hl0 : p.length ≤ 0 := by omega
        subst hcn
        go_wp2_with (at_builtin; refine wpList_append_own _ rfl (.tmp 58) (.tmp 64) 27 rfl base 21 i0 (.int .i32 0) 1 4 Yba.underlying27 hi hz0 hz1 hz2 rfl (by decide) _ _ _ rfl ho2.2 ⟨g2, 0, none⟩ _ _ (p.map (Value.int .i32)) rfl ?c0 ?c1 ?c2 ?c3 ?c4 ?c5 ?_)
        case c0 => simp
        case c1 => rw [hp0.out]; simp
        case c2 => exact ints_oneCell _ _
        case c3 => unfold maxLen; omega
        case c4 => omega
        case c5 => exact hwb
        intro v' w2 hown' hgrow hnil
        obtain ⟨g3, cap3, hvv, ho3, hg3⟩ := own_append (ys := p) ho2 rfl (by simpa using hown') hgrow hnil
        have hb3 : Below base w w2 := hb2.trans (below_of_grown hwb hlo2 hg3)
        clear hown' hgrow hnil ho2 hb2 hg3
        rw [hvv]
        go_wp2
        go_roundw
        case rel => exact ⟨k + 1, N + p.length, g3, cap3, by omega, by go_num, rfl, by rw [List.append_assoc] at ho3; exact ho3, by omega, by omega, hb3⟩
        case measure => simp [intOf]; omega
      · go_wp2_with (at_builtin; refine wpList_append_own _ rfl (.tmp 58) (.tmp 64) 27 rfl base 21 i0 (.int .i32 0) 1 4 Yba.underlying27 hi hz0 hz1 hz2 rfl (by decide) _ _ _ rfl ho2.2 ⟨g2, n, none⟩ _ _ (p.map (Value.int .i32)) rfl ?e0 ?e1 ?e2 ?e3 ?e4 ?e5 ?_)
        case e0 => simp
        case e1 => exact rep_cells ho2 hxn.out
        case e2 => exact ints_oneCell _ _
        case e3 => unfold maxLen; omega
        case e4 => omega
        case e5 => exact hwb
        intro v' w2 hown' hgrow hnil
        obtain ⟨g3, cap3, hvv, ho3, hg3⟩ := own_append (ys := p) ho2 rfl (by simpa using hown') hgrow hnil
        have hb3 : Below base w w2 := hb2.trans (below_of_grown hwb hlo2 hg3)
        clear hown' hgrow hnil ho2 hb2 hg3
        rw [hvv]
        go_wp2
        go_roundw
        case rel => exact ⟨k + 1, N + p.length, g3, cap3, by omega, by go_num, rfl, by rw [List.append_assoc] at ho3; exact ho3, by omega, by omega, hb3⟩
        case measure => simp [intOf]; omega
    · obtain rfl : k = mn := by omega
      have h62 : wr.cell? ⟨nb, 6, none⟩ = some (.int .i64 ((k : Int) + 1)) := (hb2.cell (p := ⟨nb, 6, none⟩) hnb).trans h6
      have h72 : wr.cell? ⟨nb, 7, none⟩ = some (.int .i64 mx) := (hb2.cell (p := ⟨nb, 7, none⟩) hnb).trans h7
      cases hq : ((k : Int) + 1 == mx)
      all_goals
        go_wp2_with fail
        go_quiet (fail)
        go_wp2_with fail
        go_ret3
        refine ⟨g2, cap2, N, ret3 rfl (congrArg Value.bool ?_) rfl, ho2, ⟨hb2.os, hb2.tape, hb2.output, hb2.size, hb2.block⟩⟩
        first | (rw [hq, Bool.false_or]; exact once_zero n p) | (rw [hq]; rfl)

end Go.Proofs.Ybulkayra
