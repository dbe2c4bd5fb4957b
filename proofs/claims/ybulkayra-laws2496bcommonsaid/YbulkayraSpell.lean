/-
  THE WALKS OF utf8.ValidRune AND OF spell.
-/
import Derived.Test.YbulkayraRows
import Derived.Test.YbulkayraPlain
import Derived.WalkKit
import Derived.WalkSpells
import Derived.WalkLawsBesides
namespace Go.Proofs.Ybulkayra
open Go.RowKit

theorem Yba.info21 : (Yba.prog.info? 21).map (fun i => (i.zero, i.size, i.bytes)) = some (some (.int .i32 0), 1, 4) := by kernel_rfl

set_option maxHeartbeats 400000 in
theorem valid_any (r : Int) (w : World) :
    Calls Yba.prog 10 #[.int .i32 r] w fun e w' => e = .returned (.bool (vr r)) ∧ w' = w := by
  by_cases h1 : 0 ≤ r
  · by_cases h2 : r < 55296
    · go_enter Yba.func10, Yba.ntmps10
      go_wp2
      go_ret
      exact ⟨by simp [vr, h1, h2], rfl⟩
    · by_cases h3 : 57343 < r
      · by_cases h4 : r ≤ 1114111
        · go_enter Yba.func10, Yba.ntmps10
          go_wp2
          go_ret
          exact ⟨by simp [vr, h3, h4], rfl⟩
        · go_enter Yba.func10, Yba.ntmps10
          go_wp2
          go_ret
          exact ⟨by simp [vr]; omega, rfl⟩
      · go_enter Yba.func10, Yba.ntmps10
        go_wp2
        go_ret
        exact ⟨by simp [vr]; omega, rfl⟩
  · go_enter Yba.func10, Yba.ntmps10
    go_wp2
    all_goals go_ret
    all_goals exact ⟨by simp [vr]; omega, rfl⟩

/-- The first k cells of a slice of numbers, as an append asks for them. -/
theorem cells_take {w : World} {b off m : Nat} {q : IntKind} {rs : List Int} (hrs : rs.length = m) (hcell : ∀ j, j < m → w.cell? ⟨b, off + j, none⟩ = some (.int q (rs.getD j 0))) (k : Nat) :
    ∀ j u, ((rs.take k).map (Value.int q))[j]? = some u → w.cell? ((⟨b, off, none⟩ : Addr).add j) = some u := by
  intro j u hu
  obtain ⟨hj, hju⟩ := List.getElem?_eq_some_iff.1 hu
  simp only [List.length_map, List.length_take] at hj
  rw [Addr.add_lit, hcell j (by omega)]
  simp only [List.getElem_map, List.getElem_take] at hju
  rw [← hju]
  simp [List.getD, show j < rs.length by omega]

theorem cells_all {w : World} {b off m : Nat} {q : IntKind} {rs : List Int} (hrs : rs.length = m) (hcell : ∀ j, j < m → w.cell? ⟨b, off + j, none⟩ = some (.int q (rs.getD j 0))) :
    ∀ j u, (rs.map (Value.int q))[j]? = some u → w.cell? ((⟨b, off, none⟩ : Addr).add j) = some u := by
  have := cells_take hrs hcell m
  rw [List.take_of_length_le (by omega)] at this
  exact this

/-- A SLICE OF RUNES OF THE CALL's OWN, NOT NIL: block g from its head on, n elements, the numbers xs; g is a block from 'base' on. -/
def Own (w : World) (base g n cap : Nat) (xs : List Int) : Prop := xs.length = n ∧ w.ownsRow base 21 1 (.slice (some ⟨g, 0, none⟩) n cap) n (xs.map (Value.int .i32))

theorem own_form {w : World} {base e size n : Nat} {v : Value} {xs : List Value} (h : w.ownsRow base e size v n xs) (hv : v ≠ .slice none 0 0) : ∃ g cap, v = .slice (some ⟨g, 0, none⟩) n cap := by
  rcases h.2 with ⟨h, _⟩ | ⟨g, cap, _, h, _⟩
  · exact absurd h hv
  · exact ⟨g, cap, h⟩

/-- What an append leaves of an owned slice that is not nil. -/
theorem own_grown {w w' : World} {base g n cap m : Nat} {xs ys : List Int} {v : Value} (hn : xs.length = n) (hm : ys.length = m)
    (h : w'.ownsRow base 21 1 v (n + m) (xs.map (Value.int .i32) ++ ys.map (Value.int .i32))) (hg : w.grownBy w' (Value.slice (some ⟨g, 0, none⟩) n cap).ownBlock)
    (hv : ¬ v = .slice none 0 0) : ∃ g' cap', v = .slice (some ⟨g', 0, none⟩) (n + m) cap' ∧ Own w' base g' (n + m) cap' (xs ++ ys) ∧ w.grownBy w' (some g) := by
  obtain ⟨g', cap', rfl⟩ := own_form h hv
  exact ⟨g', cap', rfl, ⟨by simp [hn, hm], by simpa using h⟩, hg⟩

set_option maxHeartbeats 400000 in
theorem spell_any (base g n cap : Nat) (xs : List Int) (b off m c : Nat) (rs : List Int) (w : World)
    (hown : Own w base g n cap xs) (hrs : rs.length = m) (hmc : m ≤ c) (hm : n + m ≤ 1000000) (hbase : base ≤ w.heap.size)
    (hcell : ∀ j, j < m → w.cell? ⟨b, off + j, none⟩ = some (.int .i32 (rs.getD j 0))) :
    Calls Yba.prog 9 #[.slice (some ⟨g, 0, none⟩) n cap, .slice (some ⟨b, off, none⟩) m c] w fun e w' => ∃ g' cap', e = .returned (.tuple #[.slice (some ⟨g', 0, none⟩) (n + (pre rs).length) cap', .bool (rs.all vr), .bool (rs.all vr)]) ∧
      Own w' base g' (n + (pre rs).length) cap' (xs ++ pre rs) ∧ w.grownBy w' (some g) := by
  obtain ⟨i0, hi, hz0, hz1, hz2⟩ := info_parts Yba.info21
  obtain ⟨hxn', hown⟩ := hown
  have hxn : Hid (xs.length = n) := hxn'
  clear hxn'
  go_enter Yba.func9, Yba.ntmps9
  go_wp2
  go_loop [11] (fun i => ∃ k : Nat, k ≤ m ∧ i = .int .i64 k ∧ ∀ j, j < k → vr (rs.getD j 0) = true) (fun i => m - (intOf i).toNat)
  case atStart => exact ⟨0, Nat.zero_le _, rfl, fun j hj => by omega⟩
  case round =>
    obtain ⟨k, hk, rfl, hv⟩ := hrel
    have HV : Hid (∀ j, j < k → vr (rs.getD j 0) = true) := hv
    clear hv
    by_cases hlt : k < m
    · have hc := hcell k hlt
      cases hvk : vr (rs.getD k 0)
      · have hvk' : vr rs[k] = false := by simpa [List.getD, hrs, hlt] using hvk
        have hst : Hid (pre rs = rs.take k ∧ rs.all vr = false) := pre_stop (rs := rs) (by omega) HV.out hvk
        have A0 : Hid (((rs.take k).map (Value.int .i32)).length = k * 1) := by show _ = _; simp; omega
        have A1 : Hid (∀ j u, ((rs.take k).map (Value.int .i32))[j]? = some u → w.cell? ((⟨b, off, none⟩ : Addr).add j) = some u) := cells_take hrs hcell k
        have A3 : Hid (n + k ≤ maxLen) := by show _ ≤ _; unfold maxLen; omega
        have A4 : Hid ((n + k) * 4 ≤ 140737488355328) := by show _ ≤ _; omega
        go_wp2_with (first | (go_at_call 10; refine (valid_any _ _).mono ?_; rintro e w' ⟨rfl, rfl⟩) | (at_builtin; refine wpList_append_own _ rfl (.tmp 19) (.tmp 22) 27 rfl base 21 i0 (.int .i32 0) 1 4 Yba.underlying27 hi hz0 hz1 hz2 rfl (by decide) _ _ _ rfl hown ⟨b, off, none⟩ k c ((rs.take k).map (Value.int .i32)) rfl A0.out A1.out (ints_oneCell _ _) A3.out A4.out hbase ?_))
        intro v' w1 hown' hgrow hnil
        obtain ⟨g', cap', hvv, ho, hg⟩ := own_grown (m := k) (ys := rs.take k) hxn.out (by simp; omega) (by simpa using hown') hgrow hnil
        clear hown' hgrow hnil hown
        rw [hvv]
        go_wp2
        go_ret3
        have hl : (pre rs).length = k := by rw [hst.out.1]; simp; omega
        rw [hl, hst.out.1, hst.out.2]
        exact ⟨g', cap', rfl, ho, hg⟩
      · have hvk' : vr rs[k] = true := by simpa [List.getD, hrs, hlt] using hvk
        go_wp2_with (first | (go_at_call 10; refine (valid_any _ _).mono ?_; rintro e w' ⟨rfl, rfl⟩))
        go_round
        case rel => exact ⟨k + 1, by omega, by go_num, fun j hj => by rcases Nat.lt_succ_iff_lt_or_eq.1 hj with h | rfl; exact HV.out j h; exact hvk⟩
        case measure => simp [intOf]; omega
    · have hal : Hid (rs.all vr = true) := all_of fun j hj => HV.out j (by omega)
      have A0 : Hid ((rs.map (Value.int .i32)).length = m * 1) := by show _ = _; simp; omega
      have A1 : Hid (∀ j u, (rs.map (Value.int .i32))[j]? = some u → w.cell? ((⟨b, off, none⟩ : Addr).add j) = some u) := cells_all hrs hcell
      have A3 : Hid (n + m ≤ maxLen) := by show _ ≤ _; unfold maxLen; omega
      have A4 : Hid ((n + m) * 4 ≤ 140737488355328) := by show _ ≤ _; omega
      go_wp2_with (first | (at_builtin; refine wpList_append_own _ rfl (.tmp 25) (.tmp 26) 27 rfl base 21 i0 (.int .i32 0) 1 4 Yba.underlying27 hi hz0 hz1 hz2 rfl (by decide) _ _ _ rfl hown ⟨b, off, none⟩ m c (rs.map (Value.int .i32)) rfl A0.out A1.out (ints_oneCell _ _) A3.out A4.out hbase ?_))
      intro v' w1 hown' hgrow hnil
      obtain ⟨g', cap', hvv, ho, hg⟩ := own_grown (ys := rs) hxn.out hrs hown' hgrow hnil
      clear hown' hgrow hnil hown
      rw [hvv]
      go_wp2
      go_ret3
      rw [pre_all hal.out, hal.out, hrs]
      exact ⟨g', cap', rfl, ho, hg⟩

end Go.Proofs.Ybulkayra
