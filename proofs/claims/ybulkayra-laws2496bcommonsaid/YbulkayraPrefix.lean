/-
  THE WALKS OF the prefixer, AT THE NODES THAT THE LAWS BUILD.
-/
import Derived.Test.YbulkayraSpell
import Derived.BigQuiet
import Derived.Deep.QuietTactic
namespace Go.Proofs.Ybulkayra
open Go.RowKit

/-- WHAT the prefixer DOES AT THE NODE IN BLOCK nb: it appends p to the text and says 'ex', 'fr'; it writes no block but the text's own. -/
def Pfx (w : World) (base nb : Nat) (p : List Int) (ex fr : Bool) : Prop :=
  ∀ (g n cap : Nat) (xs : List Int), Own w base g n cap xs → n ≤ 900000 → base ≤ w.heap.size →
    Calls Yba.prog 8 #[.pointer (some ⟨nb, 0, none⟩), .slice (some ⟨g, 0, none⟩) n cap] w fun e w' => ∃ g' cap', e = .returned (.tuple #[.slice (some ⟨g', 0, none⟩) (n + p.length) cap', .bool ex, .bool fr]) ∧
      Own w' base g' (n + p.length) cap' (xs ++ p) ∧ w.grownBy w' (some g)

set_option maxHeartbeats 400000 in
theorem prefix_lit (base : Nat) (nb b off m c : Nat) (rs : List Int) (w : World)
    (h0 : w.cell? ⟨nb, 0, none⟩ = some (.int .u8 1)) (h1 : w.cell? ⟨nb, 1, none⟩ = some (.slice (some ⟨b, off, none⟩) m c))
    (hrs : rs.length = m) (hmc : m ≤ c) (hm : m ≤ 2000)
    (hcell : ∀ j, j < m → w.cell? ⟨b, off + j, none⟩ = some (.int .i32 (rs.getD j 0))) : Pfx w base nb (pre rs) (rs.all vr) (rs.all vr) := by
  intro g n cap xs hown hn hbase
  have HC : Hid (∀ j, j < m → w.cell? ⟨b, off + j, none⟩ = some (.int .i32 (rs.getD j 0))) := hcell
  have HR : Hid (rs.length = m) := hrs
  clear hcell hrs
  go_enter Yba.func8, Yba.ntmps8
  go_wp2_with fail
  refine (spell_any base g n cap xs b off m c rs w hown HR.out hmc (by omega) hbase HC.out).mono ?_
  rintro e w' ⟨g', cap', rfl, ho, hg⟩
  go_wp2_with fail
  go_ret3
  exact ⟨g', cap', rfl, ho, hg⟩

set_option maxHeartbeats 400000 in
theorem prefix_empty (base nb : Nat) (w : World) (h0 : w.cell? ⟨nb, 0, none⟩ = some (.int .u8 0)) : Pfx w base nb [] true true := by
  intro g n cap xs hown hn hbase
  go_enter Yba.func8, Yba.ntmps8
  go_wp2_with fail
  go_ret3
  exact ⟨g, cap, rfl, by simpa using hown, World.grownBy.refl _ _⟩

set_option maxHeartbeats 400000 in
theorem prefix_assert_raw (nb : Nat) (v : Value) (w : World) (h0 : w.cell? ⟨nb, 0, none⟩ = some (.int .u8 3)) :
    Calls Yba.prog 8 #[.pointer (some ⟨nb, 0, none⟩), v] w fun e w' => e = .returned (.tuple #[v, .bool true, .bool false]) ∧ w = w' := by
  go_enter Yba.func8, Yba.ntmps8
  go_wp2_with fail
  go_ret3
  exact ⟨rfl, rfl⟩

theorem prefix_assert (base nb : Nat) (w : World) (h0 : w.cell? ⟨nb, 0, none⟩ = some (.int .u8 3)) : Pfx w base nb [] true false := by
  intro g n cap xs hown hn hbase
  refine (prefix_assert_raw nb _ w h0).mono ?_
  rintro e w' ⟨rfl, rfl⟩
  exact ⟨g, cap, rfl, by simpa using hown, World.grownBy.refl _ _⟩

theorem grown_drewN (w : World) (n : Nat) (row : Option Nat) : w.grownBy (w.drewN n) row := ⟨rfl, rfl, rfl, Nat.le_refl _, fun _ _ _ => rfl⟩

set_option maxHeartbeats 400000 in
theorem prefix_wide (base nb b c : Nat) (w : World) (h0 : w.cell? ⟨nb, 0, none⟩ = some (.int .u8 2)) (h2 : w.cell? ⟨nb, 2, none⟩ = some (.slice (some ⟨b, 0, none⟩) 2 c))
    (hx : w.cell? ⟨b, 0, none⟩ = some (.int .i32 97)) (hy : w.cell? ⟨b, 1, none⟩ = some (.int .i32 99)) : Pfx w base nb [] false false := by
  intro g n cap xs hown hn hbase
  go_enter Yba.func8, Yba.ntmps8
  go_wp2_with fail
  go_quiet (fail)
  go_wp2_with fail
  go_ret3
  exact ⟨g, cap, rfl, by rw [List.append_nil]; exact hown, grown_drewN _ _ _⟩

set_option maxHeartbeats 400000 in
theorem prefix_one (base nb b c : Nat) (r : Int) (w : World) (h0 : w.cell? ⟨nb, 0, none⟩ = some (.int .u8 2)) (h2 : w.cell? ⟨nb, 2, none⟩ = some (.slice (some ⟨b, 0, none⟩) 2 c))
    (hx : w.cell? ⟨b, 0, none⟩ = some (.int .i32 r)) (hy : w.cell? ⟨b, 1, none⟩ = some (.int .i32 r)) (hc2 : 2 ≤ c) : Pfx w base nb (pre [r]) (vr r) (vr r) := by
  intro g n cap xs hown hn hbase
  have hc1 : Hid (∀ j, j < 1 → w.cell? ⟨b, 0 + j, none⟩ = some (Value.int .i32 ([r].getD j 0))) := by
    intro j hj
    obtain rfl : j = 0 := by omega
    exact hx
  go_enter Yba.func8, Yba.ntmps8
  go_wp2_with fail
  go_quiet (fail)
  go_wp2_with fail
  refine (spell_any base g n cap xs b 0 1 c [r] (w.drewN nq) hown rfl (by omega) (by omega) hbase hc1.out).mono ?_
  rintro e w' ⟨g', cap', rfl, ho, hg⟩
  go_wp2_with fail
  go_ret3
  exact ⟨g', cap', rfl, ho, ⟨hg.os, hg.tape, hg.output, hg.size, hg.block⟩⟩

/-- What is known of a node holds in every later world that has not turned the blocks below 'base'. -/
def PfxB (W : World) (base nb : Nat) (p : List Int) (ex fr : Bool) : Prop := ∀ w : World, (∀ k, k < base → w.heap[k]? = W.heap[k]?) → Pfx w base nb p ex fr

theorem Own.lo {w : World} {base g n cap : Nat} {xs : List Int} (h : Own w base g n cap xs) : base ≤ g := (h.2.lt g rfl).1
theorem Own.hi {w : World} {base g n cap : Nat} {xs : List Int} (h : Own w base g n cap xs) : g < w.heap.size := (h.2.lt g rfl).2

theorem grown_below {w w' : World} {base g : Nat} (hb : base ≤ w.heap.size) (hg : base ≤ g) (h : w.grownBy w' (some g)) : ∀ k, k < base → w'.heap[k]? = w.heap[k]? :=
  fun k hk => h.block k (by omega) (by simp; omega)

theorem grown_trans {a b c : World} {base g g' : Nat} (hb : base ≤ a.heap.size) (hg : base ≤ g) (hg' : base ≤ g') (h : a.grownBy b (some g)) (h' : b.grownBy c (some g')) : Below base a c :=
  ⟨h'.os.trans h.os, h'.tape.trans h.tape, h'.output.trans h.output, Nat.le_trans h.size h'.size, fun k hk => (grown_below (by have := h.size; omega) hg' h' k hk).trans (grown_below hb hg h k hk)⟩

set_option maxHeartbeats 800000 in
/-- A concatenation of two nodes, the second an assertion. -/
theorem prefix_concat (base nb sb c b1 b2 : Nat) (p : List Int) (ex : Bool) (w : World) (h0 : w.cell? ⟨nb, 0, none⟩ = some (.int .u8 6)) (h9 : w.cell? ⟨nb, 9, none⟩ = some (.slice (some ⟨sb, 0, none⟩) 2 c))
    (hx : w.cell? ⟨sb, 0, none⟩ = some (.pointer (some ⟨b1, 0, none⟩))) (hy : w.cell? ⟨sb, 1, none⟩ = some (.pointer (some ⟨b2, 0, none⟩)))
    (hsb : sb < base) (hb2 : b2 < base) (h2 : w.cell? ⟨b2, 0, none⟩ = some (.int .u8 3)) (hp : Pfx w base b1 p ex ex) : Pfx w base nb p ex false := by
  intro g n cap xs hown hn hbase
  have hlo := hown.lo
  cases ex
  · go_enter Yba.func8, Yba.ntmps8
    go_wp2_with fail
    refine wp_loop_rounds 3 ?_
    rw [rounds_succ]
    go_wp2_with fail
    refine (hp g n cap xs hown hn hbase).mono ?_
    rintro e w1 ⟨g1, cap1, rfl, ho, hg⟩
    go_wp2_with fail
    go_ret3
    exact ⟨g1, cap1, rfl, ho, hg⟩
  · go_enter Yba.func8, Yba.ntmps8
    go_wp2_with fail
    refine wp_loop_rounds 3 ?_
    rw [rounds_succ]
    go_wp2_with fail
    refine (hp g n cap xs hown hn hbase).mono ?_
    rintro e w1 ⟨g1, cap1, rfl, ho, hg⟩
    have hbl := grown_below hbase hlo hg
    have hy1 : w1.cell? ⟨sb, 1, none⟩ = some (.pointer (some ⟨b2, 0, none⟩)) := (World.cell?_of_block (a := ⟨sb, 1, none⟩) (hbl sb hsb)).trans hy
    have h21 : w1.cell? ⟨b2, 0, none⟩ = some (.int .u8 3) := (World.cell?_of_block (a := ⟨b2, 0, none⟩) (hbl b2 hb2)).trans h2
    have hb1 : base ≤ w1.heap.size := Nat.le_trans hbase hg.size
    clear hbl
    go_wp2_with fail
    rw [rounds_succ]
    go_wp2_with fail
    refine (prefix_assert_raw b2 _ w1 h21).mono ?_
    rintro e w2 ⟨rfl, rfl⟩
    go_wp2_with fail
    rw [rounds_succ]
    go_wp2_with fail
    go_ret3
    exact ⟨g1, cap1, rfl, ho, hg⟩

end Go.Proofs.Ybulkayra
