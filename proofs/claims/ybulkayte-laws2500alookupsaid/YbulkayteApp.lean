/-
  AppendUvarint OF A NUMBER UP TO 1024.
-/
import Derived.Test.YbulkayteVar
import Derived.Maps.AppendAt
namespace Go.Proofs.Ybulkayte
open Go.RowKit

/-- A number's varint, of one byte or of two. -/
def uv (n : Nat) : List Int := if n < 128 then [(n : Int)] else [(n : Int) % 128 + 128, (n : Int) / 128]

theorem info5 : (Yba.prog.info? 5).map (fun i => (i.zero, i.size, i.bytes)) = some (some (.int .u8 0), 1, 1) := by kernel_rfl

theorem or_top (n : Nat) : bits .or .u8 ((n : Int) % 256) 128 = (n : Int) % 128 + 128 := by
  have h : ∀ k : Fin 256, bits .or .u8 (k.val : Int) 128 = (k.val : Int) % 128 + 128 := by decide +kernel
  have e : (n : Int) % 256 = ((n % 256 : Nat) : Int) := by omega
  rw [e]
  have := h ⟨n % 256, by omega⟩
  simp only at this
  rw [this]
  omega

theorem below_app {w w1 : World} {base N : Nat} {v : Value} {vs : List Value} (hown : w.ownsRow base 5 1 v N vs) (hb : base ≤ w.heap.size) (o : Obj) (hg : (w.alloc o).grownBy w1 v.ownBlock) : Below base w w1 ∧ base ≤ w1.heap.size := by
  have h1 : Below base w (w.alloc o) := ⟨rfl, rfl, rfl, (World.grownBy_alloc w o none).size, fun k hk => (World.grownBy_alloc w o none).block k (by omega) (by simp)⟩
  have hs : base ≤ (w.alloc o).heap.size := Nat.le_trans hb h1.size
  exact ⟨h1.grown hg hs (fun k hk => (hown.lt k hk).1), Nat.le_trans hs hg.size⟩

set_option maxHeartbeats 1000000 in
set_option maxRecDepth 100000 in
theorem appU {w : World} {base N : Nat} {v : Value} {xs : List Int} (hown : w.ownsRow base 5 1 v N (xs.map (Value.int .u8))) (hb : base ≤ w.heap.size) (n : Nat) (hn : n ≤ 1024) (hN : N ≤ 16777216) :
    Calls Yba.prog 5 #[v, .int .u64 n] w fun e w' => ∃ v', e = .returned v' ∧ v' ≠ .slice none 0 0 ∧ w'.ownsRow base 5 1 v' (N + (uv n).length) ((xs ++ uv n).map (Value.int .u8)) ∧ Below base w w' := by
  obtain ⟨i0, hi, hz0, hz1, hz2⟩ := info_parts info5
  by_cases hlt : n < 128
  · have hlt' : ¬ (128 : Int) ≤ (n : Int) := by omega
    go_enter Yba.func5, Yba.ntmps5
    go_wp2_with fail
    refine wp_loop_rounds 1 ?_
    rw [rounds_succ]
    go_wp2_with (at_builtin; refine wpList_append_own _ rfl (.tmp 15) (.tmp 18) 25 rfl base 5 i0 (.int .u8 0) 1 1 Yba.underlying25 hi hz0 hz1 hz2 rfl (by decide) _ _ _ rfl (hown.alloc _) ⟨w.heap.size, 0, none⟩ 1 1 [.int .u8 (n : Int)] rfl rfl (cell_one_new _ _ _) (by simp [Value.oneCell']) (by unfold maxLen; omega) (by omega) (by simp; omega) ?_)
    intro v' w1 hown' hgrow hnil
    go_wp2_with fail
    refine bodyPost_ret (results_tmp rfl _ _ _) rfl ⟨v', rfl, ?_, ?_, ?_⟩
    · exact hnil
    · simpa [uv, hlt] using hown'
    · exact (below_app hown hb _ hgrow).1
  · have hlt' : (128 : Int) ≤ (n : Int) := by omega
    have ho := or_top n
    go_enter Yba.func5, Yba.ntmps5
    go_wp2_with fail
    refine wp_loop_rounds 2 ?_
    rw [rounds_succ]
    go_wp2_with (at_builtin; refine wpList_append_own _ rfl (.tmp 7) (.tmp 11) 25 rfl base 5 i0 (.int .u8 0) 1 1 Yba.underlying25 hi hz0 hz1 hz2 rfl (by decide) _ _ _ rfl (hown.alloc _) ⟨w.heap.size, 0, none⟩ 1 1 [.int .u8 ((n : Int) % 128 + 128)] rfl rfl (cell_one_new _ _ _) (by simp [Value.oneCell']) (by unfold maxLen; omega) (by omega) (by simp; omega) ?_)
    intro v1 w1 hown1 hgrow1 hnil1
    obtain ⟨hb1, hs1⟩ := below_app hown hb _ hgrow1
    clear hgrow1
    go_wp2_with fail
    rw [rounds_succ]
    go_wp2_with (at_builtin; refine wpList_append_own _ rfl (.tmp 15) (.tmp 18) 25 rfl base 5 i0 (.int .u8 0) 1 1 Yba.underlying25 hi hz0 hz1 hz2 rfl (by decide) _ _ _ rfl (hown1.alloc _) ⟨w1.heap.size, 0, none⟩ 1 1 [.int .u8 ((n : Int) / 128)] rfl rfl (cell_one_new _ _ _) (by simp [Value.oneCell']) (by unfold maxLen; omega) (by omega) (by simp; omega) ?_)
    intro v2 w2 hown2 hgrow2 hnil2
    obtain ⟨hb2, hs2⟩ := below_app hown1 hs1 _ hgrow2
    clear hgrow2
    go_wp2_with fail
    refine bodyPost_ret (results_tmp rfl _ _ _) rfl ⟨v2, rfl, ?_, ?_, hb1.trans hb2⟩
    · exact hnil2
    · simpa [uv, hlt, Nat.add_assoc] using hown2
end Go.Proofs.Ybulkayte
