/-
  THE VARINTS OF ONE AND OF TWO BYTES.
-/
import Derived.Test.YbulkaytePlain
import Derived.LoopN
namespace Go.Proofs.Ybulkayte
open Go.RowKit

theorem or_zero (x : Int) (h0 : 0 ≤ x) (h1 : x < 128) : bits .or .u64 0 x = x := by
  have h : ∀ k : Fin 128, bits .or .u64 0 (k.val : Int) = (k.val : Int) := by decide +kernel
  have := h ⟨x.toNat, by omega⟩
  simpa [Int.toNat_of_nonneg h0] using this
theorem and_low (x : Int) (h0 : 128 ≤ x) (h1 : x ≤ 255) : bits .and .u8 x 127 = x - 128 := by
  have h : ∀ k : Fin 128, bits .and .u8 ((k.val : Int) + 128) 127 = (k.val : Int) := by decide +kernel
  have := h ⟨(x - 128).toNat, by omega⟩
  have e : (((x - 128).toNat : Nat) : Int) = x - 128 := by omega
  simp only [e] at this
  rwa [show x - 128 + 128 = x by omega] at this
theorem or_high (x y : Int) (h0 : 0 ≤ x) (h1 : x < 128) (h2 : 0 ≤ y) (h3 : y < 16) : bits .or .u64 x (y * 128) = x + 128 * y := by
  have h : ∀ (k : Fin 128) (j : Fin 16), bits .or .u64 (k.val : Int) ((j.val : Int) * 128) = (k.val : Int) + 128 * (j.val : Int) := by decide +kernel
  have := h ⟨x.toNat, by omega⟩ ⟨y.toNat, by omega⟩
  simpa [Int.toNat_of_nonneg h0, Int.toNat_of_nonneg h2] using this

theorem uvar_one {w : World} {g off l cap : Nat} {x : Int} (hl : 1 ≤ l) (hc : w.cell? ⟨g, off, none⟩ = some (.int .u8 x)) (h0 : 0 ≤ x) (h1 : x < 128) :
    Calls Yba.prog 28 #[.slice (some ⟨g, off, none⟩) l cap] w fun e w' => e = .returned (.tuple #[.int .u64 x, .int .i64 1]) ∧ w' = w := by
  have hil : (0 : Int) < (l : Int) := by omega
  have ho := or_zero x h0 h1
  go_enter Yba.func28, Yba.ntmps28
  go_wp2_with fail
  refine wp_loop_rounds 1 ?_
  rw [rounds_succ]
  go_wp2_with fail
  exact bodyPost_ret (results_tmp2 rfl _ _ _) rfl ⟨rfl, rfl⟩

theorem uvar_two {w : World} {g off l cap : Nat} {x y : Int} (hl : 2 ≤ l) (hc : w.cell? ⟨g, off, none⟩ = some (.int .u8 x)) (h0 : 128 ≤ x) (h1 : x ≤ 255) (hd : w.cell? ⟨g, off + 1, none⟩ = some (.int .u8 y)) (h2 : 0 ≤ y) (h3 : y < 16) :
    Calls Yba.prog 28 #[.slice (some ⟨g, off, none⟩) l cap] w fun e w' => e = .returned (.tuple #[.int .u64 (x - 128 + 128 * y), .int .i64 2]) ∧ w' = w := by
  have hil : (1 : Int) < (l : Int) := by omega
  have hi0 : (0 : Int) < (l : Int) := by omega
  have hand := and_low x h0 h1
  have hw : IntKind.u64.wrap (x - 128) = x - 128 := by rw [IntKind.wrap_u64]; omega
  have ho := or_zero (x - 128) (by omega) (by omega)
  have hh := or_high (x - 128) y (by omega) (by omega) h2 h3
  go_enter Yba.func28, Yba.ntmps28
  go_wp2_with fail
  refine wp_loop_rounds 2 ?_
  rw [rounds_succ]
  go_wp2_with fail
  rw [rounds_succ]
  go_wp2_with fail
  exact bodyPost_ret (results_tmp2 rfl _ _ _) rfl ⟨rfl, rfl⟩
end Go.Proofs.Ybulkayte
