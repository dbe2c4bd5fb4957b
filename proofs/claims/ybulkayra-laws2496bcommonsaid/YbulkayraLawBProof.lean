/-
  THE PROOF OF Rows.LawS2496BCommonSaid: the row's frame round the walk of YbulkayraB3.
-/
import Derived.Test.YbulkayraB3
import Derived.WalkKit
import Derived.ProofKit
import Derived.OpenShut
import Derived.ShutString
import Derived.ChangeOld
import Derived.Below
import Derived.Deep.SlicePairs
namespace Go.Proofs.Ybulkayra.lawS2496BCommon
open Go.ChangeShapes Go.WideShapes Go.ChangeAt Go.RowKit
open Go.Proofs.Ybulkayra.lawB (IsRow Alts walk)
set_option linter.unusedVariables false

theorem own : ownKnob Yba.prog.godebug = none := by kernel_rfl
theorem laidOut : laidOutB Yba.prog = true := by kernel_rfl

section
variable {H : Type} {enc : TypeId × Value → H} {w : World} {base : Nat} {spare : Nat → Bool} {held : Bool}

/-- One slice of bytes, as the walk is told of it. -/
theorem bytes_row {fuel : Nat} {v : Value} {x : DataW H × List MemPlace} (h : DataW.trod enc Yba.prog w base spare held fuel 22 [v] = some x) (hsp : ∀ b, spare b = true) : ∃ a len cap zs, v = .slice a len cap ∧ IsRow .u8 w a len cap zs := by
  rcases open_ints Yba.underlying22 Yba.underlying5 (by kernel_rfl) h with ⟨hcs, _⟩ | ⟨a, l, c, zs, hcs, _, hl, hm, hz, _, hcell, hwz⟩
  · simp at hcs
    exact ⟨none, 0, 0, [], hcs, .inl ⟨rfl, rfl, rfl, rfl⟩⟩
  · simp at hcs
    rw [hsp] at hz
    exact ⟨some a, l, c, zs, hcs, .inr ⟨a, rfl, hl, hm, by simpa using hz, hcell, hwz⟩⟩
end

set_option maxRecDepth 100000 in
theorem lifted (os : Os) (started : os.Started) (H : Type) (enc : TypeId × Value → H) :
    ReturnsInHanded {} Yba.checked os 3 .any (Rows.lawS2496BCommonSpec.pre6 enc Yba.prog Yba.f3 Rows.lawS2496BCommonRow.domain false) (Rows.lawS2496BCommonSpec.post enc Yba.prog Yba.f3 false true false false) := by
  refine returnsInHanded_of_change (C := Yba.checked) own started (by kernel_rfl) Yba.func3
    (ChangeSpec.witness6 (enc := enc) (C := Yba.checked) false ⟨#[], #[.slice none 0 0, .slice none 0 0], []⟩ 8 (by kernel_rfl) (by kernel_rfl) (by kernel_rfl) (by kernel_rfl)) ?_
  intro W base args ds gs before hval0 hW hcnd _
  have hval : ∀ (j : Nat) t v, Yba.f3.params[j]? = some t → args[j]? = some v → Value.okWide Yba.prog W .any base t v := hval0
  have hW' := hW
  obtain ⟨p, q, hA0, hV, rfl, hfz, hnd⟩ := hW
  have hA : DataW.TrodAll enc Yba.prog W 0 (fun _ => true) true Yba.f3.params.toList args.toList ds p := hA0
  rw [Yba.params3] at hA hval
  obtain ⟨v0, vs0, d0, ds0, p0, q0, hargs, rfl, rfl, h0, r0⟩ := trodAll_cons hA
  obtain ⟨v1, vs1, d1, ds1, p1, q1, rfl, rfl, rfl, h1, r1⟩ := trodAll_cons r0
  obtain ⟨rfl, rfl, rfl⟩ := trodAll_nil r1
  obtain rfl : args = #[v0, v1] := by cases args; simp_all
  obtain ⟨rfl, rfl⟩ := trodVars_none hV
  obtain ⟨a0, len0, cap0, rfl⟩ := okWide_slice Yba.underlying22 (hval 0 22 v0 rfl rfl)
  have k0 := h0
  have lt0 : ∀ x ∈ p0, x.block < W.heap.size := by obtain ⟨m, hm⟩ := k0; exact DataW.trod_lt m _ _ _ hm
  obtain ⟨z0, w0⟩ : ∃ zs, IsRow .u8 W a0 len0 cap0 zs := by
    obtain ⟨fuel, hf⟩ := h0
    obtain ⟨a, l, c, zs, e, hr⟩ := bytes_row (by simpa [Value.cells] using hf) (fun _ => rfl)
    simp at e
    obtain ⟨rfl, rfl, rfl⟩ := e
    exact ⟨zs, hr⟩
  obtain ⟨a1, len1, cap1, rfl⟩ := okWide_slice Yba.underlying23 (hval 1 23 v1 rfl rfl)
  have k1 := h1
  have lt1 : ∀ x ∈ p1, x.block < W.heap.size := by obtain ⟨m, hm⟩ := k1; exact DataW.trod_lt m _ _ _ hm
  obtain ⟨kd, ao, ln, cp, zs, w1⟩ : ∃ kd ao ln cp zs, Alts W a1 len1 kd ao ln cp zs := by
    obtain ⟨fuel, hf⟩ := h1
    rcases Go.Deep.open_slice_pairs Yba.underlying23 Yba.underlying25 (by kernel_rfl) rfl rfl (by kernel_rfl) (by kernel_rfl) hf with ⟨hcs, _⟩ | ⟨a, l, c, m, n, V0, V1, D0, D1, P0, P1, hcs, _, hl, hm, hmm, _, hx⟩
    · simp [Value.cells] at hcs
      obtain ⟨rfl, rfl, rfl⟩ := hcs
      exact ⟨fun _ => 0, fun _ => none, fun _ => 0, fun _ => 0, fun _ => [], fun j hj => absurd hj (Nat.not_lt_zero _)⟩
    · simp [Value.cells] at hcs
      obtain ⟨rfl, rfl, rfl⟩ := hcs
      simp at hmm
      have each : ∀ i, i < len1 → ∃ y : Int × Option Addr × Nat × Nat × List Int, W.cell? (a.add (i * 2)) = some (.int .u8 y.1) ∧ W.cell? (a.add (i * 2 + 1)) = some (.slice y.2.1 y.2.2.1 y.2.2.2.1) ∧ 0 ≤ y.1 ∧ y.1 ≤ 255 ∧ IsRow .u8 W y.2.1 y.2.2.1 y.2.2.2.1 y.2.2.2.2 := by
        intro i hi
        obtain ⟨c0, c1, t0, t1⟩ := hx i (by omega)
        obtain ⟨x, e0, _, wx⟩ := DataW.trod_int Yba.underlying5 t0
        obtain ⟨aa, ll, cc, zz, e1, hr⟩ := bytes_row t1 (fun _ => rfl)
        simp at e0
        obtain ⟨b0, b1⟩ := bounds_u8 wx
        exact ⟨(x, aa, ll, cc, zz), by rw [c0, e0], by rw [c1, e1], b0, b1, hr⟩
      obtain ⟨f, hf2⟩ := Go.Deep.choose_lt each
      refine ⟨fun i => (f i).1, fun i => (f i).2.1, fun i => (f i).2.2.1, fun i => (f i).2.2.2.1, fun i => (f i).2.2.2.2, fun j hj => ?_⟩
      obtain ⟨b, off, sp⟩ := a
      obtain ⟨c0, c1, b0, b1, hr⟩ := hf2 j hj
      have hsp : sp = none := by
        have := World.cell?_spot (hf2 0 (by omega)).1
        simpa [Addr.add] using this
      subst hsp
      refine ⟨b, off, rfl, ?_, ?_, b0, b1, hr⟩
      · rw [← c0, Addr.add_lit]
      · rw [← c1, Addr.add_lit, Nat.add_assoc]
  clear hA0 hval0
  refine (walk a0 len0 cap0 z0 a1 len1 cap1 kd ao ln cp zs W w0 w1).mono fun e W' ⟨he, bel⟩ => ?_
  subst he
  exact ⟨_, rfl, _, _, _, [], _, [], hW', trodAll_mk1 (shut_bool Yba.underlying4 _), (trodAll_cons_mk (Below.trod laidOut (by kernel_rfl) (of_decide_eq_true (by kernel_rfl)) k0 bel lt0) (trodAll_cons_mk (Below.trod laidOut (by kernel_rfl) (of_decide_eq_true (by kernel_rfl)) k1 bel lt1) trodAll_mk0)), rfl, bel.frame _, fun h => by cases h⟩

theorem over : Rows.lawS2496BCommonRow.holds Yba.pinned (OpenSpec.ofChange Rows.lawS2496BCommonSpec) :=
  OpenClaim.holds_of_wide 3 Yba.f3 rfl rfl rfl rfl rfl rfl rfl ⟨rfl, rfl, rfl, rfl, rfl⟩ rfl rfl rfl rfl rfl (by kernel_rfl) Yba.func3 (by kernel_rfl)
    (of_decide_eq_true (by kernel_rfl)) (by unfold Func.isWrapper; first | (rw [if_pos (by decide +kernel)]; kernel_rfl) | (rw [if_neg (by decide +kernel)]; exact ⟨rfl, rfl⟩))
    (fun os started H enc _ => lifted os started H enc)

/-- THE STATEMENT -/
theorem proved : Rows.LawS2496BCommonSaid := over
#print axioms proved
end Go.Proofs.Ybulkayra.lawS2496BCommon
