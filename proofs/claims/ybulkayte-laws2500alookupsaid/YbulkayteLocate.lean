/-
  locate: THE PLACE OF A HASH.
-/
import Derived.Test.YbulkayteSearch
import Derived.Deep.Heap
namespace Go.Proofs.Ybulkayte
open Go.RowKit

/-- locate's three cells: h, the slice, lo. B: the heap's size when the call began. -/
structure LW (w wr : World) (B g n cap lo : Nat) (h : Int) : Prop where
  bel : Below B w wr
  h3 : wr.heap[B]? = some (.cells #[.int .u32 h] 24 (0, 0))
  h5 : wr.heap[B + 1]? = some (.cells #[.slice (some ⟨g, 0, none⟩) n cap] 23 (0, 0))
  h6 : wr.heap[B + 2]? = some (.cells #[.int .i64 lo] 3 (0, 0))

section
variable {w wr : World} {B g n cap lo : Nat} {h : Int}
theorem LW.c3 (H : LW w wr B g n cap lo h) : wr.cell? ⟨B, 0, none⟩ = some (.int .u32 h) := by rw [cell_of_row _ _ _ _ _ _ H.h3]; rfl
theorem LW.c5 (H : LW w wr B g n cap lo h) : wr.cell? ⟨B + 1, 0, none⟩ = some (.slice (some ⟨g, 0, none⟩) n cap) := by rw [cell_of_row _ _ _ _ _ _ H.h5]; rfl
theorem LW.c6 (H : LW w wr B g n cap lo h) : wr.cell? ⟨B + 2, 0, none⟩ = some (.int .i64 lo) := by rw [cell_of_row _ _ _ _ _ _ H.h6]; rfl
theorem LW.f6 (H : LW w wr B g n cap lo h) : wr.frozen? ⟨B + 2, 0, none⟩ = false := frozen_of_row _ _ _ _ _ H.h6
theorem LW.drew (H : LW w wr B g n cap lo h) (nd : Nat) : LW w (wr.drewN nd) B g n cap lo h := ⟨below_drewN H.bel, H.h3, H.h5, H.h6⟩
theorem LW.store (H : LW w wr B g n cap lo h) (lo' : Nat) : LW w (wr.setCell ⟨B + 2, 0, none⟩ (.int .i64 lo')) B g n cap lo' h := by
  refine ⟨⟨H.bel.os, H.bel.tape, H.bel.output, by rw [Go.Deep.nblk_setCell]; exact H.bel.size, fun k hk => by rw [Go.Deep.blk_setCell_other _ _ _ _ (by simp; omega)]; exact H.bel.block k hk⟩, ?_, ?_, ?_⟩
  · rw [Go.Deep.blk_setCell_other _ _ _ _ (by simp), H.h3]
  · rw [Go.Deep.blk_setCell_other _ _ _ _ (by simp), H.h5]
  · rw [Go.heap_setCell_same wr (B + 2) 0 _ 3 _ H.h6]; rfl
theorem LW.loc {hs : List Int} (H : LW w wr B g n cap lo h) (hg : g < B) (hrow : ∀ j, j < n → w.cell? ⟨g, j, none⟩ = some (.int .u32 (hs.getD j 0))) : Loc wr (B + 1) (B + 2) B g n cap lo h hs :=
  ⟨H.c5, H.c6, H.c3, fun j hj => (H.bel.cell (p := ⟨g, j, none⟩) hg).trans (hrow j hj)⟩
theorem LW.at {hs : List Int} (H : LW w wr B g n cap lo h) (hg : g < B) (hrow : ∀ j, j < n → w.cell? ⟨g, j, none⟩ = some (.int .u32 (hs.getD j 0))) {j : Nat} (hj : j < n) : wr.cell? ⟨g, j, none⟩ = some (.int .u32 (hs.getD j 0)) :=
  (H.bel.cell (p := ⟨g, j, none⟩) hg).trans (hrow j hj)
end

theorem at_lt {h : Int} {n : Nat} (hh : 0 ≤ h ∧ h ≤ 4294967295) (hn : 0 < n) : (h.toNat * n) / 4294967296 < n := by
  rw [Nat.div_lt_iff_lt_mul (by decide)]
  have : h.toNat ≤ 4294967295 := by omega
  have := Nat.mul_le_mul_right n this
  omega

theorem at_eq {h : Int} {n : Nat} (hh : 0 ≤ h ∧ h ≤ 4294967295) (hn : n ≤ 1024) : ∃ A : Nat, wrap64 (IntKind.u64.wrap (h * (n : Int)) / 4294967296) = (A : Int) ∧ A ≤ n ∧ (0 < n → A < n) := by
  refine ⟨(h.toNat * n) / 4294967296, ?_, ?_, at_lt hh⟩
  · have e : h * (n : Int) = ((h.toNat * n : Nat) : Int) := by rw [Int.natCast_mul, Int.toNat_of_nonneg hh.1]
    have h1 : h.toNat * n ≤ 4294967295 * 1024 := Nat.mul_le_mul (by omega) hn
    rw [e, IntKind.wrap_u64, Int.emod_eq_of_lt (by omega) (by omega), IntWalk.wrap64_in _ (by omega)]
    omega
  · rcases Nat.eq_zero_or_pos n with rfl | h0
    · simp
    · exact Nat.le_of_lt (at_lt hh h0)

/-- What the two gallops leave. -/
def Span (hs : List Int) (h : Int) (lo hi : Nat) : Prop := (∀ i, i < lo → hs.getD i 0 < h) ∧ ∀ i, hi ≤ i → i < hs.length → h ≤ hs.getD i 0

theorem three (w : World) (o0 o1 o2 : Obj) : (((w.alloc o0).alloc o1).alloc o2).heap[w.heap.size]? = some o0 ∧ (((w.alloc o0).alloc o1).alloc o2).heap[w.heap.size + 1]? = some o1 ∧ (((w.alloc o0).alloc o1).alloc o2).heap[w.heap.size + 2]? = some o2 ∧ Below w.heap.size w (((w.alloc o0).alloc o1).alloc o2) := by
  refine ⟨?_, ?_, ?_, ⟨rfl, rfl, rfl, ?_, fun k hk => ?_⟩⟩ <;> simp only [World.alloc, Array.getElem?_push, Array.size_push]
  · rw [if_neg (by omega), if_neg (by omega), if_pos trivial]
  · rw [if_neg (by omega), if_pos trivial]
  · rw [if_pos trivial]
  · omega
  · rw [if_neg (by omega), if_neg (by omega), if_neg (by omega)]

set_option maxHeartbeats 1000000 in
set_option maxRecDepth 100000 in
/-- locate: h's place. -/
theorem locate {w : World} {nb g n cap : Nat} {h : Int} {hs : List Int} (hnb : w.cell? ⟨nb, 3, none⟩ = some (.slice (some ⟨g, 0, none⟩) n cap)) (hrow : ∀ j, j < n → w.cell? ⟨g, j, none⟩ = some (.int .u32 (hs.getD j 0)))
    (hg : g < w.heap.size) (hnlt : nb < w.heap.size) (hh : 0 ≤ h ∧ h ≤ 4294967295) (hn : n ≤ 1024) (hl : hs.length = n) (hr : Rises hs) :
    Calls Yba.prog 14 #[ptr nb, .int .u32 h] w fun e w' => ∃ p : Nat, e = .returned (.int .i64 p) ∧ Place hs h p ∧ Below w.heap.size w w' := by
  have HL := hide hrow
  have HR := hide hr
  have hl' := hide hl
  clear hrow hr hl
  go_enter Yba.func14, Yba.ntmps14
  go_upto_region 2 with fail
  go_cut [6, 7] (fun s t wc => s = ptr (w.heap.size + 2) ∧ t = .int .i64 n ∧ LW w wc w.heap.size g n cap 0 h)
  case first =>
    go_region
    go_wp2_with fail
    go_meet
    obtain ⟨t1, t2, t3, t4⟩ := three w (.cells #[.int .u32 h] 24) (.cells #[.slice (some ⟨g, 0, none⟩) n cap] 23) (.cells #[.int .i64 0] 3)
    exact ⟨rfl, rfl, t4.drew, t1, t2, t3⟩
  case rest =>
    obtain ⟨rfl, rfl, L⟩ := hcut
    have c3 := L.c3
    have c5 := L.c5
    obtain ⟨A, hA, hAn, hAlt⟩ := at_eq hh hn
    go_upto_region 4 with fail
    simp only [hA]
    clear hA
    go_cut [38] (fun s wd => ∃ bb : Bool, s = .bool bb ∧ (bb = true → A < n ∧ hs.getD A 0 < h) ∧ (bb = false → A < n → h ≤ hs.getD A 0) ∧ LW w wd w.heap.size g n cap 0 h)
    case first =>
      by_cases hAn' : A < n
      · have hd : decide ((A : Int) < (n : Int)) = true := by simp; omega
        have ca := L.at hg HL.out hAn'
        have hi1 : (A : Int) < (n : Int) := by omega
        have hi0 : (0 : Int) ≤ (A : Int) := by omega
        obtain ⟨x, hx⟩ : ∃ x, x = hs.getD A 0 := ⟨_, rfl⟩
        rw [← hx] at ca
        have HX := hide hx
        clear hx
        go_quiet (fail)
        go_wp2_with fail
        go_meet
        refine ⟨decide (x < h), rfl, fun hb => ⟨hAn', by rw [← HX.out]; simpa using hb⟩, fun hb _ => by rw [← HX.out]; simpa using hb, L.drew nq⟩
      · have hd : decide ((A : Int) < (n : Int)) = false := by simp; omega
        go_quiet (fail)
        go_wp2_with fail
        go_meet
        refine ⟨false, rfl, fun hb => (by cases hb), fun _ hb => absurd hb hAn', L.drew nq⟩
    case rest =>
      obtain ⟨bb, rfl, ht, hf, L⟩ := hcut
      clear c3 c5
      have hlen := hl'.out
      go_upto_if 38 with fail
      go_cut [7] (fun s wd => ∃ lo hi : Nat, lo ≤ hi ∧ hi ≤ n ∧ s = .int .i64 hi ∧ Hid (Span hs h lo hi) ∧ LW w wd w.heap.size g n cap lo h)
      case first =>
        cases bb
        · have HF := hide (hf rfl)
          clear ht hf
          go_wp2_with fail
          go_loopw [7, 11] (fun s t wr => ∃ hi st : Nat, hi ≤ n ∧ 1 ≤ st ∧ st ≤ 2048 ∧ s = .int .i64 hi ∧ t = .int .i64 st ∧ Hid (Span hs h 0 hi) ∧ LW w wr w.heap.size g n cap 0 h) (fun s _ _ => (intOf s).toNat)
          case atStart => 
            refine ⟨A, 1, hAn, Nat.le_refl _, by decide, rfl, rfl, ⟨fun i hi => absurd hi (Nat.not_lt_zero _), fun i h1 h2 => ?_⟩, L⟩
            exact HR.out.high (HF.out (by omega)) i h1 h2
          case round =>
            obtain ⟨hi, st, hhn, hs1, hs2, rfl, rfl, hsp, J⟩ := hrel
            have c3 := J.c3
            have c5 := J.c5
            have c6 := J.c6
            by_cases hle : st ≤ hi
            · have hle' : (0 : Int) ≤ (hi : Int) - (st : Int) := by omega
              obtain ⟨q, hq⟩ : ∃ q : Nat, q = hi - st := ⟨_, rfl⟩
              have hqi : (hi : Int) - (st : Int) = (q : Int) := by omega
              clear hq
              have cq := J.at hg HL.out (show q < n by omega)
              have hi1 : (q : Int) < (n : Int) := by omega
              have hi0 : (0 : Int) ≤ (q : Int) := by omega
              obtain ⟨x, hx⟩ : ∃ x, x = hs.getD q 0 := ⟨_, rfl⟩
              rw [← hx] at cq
              have HX := hide hx
              clear hx
              go_wp2_with fail
              go_quiet (fail)
              by_cases hxh : x < h
              · have hd : decide (x < h) = true := by simpa using hxh
                have S := hide (show Span hs h (q + 1) hi from ⟨HR.out.low (by omega) (by rw [← HX.out]; exact hxh), hsp.out.2⟩)
                have f6 : (wr.drewN nq).frozen? ⟨w.heap.size + 2, 0, none⟩ = false := J.f6
                have J' := (J.drew nq).store (q + 1)
                clear hsp HX J
                go_wp2_with fail
                go_meet
                exact ⟨q + 1, hi, by omega, hhn, rfl, S, by simpa using J'⟩
              · have hd : decide (x < h) = false := by simpa using hxh
                have S := hide (show Span hs h 0 q from ⟨fun i hi => absurd hi (Nat.not_lt_zero _), HR.out.high (by rw [← HX.out]; omega)⟩)
                have J' := J.drew nq
                clear hsp HX J
                go_wp2_with fail
                go_roundw
                case rel => exact ⟨q, st * 2, by omega, by omega, by omega, by go_num, by go_num, S, J'⟩
                case measure => simp [intOf]; omega
            · have hle' : ¬ (0 : Int) ≤ (hi : Int) - (st : Int) := by omega
              go_wp2_with fail
              go_meet
              exact ⟨0, hi, Nat.zero_le _, hhn, rfl, hsp, J⟩
        · obtain ⟨hA1, hA2⟩ := ht rfl
          have S0 := hide (HR.out.low (by omega) hA2)
          have J0 := L.store (A + 1)
          have f6 := L.f6
          have c6 := L.c6
          clear ht hf L hA2
          go_wp2_with fail
          have J0' : LW w (wc.setCell ⟨w.heap.size + 2, 0, none⟩ (.int .i64 ((A : Int) + 1))) w.heap.size g n cap (A + 1) h := by simpa using J0
          clear f6 c6 J0
          go_loopg [7, 9] n (fun gh s t wr => ∃ lo st : Nat, lo ≤ n ∧ n ≤ lo + gh ∧ 1 ≤ st ∧ st ≤ lo ∧ s = .int .i64 n ∧ t = .int .i64 st ∧ Hid (∀ i, i < lo → hs.getD i 0 < h) ∧ LW w wr w.heap.size g n cap lo h)
          case atStart => exact ⟨A + 1, 1, by omega, by omega, Nat.le_refl _, by omega, rfl, rfl, S0, J0'⟩
          case round =>
            obtain ⟨lo, st, hln, hgh, hs1, hs2, rfl, rfl, hlow, J⟩ := hrel
            have c3 := J.c3
            have c5 := J.c5
            have c6 := J.c6
            by_cases hlt : lo + st - 1 < n
            · have hlt' : (lo : Int) + (st : Int) - 1 < (n : Int) := by omega
              obtain ⟨q, hq⟩ : ∃ q : Nat, q = lo + st - 1 := ⟨_, rfl⟩
              have hqi : (lo : Int) + (st : Int) - 1 = (q : Int) := by omega
              have hq1 : lo + st = q + 1 := by omega
              clear hq
              have cq := J.at hg HL.out (show q < n by omega)
              have hi1 : (q : Int) < (n : Int) := by omega
              have hi0 : (0 : Int) ≤ (q : Int) := by omega
              obtain ⟨x, hx⟩ : ∃ x, x = hs.getD q 0 := ⟨_, rfl⟩
              rw [← hx] at cq
              have HX := hide hx
              clear hx
              have HQ1 := hide hq1
              clear hq1
              go_wp2_with fail
              go_quiet (fail)
              by_cases hxh : h ≤ x
              · have hd : decide (h ≤ x) = true := by simpa using hxh
                have S := hide (show Span hs h lo q from ⟨hlow.out, HR.out.high (by rw [← HX.out]; exact hxh)⟩)
                have J' := J.drew nq
                have hq2 := HQ1.out
                clear hlow HX J HQ1
                go_wp2_with fail
                go_meet
                exact ⟨lo, q, by omega, by omega, rfl, S, J'⟩
              · have hd : decide (h ≤ x) = false := by simpa using hxh
                have S := hide (show ∀ i, i < lo + st → hs.getD i 0 < h by rw [HQ1.out]; exact HR.out.low (by omega) (by rw [← HX.out]; omega))
                have f6 : (wr.drewN nq).frozen? ⟨w.heap.size + 2, 0, none⟩ = false := J.f6
                have J' := (J.drew nq).store (lo + st)
                have hb : (lo : Int) + (st : Int) ≤ 2048 := by omega
                clear hlow HX J
                go_wp2_with fail
                have hq2 := HQ1.out
                go_roundg (n - (lo + st))
                case rel => exact ⟨lo + st, st * 2, by omega, by omega, by omega, by omega, rfl, by go_num, S, by simpa using J'⟩
                case measure => omega
            · have hlt' : ¬ (lo : Int) + (st : Int) - 1 < (n : Int) := by omega
              go_wp2_with fail
              go_meet
              exact ⟨lo, n, hln, Nat.le_refl _, rfl, ⟨hlow.out, fun i h1 h2 => absurd h1 (by omega)⟩, J⟩
      case rest =>
        obtain ⟨lo, hi, hlh, hhn, rfl, hsp, J⟩ := hcut
        obtain ⟨p, hp⟩ := place_exists HR.out h
        have hp1 : lo ≤ p := by
          rcases Nat.lt_or_ge p lo with hlt | hge
          · have a1 := hsp.out.1 p hlt
            have a2 := hp.2.2 p (Nat.le_refl _) (by omega)
            omega
          · exact hge
        have hp2 : p ≤ hi := by
          rcases Nat.lt_or_ge hi p with hlt | hge
          · have a1 := hp.2.1 hi hlt
            have a2 := hsp.out.2 hi (Nat.le_refl _) (by have := hp.1; omega)
            omega
          · exact hge
        obtain ⟨m, hm⟩ : ∃ m : Nat, lo + m = hi := ⟨hi - lo, by omega⟩
        have hmi : (hi : Int) - (lo : Int) = (m : Int) := by omega
        have c6 := J.c6
        have hcall := hide (fun nd => search_place ((J.loc hg HL.out).drew nd) m (by omega) hn hlen HR.out hp hp1 (by omega))
        have hP := hide hp
        clear hp hm hsp
        go_upto_region 21 with fail
        go_quiet (exact (hcall.out _).quiet_of)
        have e1 : (lo : Int) + ((p : Int) - (lo : Int)) = (p : Int) := by omega
        go_wp2_with fail
        refine bodyPost_ret (results_tmp rfl _ _ _) rfl ⟨p, ?_, hP.out, below_drewN J.bel⟩
        simp
        omega
end Go.Proofs.Ybulkayte
