/-
  THE WALK OF LawS2497AAnyText.
-/
import Derived.Test.YbulkayroFmtPayload
namespace Go.Proofs.YbulkayroFmt
open Go.RowKit Go.Extern.Stop Go.Stop Go.Extern

theorem run_at {P : Program} (t : TypeId) (s : ByteArray) (h : P.underlying t = some .string) (j : Nat) (hj : j < s.size) (k : IntKind) (w : World) : (Instr.index t (.string s) (.int k (j : Int))).run P w = .ok (.int .u8 ((bsOf s).getD j 0)) w := by
  have e : s[j]? = some (s.data.toList.getD j 0) := by
    rw [getElem?_pos s j hj]
    show some s.data[j] = _
    simp [List.getD, hj]
  rw [bsOf_get s j hj]
  simp [Instr.index, asIntOf, run_underlying h, e]

theorem nib_yes (c x : Int) (w : World) (h0 : 0 ≤ c) (h1 : c ≤ 255) (hx : x = hv c) (h : hv c ≤ 15) : Calls Ybaf.prog 8 #[.int .u8 c] w fun e w' => e = .returned (.tuple #[.int .u8 x, .bool true]) ∧ w = w' := by
  have := nib_any c w h0 h1
  rw [nibV, if_pos h, decide_eq_true h, ← hx] at this
  exact this

theorem nib_no (c : Int) (w : World) (h0 : 0 ≤ c) (h1 : c ≤ 255) (h : ¬ hv c ≤ 15) : Calls Ybaf.prog 8 #[.int .u8 c] w fun e w' => e = .returned (.tuple #[.int .u8 0, .bool false]) ∧ w = w' := by
  have := nib_any c w h0 h1
  rw [nibV, if_neg h, decide_eq_false h] at this
  exact this

set_option maxHeartbeats 1000000 in
set_option maxRecDepth 100000 in
theorem any_walk (F : Interp) (s : ByteArray) (ea : Addr) (el : ByteArray) (w : World) (hF : F.answers w.tape) (hmax : s.size ≤ maxLen)
    (hEL : w.cell? ⟨0, 0, none⟩ = some (.iface 43 (.pointer (some ea)))) (hea : w.cell? ea = some (.string el)) :
    Calls Ybaf.prog 4 #[.string s] w fun e w' => e = .returned (.bool true) ∧ Below w.heap.size w w' := by
  unfold maxLen at hmax
  by_cases hl0 : s.size ≤ 1024
  · obtain ⟨i0, hi, hz0, hz1, hz2⟩ := info_parts info5
    obtain ⟨m, hm⟩ : ∃ m, m = s.size := ⟨_, rfl⟩
    obtain ⟨k, hk⟩ : ∃ k, k = s.size / 2 := ⟨_, rfl⟩
    obtain ⟨cs, hcs⟩ : ∃ cs, cs = bsOf s := ⟨_, rfl⟩
    have HK := hide hk
    have HCS := hide hcs
    have hk1 : k * 2 ≤ s.size := by omega
    have hk2 : s.size ≤ k * 2 + 1 := by omega
    have hsz2 : ((s.size : Int) / 2) = (k : Int) := by omega
    obtain ⟨ok0, hok0⟩ : ∃ ok0, ok0 = ((s.size : Int) % 2 == 0) := ⟨_, rfl⟩
    have HOK := hide hok0
    clear hk hcs hm m
    go_enter Ybaf.func4, Ybaf.ntmps4
    go_upto_region 3 with fail
    go_cut [3] (fun t wd => t = .bool ok0 ∧ w = wd)
    case first =>
      go_wp2_with fail
      go_meet
      exact ⟨by rw [HOK.out], rfl⟩
    case rest =>
      obtain ⟨rfl, rfl⟩ := hcut
      clear hok0
      go_wp2_with (at_make; refine wpList_make_own _ rfl _ _ 22 rfl w.heap.size 5 i0 (.int .u8 0) 1 Ybaf.underlying22 hi hz0 hz1 _ _ _ k rfl rfl (by omega) ?b2 ?b3 ?b4 ?_)
      case b2 => rw [hz2]; omega
      case b3 => unfold maxLen; omega
      case b4 => exact Nat.le_refl _
      intro wA hownA hgA
      have hOA : Own .u8 5 wA w.heap.size w.heap.size 0 k [] := ⟨rfl, hownA⟩
      have hbA : Below w.heap.size w wA := (Below.refl _ _).grown hgA (Nat.le_refl _) (by simp)
      clear hownA hgA hsz2
      go_wp2_with fail
      go_loopg [3, 4, 5] (k + 2) (fun gh s3 s4 s5 wr => ∃ (t N g cap : Nat) (xs : List Int) (ok : Bool), t ≤ k + 1 ∧ t + gh = k + 2 ∧ s5 = .int .i64 ((2 * t : Nat) : Int) ∧ s4 = .slice (some ⟨g, 0, none⟩) N cap ∧ s3 = .bool ok ∧ N ≤ k ∧ Hid (ok = true → s.size % 2 = 0 ∧ GoodTo cs t ∧ xs = prs cm cs t ∧ t ≤ k) ∧ Hid (ok = false → ¬ (s.size % 2 = 0 ∧ GoodTo cs k)) ∧ Own .u8 5 wr w.heap.size g N cap xs ∧ Below w.heap.size w wr)
      case atStart =>
        refine ⟨0, 0, w.heap.size, k, [], ok0, by omega, by omega, rfl, rfl, rfl, by omega, fun h => ?_, fun h => ?_, hOA, hbA⟩
        · rw [HOK.out] at h
          simp at h
          exact ⟨by omega, fun q hq => by omega, rfl, by omega⟩
        · rw [HOK.out] at h
          simp at h
          intro h2
          omega
      case round =>
        obtain ⟨t, N, g, cap, xs, ok, ht, hgt, rfl, rfl, rfl, hNk, hT, hFa, hO, hB⟩ := hrel
        obtain ⟨j, hj⟩ : ∃ j, j = 2 * t := ⟨_, rfl⟩
        rw [← hj]
        have hj1 : j ≤ 2 * k + 2 := by omega
        have HJ := hide hj
        have hlo := hO.lo
        have hFz : F.answers (wr.alloc (.cells #[.string s] 9)).tape := by show F.answers wr.tape; rw [hB.tape]; exact hF
        have hBz := hB.alloc hB.size (.cells #[.string s] 9)
        have hcall := hide (payload_any F s wr.heap.size ea el _ hFz (by rw [cell_new _ _ _ _ _ rfl]; rfl) (by omega) ((hBz.cell (p := ⟨0, 0, none⟩) (World.block_lt_of_cell? w _ hEL)).trans hEL) ((hBz.cell (World.block_lt_of_cell? w _ hea)).trans hea))
        cases ok
        · clear hj
          have hnl := fun w => Lib.run_eql_slice_nil (P := Ybaf.prog) w 22 5 none 0 0 0 0 Ybaf.underlying22
          go_wp2_with fail
          refine hcall.out.mono ?_
          rintro e wP (⟨hev, hgd, -⟩ | ⟨-, T, v, rfl, hB4⟩)
          · exfalso
            rw [← HCS.out, ← HK.out] at hgd
            exact hFa.out (by first | rfl | trivial) ⟨hev, hgd⟩
          · go_wp2_with fail
            go_ret
            exact ⟨rfl, hBz.trans (hB4.mono hBz.size)⟩
        · obtain ⟨hev, hgd, hxs, htk⟩ := hT.out rfl
          have HEV := hide hev
          have HGD := hide hgd
          have HXS := hide hxs
          by_cases hlt : t < k
          · have hjs : j + 1 < s.size := by omega
            obtain ⟨c, hc⟩ : ∃ c, c = cs.getD j 0 := ⟨_, rfl⟩
            obtain ⟨d, hd⟩ : ∃ d, d = cs.getD (j + 1) 0 := ⟨_, rfl⟩
            have hr1 := run_at (P := Ybaf.prog) 9 s Ybaf.underlying9 j (by omega) .i64
            have hr2 := run_at (P := Ybaf.prog) 9 s Ybaf.underlying9 (j + 1) (by omega) .i64
            rw [← HCS.out, ← hc] at hr1
            rw [← HCS.out, ← hd, show ((j + 1 : Nat) : Int) = (j : Int) + 1 by omega] at hr2
            have hcb := bsOf_bd s j
            have hdb := bsOf_bd s (j + 1)
            rw [← HCS.out, ← hc] at hcb
            rw [← HCS.out, ← hd] at hdb
            obtain ⟨hc0, hc1⟩ := hcb
            obtain ⟨hd0, hd1⟩ := hdb
            have Hc := hide hc
            have Hd := hide hd
            clear hc hd hj hev hgd hxs
            have hb1 := (hv_bd c).1
            have hb2 := (hv_bd d).1
            obtain ⟨x, hx⟩ : ∃ x, x = hv c := ⟨_, rfl⟩
            obtain ⟨y, hy⟩ : ∃ y, y = hv d := ⟨_, rfl⟩
            have HX := hide hx
            have HY := hide hy
            rw [← hx] at hb1
            rw [← hy] at hb2
            clear hx hy
            have hOx := hO.2
            have hbs : w.heap.size ≤ wr.heap.size := hB.size
            by_cases hcv : x ≤ 15
            · have hn1 := hide (fun w' => nib_yes c x w' hc0 hc1 HX.out (by rw [← HX.out]; exact hcv))
              by_cases hdv : y ≤ 15
              · have hn2 := hide (fun w' => nib_yes d y w' hd0 hd1 HY.out (by rw [← HY.out]; exact hdv))
                go_wp2_with fail
                refine (hn1.out _).mono ?_
                rintro e w' ⟨rfl, rfl⟩
                go_wp2_with fail
                refine (hn2.out _).mono ?_
                rintro e w' ⟨rfl, rfl⟩
                go_wp2_with (at_builtin; refine wpList_append_own _ rfl (.tmp 55) (.tmp 60) 22 rfl w.heap.size 5 i0 (.int .u8 0) 1 1 Ybaf.underlying22 hi hz0 hz1 hz2 rfl (by decide) _ _ _ rfl (hOx.alloc _) ⟨wr.heap.size, 0, none⟩ 1 1 [.int .u8 (bits BinOp.or IntKind.u8 (x * 16) y)] rfl rfl (cell_one_new _ _ _) (by simp [Value.oneCell']) (by unfold maxLen; omega) (by omega) (by simp; omega) ?_)
                intro v' w1 hown' hgrow hnil
                obtain ⟨g', cap', hvv, ho, hg⟩ := own_grown (q := .u8) (m := 1) (ys := [cm x y]) hO.1 rfl (by simpa [cm] using hown') hgrow (by first | exact hnil | (intro h; have := hnil.1 h; simp at this))
                rw [hvv]
                clear hown' hgrow hnil
                go_wp2_with fail
                go_roundg (gk - 1)
                case measure => omega
                case rel =>
                  refine ⟨t + 1, N + 1, g', cap', xs ++ [cm x y], true, by omega, by omega, by have := HJ.out; go_num, rfl, rfl, by have h1 := hO.1; rw [HXS.out, prs_len] at h1; omega, fun _ => ?_, (fun h => by simp at h), ho, (hB.alloc hB.size _).trans (grown_below (by simp; omega) hlo hg)⟩
                  refine ⟨HEV.out, GoodTo.succ HGD.out ?_ ?_, ?_, by omega⟩
                  · rw [← HJ.out, ← Hc.out, ← HX.out]; exact hcv
                  · rw [← HJ.out, ← Hd.out, ← HY.out]; exact hdv
                  · rw [prs_succ, ← HJ.out, ← Hc.out, ← Hd.out, ← HX.out, ← HY.out, HXS.out]
              · have hn2 := hide (fun w' => nib_no d w' hd0 hd1 (by rw [← HY.out]; exact hdv))
                have hnb : Hid (¬ (s.size % 2 = 0 ∧ GoodTo cs k)) := by
                  rintro ⟨-, h⟩
                  have := (h t hlt).2
                  rw [← HJ.out, ← Hd.out, ← HY.out] at this
                  omega
                go_wp2_with fail
                refine (hn1.out _).mono ?_
                rintro e w' ⟨rfl, rfl⟩
                go_wp2_with fail
                refine (hn2.out _).mono ?_
                rintro e w' ⟨rfl, rfl⟩
                go_wp2_with fail
                go_roundg (gk - 1)
                case measure => omega
                case rel => exact ⟨t + 1, N, g, cap, xs, false, by omega, by omega, by have := HJ.out; go_num, rfl, rfl, hNk, (fun h => by simp at h), fun _ => hnb.out, hO, hB⟩
            · have hn1 := hide (fun w' => nib_no c w' hc0 hc1 (by rw [← HX.out]; exact hcv))
              have hn2 := hide (fun w' => nib_any d w' hd0 hd1)
              have hnb : Hid (¬ (s.size % 2 = 0 ∧ GoodTo cs k)) := by
                rintro ⟨-, h⟩
                have := (h t hlt).1
                rw [← HJ.out, ← Hc.out, ← HX.out] at this
                omega
              go_wp2_with fail
              refine (hn1.out _).mono ?_
              rintro e w' ⟨rfl, rfl⟩
              go_wp2_with fail
              refine (hn2.out _).mono ?_
              rintro e w' ⟨rfl, rfl⟩
              go_wp2_with fail
              go_roundg (gk - 1)
              case measure => omega
              case rel => exact ⟨t + 1, N, g, cap, xs, false, by omega, by omega, by have := HJ.out; go_num, rfl, rfl, hNk, (fun h => by simp at h), fun _ => hnb.out, hO, hB⟩
          · obtain rfl : t = k := by omega
            have hNt : Hid (N = t) := by have h1 := hO.1; rw [HXS.out, prs_len] at h1; exact h1.symm
            have hjs : s.size ≤ j + 1 := by omega
            clear hj hev hgd hxs
            go_wp2_with fail
            refine hcall.out.mono ?_
            rintro e wP (⟨hev, hgd, g4, hg4, rfl, hO4, hB4⟩ | ⟨hbad, -⟩)
            · rw [← HK.out, ← HCS.out, ← HXS.out] at hO4
              rw [← HK.out]
              have hnl := fun w => run_neq_slice_nil_any (P := Ybaf.prog) w 22 5 (some ⟨g4, 0, none⟩) t t 0 0 Ybaf.underlying22
              have hBP : Below w.heap.size w wP := hBz.trans (hB4.mono hBz.size)
              have hOw : Own .u8 5 wP w.heap.size g N cap xs := hO.keep ((hB4.block g (by have := hO.hi; simp; omega)).trans (Below.heap_alloc wr _ g hO.hi))
              have heq : Hid (Calls Ybaf.prog 7 #[.slice (some ⟨g4, 0, none⟩) t t, .slice (some ⟨g, 0, none⟩) N cap] wP fun e w' => e = .returned (.bool true) ∧ Below wP.heap.size wP w') := by
                have hO5 := hOw
                rw [hNt.out] at hO5 ⊢
                exact eq_true (some ⟨g4, 0, none⟩) (some ⟨g, 0, none⟩) t t cap xs wP (by omega) (fun q hq => ⟨g4, 0, rfl, by rw [Nat.zero_add]; exact hO4.cell hq⟩) (fun q hq => ⟨g, 0, rfl, by rw [Nat.zero_add]; exact hO5.cell hq⟩)
              clear hev hgd
              go_wp2_with fail
              refine heq.out.mono ?_
              rintro e wQ ⟨rfl, hBQ⟩
              go_wp2_with fail
              go_ret
              exact ⟨rfl, hBP.trans (hBQ.mono hBP.size)⟩
            · exfalso
              rw [← HK.out, ← HCS.out] at hbad
              exact hbad ⟨HEV.out, HGD.out⟩
  · go_enter Ybaf.func4, Ybaf.ntmps4
    go_wp2_with fail
    go_ret
    exact ⟨rfl, Below.refl _ _⟩

end Go.Proofs.YbulkayroFmt
