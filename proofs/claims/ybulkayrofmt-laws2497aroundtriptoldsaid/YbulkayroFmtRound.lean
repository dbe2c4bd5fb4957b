/-
  THE WALK OF LawS2497ARoundTrip.
-/
import Derived.Test.YbulkayroFmtPayload
import Derived.Deep.RegionHeld3
import Derived.Deep.AppendLies
namespace Go.Proofs.YbulkayroFmt
open Go.RowKit Go.Extern.Stop Go.Stop Go.Extern

theorem and15 (x : Int) (h0 : 0 ≤ x) (h1 : x ≤ 255) : bits BinOp.and IntKind.u8 x 15 = x % 16 := by
  have h : ∀ i : Fin 256, bits BinOp.and IntKind.u8 ((i.val : Nat) : Int) 15 = ((i.val : Nat) : Int) % 16 := by decide +kernel
  have := h ⟨x.toNat, by omega⟩
  rwa [show ((x.toNat : Nat) : Int) = x by omega] at this

theorem run_ix {P : Program} (t : TypeId) (T : ByteArray) (h : P.underlying t = some .string) (i : Int) (h0 : 0 ≤ i) (b : UInt8) (hb : T[i.toNat]? = some b) (w : World) : (Instr.index t (.string T) (.int .u8 i)).run P w = .ok (.int .u8 (b.toNat : Int)) w := by
  simp [Instr.index, asIntOf, run_underlying h, h0, hb]

theorem two_new (w : World) (x y : Value) (T : TypeId) : ∀ j u, [x, y][j]? = some u → ((w.alloc (.cells #[x, y] T)).drew).cell? ((⟨w.heap.size, 0, none⟩ : Addr).add j) = some u := by
  intro j u hj
  show (w.alloc (.cells #[x, y] T)).cell? _ = _
  rw [Addr.add_lit, Nat.zero_add, cell_new _ _ _ _ _ rfl, ← hj]
  simp

/-- xs is the hex text of the first t bytes of zs. -/
def HexOf (zs : List Int) (t : Nat) (xs : List Int) : Prop := xs.length = 2 * t ∧ (∀ m ∈ xs, 0 ≤ m ∧ m ≤ 255) ∧ ∀ q, q < t → hv (xs.getD (2 * q) 0) = zs.getD q 0 / 16 ∧ hv (xs.getD (2 * q + 1) 0) = zs.getD q 0 % 16

theorem HexOf.snoc {zs : List Int} {t : Nat} {xs : List Int} {y1 y2 : Int} (h : HexOf zs t xs) (h1 : hv y1 = zs.getD t 0 / 16) (h2 : hv y2 = zs.getD t 0 % 16) (b1 : 0 ≤ y1 ∧ y1 ≤ 255) (b2 : 0 ≤ y2 ∧ y2 ≤ 255) : HexOf zs (t + 1) (xs ++ [y1, y2]) := by
  obtain ⟨hl, hb, hq⟩ := h
  refine ⟨by simp [hl]; omega, fun m hm => ?_, fun q hlt => ?_⟩
  · rcases List.mem_append.1 hm with h | h
    · exact hb m h
    · simp at h
      rcases h with rfl | rfl
      · exact b1
      · exact b2
  · rcases Nat.lt_succ_iff_lt_or_eq.1 hlt with h | rfl
    · have := hq q h
      simp only [List.getD] at this ⊢
      rw [List.getElem?_append_left (by omega), List.getElem?_append_left (by omega)]
      exact this
    · simp only [List.getD] at h1 h2 ⊢
      rw [List.getElem?_append_right (by omega), List.getElem?_append_right (by omega), hl, Nat.sub_self, show 2 * q + 1 - 2 * q = 1 by omega]
      exact ⟨h1, h2⟩

theorem cm_join (z : Int) (h0 : 0 ≤ z) (h1 : z ≤ 255) : cm (z / 16) (z % 16) = z := by
  have h : ∀ i : Fin 256, cm (((i.val : Nat) : Int) / 16) (((i.val : Nat) : Int) % 16) = ((i.val : Nat) : Int) := by decide +kernel
  have := h ⟨z.toNat, by omega⟩
  rwa [show ((z.toNat : Nat) : Int) = z by omega] at this

theorem HexOf.good {zs : List Int} {t : Nat} {xs : List Int} (h : HexOf zs t xs) (ht : t ≤ zs.length) (hz : ∀ q, q < t → 0 ≤ zs.getD q 0 ∧ zs.getD q 0 ≤ 255) : GoodTo xs t ∧ prs cm xs t = zs.take t := by
  refine ⟨fun q hq => ?_, ?_⟩
  · have := h.2.2 q hq
    have := hz q hq
    omega
  · apply List.ext_getElem?
    intro q
    by_cases hq : q < t
    · have h1 := h.2.2 q hq
      have h2 := hz q hq
      have e : zs[q]? = some (zs.getD q 0) := by simp [List.getD, show q < zs.length by omega]
      rw [List.getElem?_take, if_pos hq, e, prs, List.getElem?_map, List.getElem?_range hq]
      show some (cm (hv (xs.getD (2 * q) 0)) (hv (xs.getD (2 * q + 1) 0))) = _
      rw [h1.1, h1.2, cm_join _ h2.1 h2.2]
    · rw [List.getElem?_eq_none (by rw [prs_len]; omega), List.getElem?_eq_none (by simp; omega)]

theorem tab_lo : ∀ i : Fin 16, ∃ b, (⟨#[48, 49, 50, 51, 52, 53, 54, 55, 56, 57, 97, 98, 99, 100, 101, 102]⟩ : ByteArray)[i.val]? = some b ∧ hv (b.toNat : Int) = (i.val : Int) := by
  intro i
  match i with
  | ⟨0, _⟩ => exact ⟨48, rfl, rfl⟩
  | ⟨1, _⟩ => exact ⟨49, rfl, rfl⟩
  | ⟨2, _⟩ => exact ⟨50, rfl, rfl⟩
  | ⟨3, _⟩ => exact ⟨51, rfl, rfl⟩
  | ⟨4, _⟩ => exact ⟨52, rfl, rfl⟩
  | ⟨5, _⟩ => exact ⟨53, rfl, rfl⟩
  | ⟨6, _⟩ => exact ⟨54, rfl, rfl⟩
  | ⟨7, _⟩ => exact ⟨55, rfl, rfl⟩
  | ⟨8, _⟩ => exact ⟨56, rfl, rfl⟩
  | ⟨9, _⟩ => exact ⟨57, rfl, rfl⟩
  | ⟨10, _⟩ => exact ⟨97, rfl, rfl⟩
  | ⟨11, _⟩ => exact ⟨98, rfl, rfl⟩
  | ⟨12, _⟩ => exact ⟨99, rfl, rfl⟩
  | ⟨13, _⟩ => exact ⟨100, rfl, rfl⟩
  | ⟨14, _⟩ => exact ⟨101, rfl, rfl⟩
  | ⟨15, _⟩ => exact ⟨102, rfl, rfl⟩
  | ⟨n + 16, h⟩ => exact absurd h (by omega)
theorem tab_up : ∀ i : Fin 16, ∃ b, (⟨#[48, 49, 50, 51, 52, 53, 54, 55, 56, 57, 65, 66, 67, 68, 69, 70]⟩ : ByteArray)[i.val]? = some b ∧ hv (b.toNat : Int) = (i.val : Int) := by
  intro i
  match i with
  | ⟨0, _⟩ => exact ⟨48, rfl, rfl⟩
  | ⟨1, _⟩ => exact ⟨49, rfl, rfl⟩
  | ⟨2, _⟩ => exact ⟨50, rfl, rfl⟩
  | ⟨3, _⟩ => exact ⟨51, rfl, rfl⟩
  | ⟨4, _⟩ => exact ⟨52, rfl, rfl⟩
  | ⟨5, _⟩ => exact ⟨53, rfl, rfl⟩
  | ⟨6, _⟩ => exact ⟨54, rfl, rfl⟩
  | ⟨7, _⟩ => exact ⟨55, rfl, rfl⟩
  | ⟨8, _⟩ => exact ⟨56, rfl, rfl⟩
  | ⟨9, _⟩ => exact ⟨57, rfl, rfl⟩
  | ⟨10, _⟩ => exact ⟨65, rfl, rfl⟩
  | ⟨11, _⟩ => exact ⟨66, rfl, rfl⟩
  | ⟨12, _⟩ => exact ⟨67, rfl, rfl⟩
  | ⟨13, _⟩ => exact ⟨68, rfl, rfl⟩
  | ⟨14, _⟩ => exact ⟨69, rfl, rfl⟩
  | ⟨15, _⟩ => exact ⟨70, rfl, rfl⟩
  | ⟨n + 16, h⟩ => exact absurd h (by omega)

set_option maxHeartbeats 1000000 in
set_option maxRecDepth 100000 in
theorem round_walk (F : Interp) (a0 : Option Addr) (len0 cap0 : Nat) (z0 : List Int) (up : Bool) (ea : Addr) (el : ByteArray) (w : World) (hF : F.answers w.tape) (w0 : IsRow .u8 w a0 len0 cap0 z0)
    (hEL : w.cell? ⟨0, 0, none⟩ = some (.iface 43 (.pointer (some ea)))) (hea : w.cell? ea = some (.string el)) :
    Calls Ybaf.prog 3 #[.slice a0 len0 cap0, .bool up] w fun e w' => e = .returned (.bool true) ∧ Below w.heap.size w w' := by
  obtain ⟨hz0l, hz0n, hz0r⟩ := row_cell w0
  have Z0R := hide hz0r
  clear hz0n hz0r
  by_cases hl0 : len0 ≤ 1024
  · obtain ⟨i0, hi, hz0, hz1, hz2⟩ := info_parts info5
    go_enter Ybaf.func3, Ybaf.ntmps3
    go_upto_if 14 with fail
    go_cut [5] (fun s wd => ∃ T : ByteArray, s = .string T ∧ T.size = 16 ∧ Hid (∀ i : Nat, i < 16 → ∃ b, T[i]? = some b ∧ hv (b.toNat : Int) = (i : Int)) ∧ w = wd)
    case first =>
      cases up
      · go_wp2_with fail
        go_meet
        exact ⟨_, rfl, rfl, fun i hi => tab_lo ⟨i, hi⟩, rfl⟩
      · go_wp2_with fail
        go_meet
        exact ⟨_, rfl, rfl, fun i hi => tab_up ⟨i, hi⟩, rfl⟩
    case rest =>
      obtain ⟨T, rfl, hT16, hTv, rfl⟩ := hcut
      go_wp2_with (at_make; refine wpList_make_own _ rfl _ _ 22 rfl w.heap.size 5 i0 (.int .u8 0) 1 Ybaf.underlying22 hi hz0 hz1 _ _ _ (2 * len0) rfl rfl (by omega) ?b2 ?b3 ?b4 ?_)
      case b2 => rw [hz2]; omega
      case b3 => unfold maxLen; omega
      case b4 => exact Nat.le_refl _
      intro wA hownA hgA
      have hOA : Own .u8 5 wA w.heap.size w.heap.size 0 (2 * len0) [] := ⟨rfl, hownA⟩
      have hbA : Below w.heap.size w wA := (Below.refl _ _).grown hgA (Nat.le_refl _) (by simp)
      clear hownA hgA
      go_wp2_with fail
      go_loopw [6, 7] (fun s i wr => ∃ (t N g cap : Nat) (xs : List Int), t ≤ len0 ∧ i = .int .i64 t ∧ s = .slice (some ⟨g, 0, none⟩) N cap ∧ Hid (HexOf z0 t xs) ∧ Own .u8 5 wr w.heap.size g N cap xs ∧ Below w.heap.size w wr) (fun _ i _ => len0 - (intOf i).toNat)
      case atStart => exact ⟨0, 0, w.heap.size, 2 * len0, [], Nat.zero_le _, rfl, rfl, ⟨rfl, fun m hm => by simp at hm, fun q hq => by omega⟩, hOA, hbA⟩
      case round =>
        obtain ⟨t, N, g, cap, xs, ht, rfl, rfl, hHX, hO, hB⟩ := hrel
        have HN : Hid (N = 2 * t) := by have h1 := hO.1; have h2 := hHX.out.1; show _ = _; omega
        have hN1 : N ≤ 2048 := by have := HN.out; omega
        have hlo := hO.lo
        by_cases hlt : t < len0
        · obtain ⟨b, off, rfl, hc, hwf⟩ := Z0R.out t hlt
          have hblt : b < w.heap.size := World.block_lt_of_cell? w ⟨b, off + t, none⟩ hc
          obtain ⟨x, hxe⟩ : ∃ x, x = z0.getD t 0 := ⟨_, rfl⟩
          rw [← hxe] at hc hwf
          have HX := hide hxe
          clear hxe
          have hcr : wr.cell? ⟨b, off + t, none⟩ = some (.int .u8 x) := (hB.cell (p := ⟨b, off + t, none⟩) hblt).trans hc
          obtain ⟨hx0, hx1⟩ := bounds_u8 hwf
          have hil : (t : Int) < (len0 : Int) := by omega
          have hi0 : (0 : Int) ≤ (t : Int) := by omega
          have hand := and15 x hx0 hx1
          obtain ⟨b1, hb1, hv1⟩ := hTv.out (x / 16).toNat (by omega)
          obtain ⟨b2, hb2, hv2⟩ := hTv.out (x % 16).toNat (by omega)
          have hr1 := run_ix (P := Ybaf.prog) 9 T Ybaf.underlying9 (x / 16) (by omega) b1 hb1
          have hr2 := run_ix (P := Ybaf.prog) 9 T Ybaf.underlying9 (x % 16) (by omega) b2 hb2
          obtain ⟨y1, hy1⟩ : ∃ y1 : Int, y1 = (b1.toNat : Int) := ⟨_, rfl⟩
          obtain ⟨y2, hy2⟩ : ∃ y2 : Int, y2 = (b2.toNat : Int) := ⟨_, rfl⟩
          rw [← hy1] at hr1 hv1
          rw [← hy2] at hr2 hv2
          have HY1 := hide hy1
          have HY2 := hide hy2
          have HV1 := hide hv1
          have HV2 := hide hv2
          clear hc hwf hy1 hy2 hv1 hv2 hb1 hb2
          go_wp2_with fail
          have hne : some b ≠ some g := by simp; omega
          have hOx := hO.2
          have hbs : w.heap.size ≤ wr.heap.size := hB.size
          go_region_held3 (fun w' => w'.cell? ⟨b, off + t, none⟩ = some (.int .u8 x)) (first | go_keep | (exact World.grownBy.cell (by assumption) (by go_keep) hne))
            ((refine step_append_lies _ rfl (.tmp 25) (.tmp 40) 22 rfl w.heap.size 5 i0 (.int .u8 0) 1 1 Ybaf.underlying22 hi hz0 hz1 hz2 rfl (by decide) _ _ _ rfl (by exact hOx.alloc _) ⟨wr.heap.size, 0, none⟩ 2 2 [.int .u8 y1, .int .u8 y2] rfl rfl (two_new wr _ _ _) (by simp [Value.oneCell']) (by decide) (by unfold maxLen; omega) (by omega) (by simp; omega) (wr.heap.size + 1) (by simp) ?_; intro g3 cap3 w3 hown3 hgrow3 hlies hlt3))
          all_goals
            go_wp2_with fail
            go_roundw
            case rel =>
              refine ⟨t + 1, N + 2, g3, cap3, xs ++ [y1, y2], by omega, by go_num, rfl, ?_, ⟨?_, ?_⟩, ?_⟩
              · have e1 : (((x / 16).toNat : Nat) : Int) = x / 16 := by omega
                have e2 : (((x % 16).toNat : Nat) : Int) = x % 16 := by omega
                refine hHX.out.snoc ?_ ?_ ?_ ?_
                · rw [← HX.out, HV1.out, e1]
                · rw [← HX.out, HV2.out, e2]
                · rw [HY1.out]; have := b1.toNat_lt; omega
                · rw [HY2.out]; have := b2.toNat_lt; omega
              · simp [hO.1]
              · simpa using hown3
              · exact (hB.alloc hB.size _).drew.grown hgrow3 (by simp; omega) (fun q hq => by
                  have : some g = some q := hq
                  simp at this
                  omega)
            case measure => simp [intOf]; omega
        · obtain rfl : t = len0 := by omega
          obtain ⟨hxl, hxb, -⟩ := hHX.out
          have hgp := hide (hHX.out.good hz0l (fun q hq => by obtain ⟨_, _, _, _, hwf⟩ := Z0R.out q hq; exact bounds_u8 hwf))
          have A1 : Hid (∀ j v, (xs.map (Value.int .u8))[j]? = some v → wr.cell? ((⟨g, 0, none⟩ : Addr).add j) = some v) := cells_all hO.1 (fun j hj => by rw [Nat.zero_add]; exact hO.cell hj)
          have A2 := hide hxb
          have A3 := hide hO.1
          clear hxl hxb
          go_wp2_with (refine wpList_string_of rfl 22 9 5 (.tmp 42) rfl Ybaf.underlying22 Ybaf.underlying5 Ybaf.underlying9 ⟨g, 0, none⟩ N _ rfl xs A3.out A1.out A2.out ?_; intro s hs)
          have hss : s.size = N := by rw [← bsOf_len, hs.out]; exact A3.out
          have hFz : F.answers (wr.alloc (.cells #[.string s] 9)).tape := by show F.answers wr.tape; rw [hB.tape]; exact hF
          have hBz := hB.alloc hB.size (.cells #[.string s] 9)
          have hcall := hide (payload_any F s wr.heap.size ea el _ hFz (by rw [cell_new _ _ _ _ _ rfl]; rfl) (by omega) ((hBz.cell (p := ⟨0, 0, none⟩) (World.block_lt_of_cell? w _ hEL)).trans hEL) ((hBz.cell (World.block_lt_of_cell? w _ hea)).trans hea))
          refine hcall.out.mono ?_
          rintro e wP (⟨hev, hgd, g4, hg4, rfl, hO4, hB4⟩ | ⟨hbad, -⟩)
          · have hk : s.size / 2 = t := by rw [hss, HN.out]; omega
            rw [hk, hs.out, hgp.out.2] at hO4
            rw [hk]
            clear hk hss hcall hgd hev
            have hnl := fun w => Lib.run_eql_slice_nil (P := Ybaf.prog) w 22 5 (some ⟨g4, 0, none⟩) t t 0 0 Ybaf.underlying22
            have hBP : Below w.heap.size w wP := hBz.trans (hB4.mono hBz.size)
            have heq := hide (eq_true (some ⟨g4, 0, none⟩) a0 t t cap0 (z0.take t) wP (by omega) (fun j hj => ⟨g4, 0, rfl, by rw [Nat.zero_add]; exact hO4.cell hj⟩) (fun j hj => by
              obtain ⟨b, off, rfl, hc, -⟩ := Z0R.out j hj
              refine ⟨b, off, rfl, ?_⟩
              rw [hBP.cell (p := ⟨b, off + j, none⟩) (World.block_lt_of_cell? w _ hc), hc]
              simp [List.getD, hj]))
            go_wp2_with fail
            refine heq.out.mono ?_
            rintro e wQ ⟨rfl, hBQ⟩
            go_wp2_with fail
            go_ret
            exact ⟨rfl, hBP.trans (hBQ.mono hBP.size)⟩
          · exfalso
            apply hbad
            have hk : s.size / 2 = t := by rw [hss, HN.out]; omega
            rw [hk, hs.out]
            exact ⟨by rw [hss, HN.out]; omega, hgp.out.1⟩
  · go_enter Ybaf.func3, Ybaf.ntmps3
    go_wp2_with fail
    go_ret
    exact ⟨rfl, Below.refl _ _⟩

end Go.Proofs.YbulkayroFmt
