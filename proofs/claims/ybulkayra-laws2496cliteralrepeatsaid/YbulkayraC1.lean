/-
  THE LAW LawS2496CLiteralRepeat: ITS WALK.
-/
import Derived.Test.YbulkayraC0
import Derived.Laws.CopyOwn
import Derived.Deep.DeepCutAuto
import Derived.OpenShut
namespace Go.Proofs.Ybulkayra.lawC
open Go.RowKit Go.Proofs.Ybulkayra

theorem hide {p : Prop} (h : p) : Hid p := h

/-- WHAT THE WALK IS TOLD OF A SLICE OF INTEGERS THAT CAME IN: it is nil; or it leads to a row of 'cap' cells, the numbers 'zs' (the first 'len' are its elements, the rest its spare room), each fitting its kind. -/
def IsRow (k : IntKind) (w : World) (a : Option Addr) (len cap : Nat) (zs : List Int) : Prop :=
  (a = none ∧ len = 0 ∧ cap = 0 ∧ zs = []) ∨
  ∃ x, a = some x ∧ len ≤ cap ∧ cap ≤ maxLen ∧ zs.length = cap ∧ (∀ i, i < zs.length → w.cell? (x.add i) = some (.int k (zs.getD i 0))) ∧ ∀ n ∈ zs, (Lit.int k n).wf = true

theorem tab_cell {w : World} {b : Nat} (h : w.heap[b]? = some (.cells #[.int .i32 97, .int .i32 98, .int .i32 99, .int .i32 233, .int .i32 55296] 38 (0, 0))) (x : Int) : w.cell? ⟨b, (x % 5).toNat, none⟩ = some (.int .i32 (tab x)) := by
  rw [cell_of_row w b _ _ _ _ h]
  have h5 : x % 5 = 0 ∨ x % 5 = 1 ∨ x % 5 = 2 ∨ x % 5 = 3 ∨ x % 5 = 4 := by omega
  unfold tab
  rcases h5 with h | h | h | h | h <;> rw [h] <;> rfl

theorem row_cell {k : IntKind} {w : World} {a : Option Addr} {len cap : Nat} {zs : List Int} (h : IsRow k w a len cap zs) : len ≤ zs.length ∧ (a = none → len = 0 ∧ cap = 0) ∧ ∀ j, j < len → ∃ b off, a = some ⟨b, off, none⟩ ∧ w.cell? ⟨b, off + j, none⟩ = some (.int k (zs.getD j 0)) ∧ (Lit.int k (zs.getD j 0)).wf = true := by
  rcases h with ⟨rfl, rfl, rfl, rfl⟩ | ⟨x, rfl, hl, hc, hz, hcell, hwf⟩
  · exact ⟨Nat.le_refl _, fun _ => ⟨rfl, rfl⟩, fun j hj => absurd hj (Nat.not_lt_zero _)⟩
  · refine ⟨by omega, fun h => by simp at h, fun j hj => ?_⟩
    have hw : (Lit.int k (zs.getD j 0)).wf = true := by
      have e : zs.getD j 0 = zs[j] := by simp [List.getD, show j < zs.length by omega]
      rw [e]
      exact hwf _ (List.getElem_mem _)
    obtain ⟨b, off, rfl, hc⟩ := ints_at hcell (by omega)
    exact ⟨b, off, rfl, hc j (by omega), hw⟩

theorem row_src {k : IntKind} {w wT : World} {a : Option Addr} {len cap : Nat} {zs : List Int} (h : IsRow k w a len cap zs) (hb : Below w.heap.size w wT) (hp : 0 < len) :
    ∃ ad, a = some ad ∧ ∀ j v, ((zs.take len).map (Value.int k))[j]? = some v → wT.cell? (ad.add j) = some v := by
  obtain ⟨hl, -, hr⟩ := row_cell h
  obtain ⟨b, off, rfl, -, -⟩ := hr 0 hp
  refine ⟨_, rfl, fun j v hv => ?_⟩
  obtain ⟨hj, hjv⟩ := List.getElem?_eq_some_iff.1 hv
  simp only [List.length_map, List.length_take] at hj
  obtain ⟨b', off', e, hc, -⟩ := hr j (by omega)
  simp only [Option.some.injEq, Addr.mk.injEq] at e
  obtain ⟨rfl, rfl, -⟩ := e
  have hlt : b < w.heap.size := World.block_lt_of_cell? w ⟨b, off + j, none⟩ hc
  rw [Addr.add_lit, hb.cell (p := ⟨b, off + j, none⟩) hlt, hc, ← hjv]
  simp [List.getD, show j < zs.length by omega]

theorem row_src2 {k : IntKind} {w wT : World} {a : Option Addr} {len cap : Nat} {zs : List Int} (h : IsRow k w a len cap zs) (hb : Below w.heap.size w wT) :
    ∀ ad, a = some ad → ∀ j v, ((zs.take len).map (Value.int k))[j]? = some v → wT.cell? (ad.add j) = some v := by
  intro ad ha j v hv
  by_cases hp : 0 < len
  · obtain ⟨ad', h1, h2⟩ := row_src h hb hp
    rw [h1] at ha
    obtain rfl := Option.some.inj ha
    exact h2 j v hv
  · obtain rfl : len = 0 := by omega
    simp at hv

set_option maxHeartbeats 1000000 in
set_option maxRecDepth 100000 in
theorem walk (a0 : Option Addr) (len0 cap0 : Nat) (z0 : List Int) (a1 : Option Addr) (len1 cap1 : Nat) (z1 : List Int) (a2 : Int) (a3 : Int) (a4 : Bool) (w : World) (w0 : IsRow .i32 w a0 len0 cap0 z0) (w1 : IsRow .u8 w a1 len1 cap1 z1) (w2 : (Lit.int .u8 a2).wf = true) (w3 : (Lit.int .u8 a3).wf = true) :
    Calls Yba.prog 4 #[.slice a0 len0 cap0, .slice a1 len1 cap1, .int .u8 a2, .int .u8 a3, .bool a4] w fun e w' => e = .returned (.bool true) ∧ Below w.heap.size w w' := by
  by_cases hl0 : len0 ≤ 1024
  · by_cases hl1 : len1 ≤ 1024
    · obtain ⟨i0, hi, hz0, hz1, hz2⟩ := info_parts Yba.info21
      obtain ⟨hz1l, hnil1, hrow1'⟩ := row_cell w1
      have hrow1 := hide hrow1'
      clear hrow1' w1
      go_enter Yba.func4, Yba.ntmps4
      go_wp2_with (at_make; refine wpList_make_full _ rfl _ _ 27 rfl (w.heap.size + 1) 21 i0 (.int .i32 0) 1 Yba.underlying27 hi hz0 hz1 _ _ _ _ len1 rfl rfl (by omega) (by omega) ?b2 ?b3 ?b4 ?_)
      case b2 => rw [hz2]; omega
      case b3 => unfold maxLen; omega
      case b4 => simp
      intro wA hownA hgA
      have hbA : Below (w.heap.size + 1) (w.alloc (.cells #[.int .i32 97, .int .i32 98, .int .i32 99, .int .i32 233, .int .i32 55296] 38)) wA := (Below.refl _ _).grown hgA (by simp) (by simp)
      have hOwnA : Own wA (w.heap.size + 1) (w.heap.size + 1) len1 len1 (rowAt z1 len1 0) := ⟨rowAt_len hz1l (Nat.zero_le _), by rw [rowAt_zero]; simpa [toList_madeCells_one] using hownA⟩
      clear hownA hgA
      go_wp2_with fail
      go_loopw [44] (fun i wr => ∃ k : Nat, k ≤ len1 ∧ i = .int .i64 k ∧ Own wr (w.heap.size + 1) (w.heap.size + 1) len1 len1 (rowAt z1 len1 k) ∧ Below (w.heap.size + 1) (w.alloc (.cells #[.int .i32 97, .int .i32 98, .int .i32 99, .int .i32 233, .int .i32 55296] 38)) wr) (fun i _ => len1 - (intOf i).toNat)
      case atStart => exact ⟨0, Nat.zero_le _, rfl, hOwnA, hbA⟩
      case round =>
        obtain ⟨k, hk, rfl, hown, hbel⟩ := hrel
        by_cases hlt : k < len1
        · obtain ⟨b, off, rfl, hc, hwf⟩ := (hrow1.out) k hlt
          have hblt : b < w.heap.size := World.block_lt_of_cell? w ⟨b, off + k, none⟩ hc
          obtain ⟨x, hxe⟩ : ∃ x, x = z1.getD k 0 := ⟨_, rfl⟩
          rw [← hxe] at hc hwf
          have HX := hide hxe
          clear hxe
          have hcr : wr.cell? ⟨b, off + k, none⟩ = some (.int .u8 x) := (hbel.cell (p := ⟨b, off + k, none⟩) (show b < w.heap.size + 1 by omega)).trans ((World.cell?_of_block (a := ⟨b, off + k, none⟩) (Below.heap_alloc w _ b hblt)).trans hc)
          obtain ⟨hx0, hx1⟩ := bounds_u8 hwf
          have htab := tab_cell (w := wr) (b := w.heap.size) ((hbel.block w.heap.size (by simp)).trans (heap_alloc_new w _)) x
          have hst := hown.2.frozenAt k
          obtain ⟨y, hcell⟩ : ∃ y, wr.cell? ⟨w.heap.size + 1, k, none⟩ = some y := ⟨_, hown.cell hlt⟩
          have hsz : w.heap.size + 1 < wr.heap.size := hown.hi
          clear hc hwf
          go_wp2_with fail
          go_roundw
          case rel => exact ⟨k + 1, by omega, by go_num, by rw [← rowAt_set hz1l hlt, ← HX.out]; exact hown.stored k _, hbel.setCell (by simp) _⟩
          case measure => simp [intOf]; omega
        · obtain rfl : k = len1 := by omega
          obtain ⟨rs, hrse⟩ : ∃ rs, rs = (z1.take k).map tab := ⟨_, rfl⟩
          rw [rowAt_full, ← hrse] at hown
          have hbw : Below w.heap.size w wr := ((Below.refl w.heap.size w).alloc (Nat.le_refl _) _).trans (hbel.mono (by omega))
          have hrt : Hid (∀ j, j < k → vr (rs.getD j 0) = (rs.getD j 0 != 55296)) := by
            show ∀ j, _
            intro j hj
            have e : rs.getD j 0 = tab (z1.getD j 0) := by
              rw [hrse]
              simp [List.getD, hj, show j < z1.length by omega]
            rw [e]
            exact vr_tab _
          have hrl : Hid (rs.length = k) := hown.1
          clear hrse hbel hbA hOwnA hrow1 hnil1 hk hlt
          obtain ⟨h20, h21⟩ := bounds_u8 w2
          obtain ⟨h30, h31⟩ := bounds_u8 w3
          obtain ⟨mn, hmn⟩ : ∃ mn : Nat, a2 % 5 = (mn : Int) := ⟨(a2 % 5).toNat, by omega⟩
          obtain ⟨mx, hmx⟩ : ∃ mx : Int, mx = if a3 % 4 = 0 then -1 else a2 % 5 + a3 % 4 - 1 := ⟨_, rfl⟩
          have HMX := hide hmx
          clear hmx
          go_upto_if 63 with fail
          go_cut [16, 15] (fun s t wc => s = .int .i64 mx ∧ t = .int .i64 (mn : Int) ∧ wr = wc)
          case first =>
            by_cases h4 : a3 % 4 = 0
            · go_wp2_with fail
              go_meet
              exact ⟨by rw [HMX.out, if_pos h4], rfl, rfl⟩
            · have h4' : (a3 % 4 != 0) = true := by simpa using h4
              go_wp2_with fail
              go_meet
              exact ⟨by rw [HMX.out, if_neg h4, hmn], rfl, rfl⟩
          case rest =>
            obtain ⟨rfl, rfl, rfl⟩ := hcut
            have HN := hown.hi
            have hLit : Node (wr.alloc (Obj.cells #[Value.int IntKind.u8 1, Value.slice (some ⟨w.heap.size + 1, 0, none⟩) k k, Value.slice none 0 0, Value.int IntKind.u8 0, Value.int IntKind.i64 0, Value.string { data := #[] }, Value.int IntKind.i64 0, Value.int IntKind.i64 0, Value.bool false, Value.slice none 0 0] 36)) wr.heap.size (pre rs) (rs.all vr) (rs.all vr) := by
              refine node_lit (b := w.heap.size + 1) (m := k) (c := k) ?_ ?_ hrl.out (Nat.le_refl _) (by omega) ?_
              · rw [cell_new _ _ _ _ _ rfl]; rfl
              · rw [cell_new _ _ _ _ _ rfl]; rfl
              · intro j hj
                rw [cell_old _ _ _ _ HN]
                exact hown.cell hj
            go_upto_if 73 with fail
            go_cut [17] (fun s wd => ∃ nb, s = .pointer (some ⟨nb, 0, none⟩) ∧ Node wd nb (pre rs) (rs.all vr) (rs.all vr && !a4) ∧ Below wr.heap.size wr wd)
            case first =>
              cases a4
              · go_wp2_with fail
                go_meet
                exact ⟨_, rfl, by rw [Bool.not_false, Bool.and_true]; exact hLit, (Below.refl _ _).alloc (Nat.le_refl _) _⟩
              · go_wp2_with fail
                go_meet
                exact ⟨_, rfl, by rw [Bool.not_true, Bool.and_false]; exact node_concat_made hLit (by simp) rfl rfl rfl rfl rfl, ((((Below.refl _ _).alloc (Nat.le_refl _) _).alloc (by simp) _).alloc (by simp; omega) _).alloc (by simp; omega) _⟩
            case rest =>
              obtain ⟨nb, rfl, hnode, hbd⟩ := hcut
              have HN2 : w.heap.size + 1 < wc.heap.size := by have := hbd.size; omega
              clear hLit
              go_wp2_with (at_make; refine wpList_make_full _ rfl _ _ 27 rfl (wc.heap.size + 2) 21 i0 (.int .i32 0) 1 Yba.underlying27 hi hz0 hz1 _ _ _ _ len0 rfl rfl (by omega) (by omega) ?f2 ?f3 ?f4 ?_)
              case f2 => rw [hz2]; omega
              case f3 => unfold maxLen; omega
              case f4 => simp
              intro wT hownT hgT
              have hOT : Own wT (wc.heap.size + 2) (wc.heap.size + 2) len0 len0 (List.replicate len0 0) := ⟨by simp, by simpa [toList_madeCells_one] using hownT⟩
              have hDT : ∀ j, j < wc.heap.size + 2 → wT.heap[j]? = ((wc.alloc (Obj.cells #[Value.pointer (some ⟨nb, 0, none⟩)] 28)).alloc (Obj.cells #[Value.int IntKind.u8 5, Value.slice none 0 0, Value.slice none 0 0, Value.int IntKind.u8 0, Value.int IntKind.i64 0, Value.string { data := #[] }, Value.int IntKind.i64 ↑mn, Value.int IntKind.i64 mx, Value.bool false, Value.slice (some ⟨wc.heap.size, 0, none⟩) 1 1] 36)).heap[j]? := fun j hj => hgT.block j (by simpa using hj) (by simp)
              have hc6 : wT.cell? ⟨wc.heap.size + 1, 6, none⟩ = some (.int .i64 (mn : Int)) := by
                rw [World.cell?_of_block (a := ⟨wc.heap.size + 1, 6, none⟩) (hDT _ (by simp)), cell_new _ _ _ _ _ (by simp)]; rfl
              have hc7 : wT.cell? ⟨wc.heap.size + 1, 7, none⟩ = some (.int .i64 mx) := by
                rw [World.cell?_of_block (a := ⟨wc.heap.size + 1, 7, none⟩) (hDT _ (by simp)), cell_new _ _ _ _ _ (by simp)]; rfl
              have hc9 : wT.cell? ⟨wc.heap.size + 1, 9, none⟩ = some (.slice (some ⟨wc.heap.size, 0, none⟩) 1 1) := by
                rw [World.cell?_of_block (a := ⟨wc.heap.size + 1, 9, none⟩) (hDT _ (by simp)), cell_new _ _ _ _ _ (by simp)]; rfl
              have hc0 : wT.cell? ⟨wc.heap.size, 0, none⟩ = some (.pointer (some ⟨nb, 0, none⟩)) := by
                rw [World.cell?_of_block (a := ⟨wc.heap.size, 0, none⟩) (hDT _ (by simp)), cell_old _ _ _ _ (by simp), cell_new _ _ _ _ _ rfl]; rfl
              have hbT : Below wc.heap.size wc wT := (((Below.refl wc.heap.size wc).alloc (Nat.le_refl _) _).alloc (by simp) _).grown hgT (by simp; omega) (by simp)
              have hbT0 : Below w.heap.size w wT := hbw.trans ((hbd.mono (by omega)).trans (hbT.mono (by omega)))
              clear hownT hgT hDT
              have A1 : Hid (0 < ((z0.take len0).map (Value.int .i32)).length → some (⟨wc.heap.size + 2, 0, none⟩ : Addr) = some ⟨wc.heap.size + 2, 0, none⟩ ∧ ∃ ad, a0 = some ad ∧ ∀ j v, ((z0.take len0).map (Value.int .i32))[j]? = some v → wT.cell? (ad.add j) = some v) :=
                fun hp => ⟨rfl, row_src w0 hbT0 (by simp at hp; omega)⟩
              have A0 : Hid (((z0.take len0).map (Value.int .i32)).length = Nat.min len0 len0) := by
                have := (row_cell w0).1
                show _ = _
                simp; omega
              obtain ⟨cs, hcs⟩ : ∃ cs, cs = (z0.take len0).map (Value.int .i32) := ⟨_, rfl⟩
              rw [← hcs] at A0 A1
              have HCS := hide hcs
              have HRW := hide hOT.row
              have hmr : List.length ((List.replicate len0 (0 : Int)).map (Value.int .i32)) = len0 := by simp
              have A2 : Hid (0 + cs.length ≤ List.length ((List.replicate len0 (0 : Int)).map (Value.int .i32))) := by
                show _ ≤ _
                rw [hmr, A0.out]; simp
              have A3 : Hid (∀ v ∈ cs, v.oneCell' = true) := by rw [hcs]; exact ints_oneCell _ _
              obtain ⟨cur, hcur⟩ : ∃ cur, cur = (List.replicate len0 (0 : Int)).map (Value.int .i32) := ⟨_, rfl⟩
              rw [← hcur] at A2 HRW
              have HCU := hide hcur
              clear hcs hcur hmr
              go_upto_region 20 with (refine wpList_copy_splice rfl (.tmp 89) (.tmp 90) 27 27 rfl 21 Yba.underlying27 rfl _ _ _ _ _ _ rfl rfl (wc.heap.size + 2) 0 cur 21 HRW.out cs A0.out A1.out A2.out A3.out (wc.heap.size + 2) wT (Below.refl _ _) (Nat.le_refl _) ?_; intro wU HU hbU)
              have hOU : Own wU (wc.heap.size + 2) (wc.heap.size + 2) len0 len0 (z0.take len0) := by
                refine own_of_row ?_ (Nat.le_refl _) (by have := (row_cell w0).1; simp; omega) (by unfold maxLen; omega)
                rw [HU.out, ← HCS.out]
                have : splice cur 0 cs = cs := by
                  have hl := A0.out
                  have hl2 : cur.length = len0 := by rw [HCU.out]; simp
                  simp only [splice, List.take_zero, List.nil_append, Nat.zero_add]
                  rw [List.drop_of_length_le (by rw [hl, hl2]; simp), List.append_nil]
                rw [this]
              have hd6 : wU.cell? ⟨wc.heap.size + 1, 6, none⟩ = some (.int .i64 (mn : Int)) := (hbU.cell (p := ⟨wc.heap.size + 1, 6, none⟩) (by simp)).trans hc6
              have hd7 : wU.cell? ⟨wc.heap.size + 1, 7, none⟩ = some (.int .i64 mx) := (hbU.cell (p := ⟨wc.heap.size + 1, 7, none⟩) (by simp)).trans hc7
              have hd9 : wU.cell? ⟨wc.heap.size + 1, 9, none⟩ = some (.slice (some ⟨wc.heap.size, 0, none⟩) 1 1) := (hbU.cell (p := ⟨wc.heap.size + 1, 9, none⟩) (by simp)).trans hc9
              have hd0 : wU.cell? ⟨wc.heap.size, 0, none⟩ = some (.pointer (some ⟨nb, 0, none⟩)) := (hbU.cell (p := ⟨wc.heap.size, 0, none⟩) (by simp)).trans hc0
              have hPf : Pfx wU (wc.heap.size + 2) nb (pre rs) (rs.all vr) (rs.all vr && !a4) := hnode.2 _ _ (by omega) (fun j hj => (hbU.block j (by omega)).trans (hbT.block j hj))
              have hbcU : Below wc.heap.size wc wU := hbT.trans (hbU.mono (by omega))
              have hCall := hide (repeat_all (wc.heap.size + 2) (wc.heap.size + 1) wc.heap.size 1 nb (wc.heap.size + 2) len0 len0 mn mx (pre rs) (rs.all vr) (rs.all vr && !a4) (z0.take len0) wU hd6 hd7 hd9 hd0 (by omega) (by omega) hPf (by have := pre_le rs; have := hrl.out; omega) hOU (by omega) (by have := hOU.hi; omega))
              clear hc6 hc7 hc9 hc0 hd6 hd7 hd9 hd0 hPf hbU hbT hOT HRW A0 A1 A2 A3 hbT0 HU HCU HCS
              obtain ⟨X, hX⟩ : ∃ X, X = rpx mn mx (pre rs) (rs.all vr) := ⟨_, rfl⟩
              obtain ⟨F, hF⟩ : ∃ F, F = rpf mn mx (rs.all vr) (rs.all vr && !a4) := ⟨_, rfl⟩
              obtain ⟨q, hq⟩ : ∃ q, q = rpq mn mx (pre rs) (rs.all vr) := ⟨_, rfl⟩
              rw [← hX, ← hF, ← hq] at hCall
              have HX := hide hX
              have HF := hide hF
              have HQ := hide hq
              clear hX hF hq
              go_wp2_with fail
              refine hCall.out.mono ?_
              rintro e wG ⟨g, cap, N, rfl, hOG, hbG⟩
              clear hCall
              have hbcG : Below wc.heap.size wc wG := hbcU.trans (hbG.mono (by omega))
              have hOrun : Own wG (w.heap.size + 1) (w.heap.size + 1) k k rs := (hown.keep ((hbcG.block _ HN2).trans (hbd.block _ HN)))
              have hbwG : Below w.heap.size w wG := hbw.trans ((hbd.mono (by omega)).trans (hbcG.mono (by omega)))
              clear hOU hbcU hbG
              go_upto_region 21 with fail
              go_cut [23] (fun s wd => s = .int .i64 0 ∧ wG = wd)
              case first => go_wp2_with fail; go_meet; exact ⟨rfl, rfl⟩
              case rest =>
                obtain ⟨rfl, rfl⟩ := hcut
                go_step
                go_step
                go_cut [23] (fun s wd => s = .int .i64 ((pre rs).length : Int) ∧ wG = wd)
                case first =>
                  go_wp2_with fail
                  go_loop [23] (fun i => ∃ t : Nat, t ≤ k ∧ i = .int .i64 t ∧ Hid (∀ j, j < t → (rs.getD j 0 != 55296) = true)) (fun i => k - (intOf i).toNat)
                  case atStart => exact ⟨0, Nat.zero_le _, rfl, fun j hj => by omega⟩
                  case round =>
                    obtain ⟨t, ht, rfl, hv⟩ := hrel
                    by_cases hlt : t < k
                    · obtain ⟨x, hxe⟩ : ∃ x, x = rs.getD t 0 := ⟨_, rfl⟩
                      have hcx : wG.cell? ⟨w.heap.size + 1, t, none⟩ = some (.int .i32 x) := by rw [hxe]; exact hOrun.cell hlt
                      have HXE := hide hxe
                      clear hxe
                      cases hx : (x != 55296)
                      · go_wp2_with fail
                        go_meet
                        refine ⟨congrArg _ (congrArg _ (pre_reach hrl.out hrt.out ht hv.out (fun _ => by rw [← HXE.out]; exact hx)).1.symm), rfl⟩
                      · go_wp2_with fail
                        go_round
                        case rel => exact ⟨t + 1, by omega, by go_num, fun j hj => by rcases Nat.lt_succ_iff_lt_or_eq.1 hj with h | rfl; exact hv.out j h; rw [← HXE.out]; exact hx⟩
                        case measure => simp [intOf]; omega
                    · go_wp2_with fail
                      go_meet
                      exact ⟨congrArg _ (congrArg _ (pre_reach hrl.out hrt.out ht hv.out (fun h => absurd h hlt)).1.symm), rfl⟩
                case rest =>
                  obtain ⟨rfl, rfl⟩ := hcut
                  have hpl := pre_le rs
                  have hpk : (pre rs).length ≤ k := by have := hrl.out; omega
                  go_wp2_with (at_make; refine wpList_make_own _ rfl _ _ 27 rfl wG.heap.size 21 i0 (.int .i32 0) 1 Yba.underlying27 hi hz0 hz1 _ _ _ (len0 + 5 * k) rfl rfl (by omega) ?g2 ?g3 ?g4 ?_)
                  case g2 => rw [hz2]; omega
                  case g3 => unfold maxLen; omega
                  case g4 => exact Nat.le_refl _
                  intro wH hOH hgH
                  have hbH : Below wG.heap.size wG wH := (Below.refl _ _).grown hgH (Nat.le_refl _) (by simp)
                  have hbwH : Below w.heap.size w wH := hbwG.trans (hbH.mono hbwG.size)
                  have hz0l := (row_cell w0).1
                  have hz0n := hide (row_cell w0).2.1
                  have A0 : Hid (((z0.take len0).map (Value.int .i32)).length = len0 * 1) := by show _ = _; simp; omega
                  have A1 := hide (row_src2 w0 hbwH)
                  have A3 : Hid (∀ v ∈ (z0.take len0).map (Value.int .i32), v.oneCell' = true) := ints_oneCell _ _
                  obtain ⟨txt, htx⟩ : ∃ txt, txt = (z0.take len0).map (Value.int .i32) := ⟨_, rfl⟩
                  rw [← htx] at A0 A1 A3
                  have HTX := hide htx
                  clear htx hgH
                  go_upto_region 27 with (at_builtin; refine wpList_append_fits_any _ rfl (.tmp 123) (.tmp 124) 27 rfl wG.heap.size 21 i0 1 Yba.underlying27 hi hz1 wG.heap.size 0 (len0 + 5 * k) [] rfl hOH a0 len0 cap0 txt rfl A0.out hz0n.out A1.out A3.out (by omega) ?_; intro wI hOI hgI)
                  go_cut [26, 27] (fun s t wd => s = .bool false ∧ t = .bool false ∧ wI = wd)
                  case first => go_wp2_with fail; go_meet; exact ⟨rfl, rfl, rfl⟩
                  case rest =>
                    obtain ⟨rfl, rfl, rfl⟩ := hcut
                    go_step
                    go_step
                    have hOI' : Own wI wG.heap.size wG.heap.size len0 (len0 + 5 * k) (z0.take len0) := ⟨by simp; omega, by rw [← HTX.out]; simpa using hOI⟩
                    have hbI : Below wG.heap.size wG wI := hbH.grown hgI hbH.size (by simp)
                    have hOrI : Own wI (w.heap.size + 1) (w.heap.size + 1) k k rs := hOrun.keep (hbI.block _ hOrun.hi)
                    have hNl : Hid (N = len0 + q.length) := by have := hOG.1; simp at this; show _ = _; omega
                    have hval : ((pre rs).length : Int) = (k : Int) ↔ rs.all vr = true := by
                      rw [all_iff, hrl.out]; simp; omega
                    clear hOI hgI hOH hbH hbwH A0 A1 A3
                    go_cut [24, 25, 26, 27] (fun _ s t u wd => s = .slice (some ⟨wG.heap.size, 0, none⟩) N (len0 + 5 * k) ∧ t = .bool X ∧ u = .bool F ∧ Own wd wG.heap.size wG.heap.size N (len0 + 5 * k) (z0.take len0 ++ q) ∧ Below wG.heap.size wG wd)
                    case first =>
                      have HV := hide hval
                      clear hval
                      cases hm0 : (mx == 0)
                      · cases hn0 : ((mn : Int) == 0)
                        · have hn0' : (mn == 0) = false := by simpa using hn0
                          cases hall : rs.all vr
                          · have hk1 : (((pre rs).length : Int) == (k : Int)) = false := by
                              have := HV.out; rw [hall] at this; simpa using this
                            have hq0 : Hid (q = pre rs) := by show q = _; rw [HQ.out, rpq, if_neg (by simp [hm0]), if_neg (by simp [hn0']), if_neg (by simp [hall])]
                            have A0 : Hid (((pre rs).map (Value.int .i32)).length = (pre rs).length * 1) := by show _ = _; simp
                            have A1 : Hid (∀ j u, ((pre rs).map (Value.int .i32))[j]? = some u → wI.cell? ((⟨w.heap.size + 1, 0, none⟩ : Addr).add j) = some u) := by
                              have := cells_take (w := wI) (b := w.heap.size + 1) (off := 0) hrl.out (fun j hj => by rw [Nat.zero_add]; exact hOrI.cell hj) (pre rs).length
                              rw [← pre_take] at this
                              exact this
                            have A3 : Hid (∀ v ∈ (pre rs).map (Value.int .i32), v.oneCell' = true) := ints_oneCell _ _
                            obtain ⟨src, hsr⟩ : ∃ src, src = (pre rs).map (Value.int .i32) := ⟨_, rfl⟩
                            rw [← hsr] at A0 A1 A3
                            have HSR := hide hsr
                            clear hsr
                            have hOx := hOI'.2
                            go_wp2_with (at_builtin; refine wpList_append_fits _ rfl (.tmp 159) (.tmp 162) 27 rfl wG.heap.size 21 i0 1 Yba.underlying27 hi hz1 wG.heap.size len0 (len0 + 5 * k) _ rfl hOx ⟨w.heap.size + 1, 0, none⟩ _ _ src rfl A0.out A1.out A3.out (by omega) ?_; intro wJ hOJ hgJ)
                            go_meet
                            have hN0 : N = len0 + (pre rs).length := by rw [hNl.out, hq0.out]
                            refine ⟨by rw [hN0], by rw [HX.out, rpx, if_neg (by simp [hm0]), if_neg (by simp [hn0']), if_neg (by simp [hall])], by rw [HF.out, rpf, if_neg (by simp [hm0]), if_neg (by simp [hn0']), if_neg (by simp [hall])], ?_, hbI.grown hgJ hbI.size (by simp)⟩
                            rw [hq0.out, hN0]
                            refine ⟨by simp [hOI'.1], ?_⟩
                            rw [HSR.out] at hOJ
                            simpa using hOJ
                          · have hk1 : (((pre rs).length : Int) == (k : Int)) = true := by
                              have := HV.out; rw [hall] at this; simpa using this
                            have hpr : Hid (pre rs = rs) := pre_all hall
                            have hq0 : Hid (q = rep rs mn) := by show q = _; rw [HQ.out, rpq, if_neg (by simp [hm0]), if_neg (by simp [hn0']), if_pos (by simp [hall]), hpr.out]
                            have A0 : Hid ((rs.map (Value.int .i32)).length = k * 1) := by show _ = _; simp [hrl.out]
                            have A3 : Hid (∀ v ∈ rs.map (Value.int .i32), v.oneCell' = true) := ints_oneCell _ _
                            obtain ⟨src, hsr⟩ : ∃ src, src = rs.map (Value.int .i32) := ⟨_, rfl⟩
                            rw [← hsr] at A0 A3
                            have HSR := hide hsr
                            clear hsr
                            go_wp2_with fail
                            clear hk1
                            go_loopw [25, 28] (fun s i wr => ∃ t M : Nat, t ≤ mn ∧ i = .int .i64 t ∧ s = .slice (some ⟨wG.heap.size, 0, none⟩) M (len0 + 5 * k) ∧ Own wr wG.heap.size wG.heap.size M (len0 + 5 * k) (z0.take len0 ++ rep rs t) ∧ Below wG.heap.size wG wr ∧ Hid (M = len0 + t * k)) (fun _ i _ => mn - (intOf i).toNat)
                            case atStart => exact ⟨0, len0, Nat.zero_le _, rfl, rfl, by simpa [rep] using hOI', hbI, by show _ = _; simp⟩
                            case round =>
                              obtain ⟨t, M, ht, rfl, rfl, hOr, hbr, hM⟩ := hrel
                              by_cases hlt : t < mn
                              · have hroom : M + k ≤ len0 + 5 * k := by
                                  have h1 := hM.out
                                  have h2 : (t + 1) * k ≤ 5 * k := Nat.mul_le_mul_right k (by omega)
                                  rw [Nat.add_mul, Nat.one_mul] at h2
                                  omega
                                have hOrr : Own wr (w.heap.size + 1) (w.heap.size + 1) k k rs := hOrun.keep (hbr.block _ hOrun.hi)
                                have A1 : Hid (∀ j u, src[j]? = some u → wr.cell? ((⟨w.heap.size + 1, 0, none⟩ : Addr).add j) = some u) := by
                                  rw [HSR.out]
                                  exact cells_all hrl.out (fun j hj => by rw [Nat.zero_add]; exact hOrr.cell hj)
                                have hOx := hOr.2
                                go_wp2_with (at_builtin; refine wpList_append_fits _ rfl (.tmp 131) (.tmp 132) 27 rfl wG.heap.size 21 i0 1 Yba.underlying27 hi hz1 wG.heap.size M (len0 + 5 * k) _ rfl hOx ⟨w.heap.size + 1, 0, none⟩ _ _ src rfl A0.out A1.out A3.out hroom ?_; intro wJ hOJ hgJ)
                                go_roundw
                                case rel =>
                                  refine ⟨t + 1, M + k, by omega, by go_num, rfl, ⟨?_, ?_⟩, hbr.grown hgJ hbr.size (by simp), ?_⟩
                                  · have h1 := hOr.1
                                    simp only [List.length_append] at h1
                                    simp only [rep, List.length_append, hrl.out]
                                    omega
                                  · rw [HSR.out] at hOJ
                                    simpa [rep] using hOJ
                                  · show _ = _
                                    rw [hM.out, Nat.add_mul, Nat.one_mul]; omega
                                case measure => simp [intOf]; omega
                              · obtain rfl : t = mn := by omega
                                cases hq : ((t : Int) == mx)
                                all_goals
                                  go_wp2_with fail
                                  go_meet
                                  have hN0 : N = M := by
                                    have h1 := hOr.1
                                    rw [hNl.out, hq0.out]
                                    simp only [List.length_append] at h1
                                    have h2 : (z0.take len0).length = len0 := hOI'.1
                                    omega
                                  have hX0 : X = (((t : Int) == mx) || rs.isEmpty) := by rw [HX.out, rpx, if_neg (by simp [hm0]), if_neg (by simp [hn0']), if_pos (by simp [hall]), hpr.out]
                                  refine ⟨by rw [hN0], ?_, ?_, ?_, hbr⟩
                                  · rw [hX0, hq, empty_iff rs k hrl.out]; rfl
                                  · rw [HF.out, rpf, if_neg (by simp [hm0]), if_neg (by simp [hn0']), if_pos (by simp [hall]), hall]; rfl
                                  · rw [hq0.out, hN0]; exact hOr
                        · have hn0' : (mn == 0) = true := by simpa using hn0
                          have hq0 : q = [] := by rw [HQ.out, rpq, if_neg (by simp [hm0]), if_pos hn0']
                          have hN0 : N = len0 := by rw [hNl.out, hq0]; simp
                          have hX0 : Hid (X = (rs.all vr && (pre rs).isEmpty)) := by show X = _; rw [HX.out, rpx, if_neg (by simp [hm0]), if_pos hn0']
                          have hF0 : Hid (F = true) := by show F = _; rw [HF.out, rpf, if_neg (by simp [hm0]), if_pos hn0']
                          have hN1 := hide hN0
                          have hq1 := hide hq0
                          clear hN0 hq0
                          cases hall : rs.all vr
                          · have hk1 : (((pre rs).length : Int) == (k : Int)) = false := by
                              have := HV.out; rw [hall] at this; simpa using this
                            go_wp2_with fail
                            go_meet
                            refine ⟨by rw [hN1.out], by rw [hX0.out, hall]; rfl, by rw [hF0.out], ?_, hbI⟩
                            rw [hq1.out, List.append_nil, hN1.out]
                            exact hOI'
                          · have hk1 : (((pre rs).length : Int) == (k : Int)) = true := by
                              have := HV.out; rw [hall] at this; simpa using this
                            go_wp2_with fail
                            go_meet
                            refine ⟨by rw [hN1.out], by rw [hX0.out, hall, pre_all hall, empty_iff rs k hrl.out]; rfl, by rw [hF0.out], ?_, hbI⟩
                            rw [hq1.out, List.append_nil, hN1.out]
                            exact hOI'
                      · go_wp2_with fail
                        go_meet
                        have hq0 : q = [] := by rw [HQ.out, rpq, if_pos hm0]
                        have hN0 : N = len0 := by rw [hNl.out, hq0]; simp
                        refine ⟨by rw [hN0], by rw [HX.out, rpx, if_pos hm0], by rw [HF.out, rpf, if_pos hm0], ?_, hbI⟩
                        rw [hq0, List.append_nil, hN0]
                        exact hOI'
                    case rest =>
                      obtain ⟨rfl, rfl, rfl, hOW, hbW⟩ := hcut
                      obtain ⟨L, hL⟩ : ∃ L, L = z0.take len0 ++ q := ⟨_, rfl⟩
                      rw [← hL] at hOW hOG
                      have hgl := hOG.hi
                      have hOG2 := hOG.keep (hbW.block g hgl)
                      have hNle := hOW.le
                      have hbE : Below w.heap.size w wc := hbwG.trans (hbW.mono hbwG.size)
                      clear hL hOG hbW hbwG hOrun hbcG hval hOI' hbI hOrI
                      go_wp2_with fail
                      go_loopw [181] (fun i wr => ∃ t : Nat, t ≤ N ∧ i = .int .i64 t ∧ (∀ j, wr.cell? ⟨g, j, none⟩ = wc.cell? ⟨g, j, none⟩) ∧ (∀ j, wr.cell? ⟨wG.heap.size, j, none⟩ = wc.cell? ⟨wG.heap.size, j, none⟩) ∧ Below w.heap.size w wr) (fun i _ => N - (intOf i).toNat)
                      case atStart => exact ⟨0, Nat.zero_le _, rfl, fun _ => rfl, fun _ => rfl, hbE⟩
                      case round =>
                        obtain ⟨t, ht, rfl, hs1, hs2, hbx⟩ := hrel
                        by_cases hlt : t < N
                        · obtain ⟨x, hxe⟩ : ∃ x, x = L.getD t 0 := ⟨_, rfl⟩
                          have hc1 : wr.cell? ⟨g, t, none⟩ = some (.int .i32 x) := by rw [hs1, hxe]; exact hOG2.cell hlt
                          have hc2 : wr.cell? ⟨wG.heap.size, t, none⟩ = some (.int .i32 x) := by rw [hs2, hxe]; exact hOW.cell hlt
                          have H1 := hide hs1
                          have H2 := hide hs2
                          clear hxe hs1 hs2
                          go_wp2_with fail
                          go_quiet (fail)
                          go_wp2_with fail
                          go_roundw
                          case rel => exact ⟨t + 1, by omega, by go_num, H1.out, H2.out, ⟨hbx.os, hbx.tape, hbx.output, hbx.size, hbx.block⟩⟩
                          case measure => simp [intOf]; omega
                        · clear hs1 hs2
                          go_wp2_with fail
                          go_ret
                          exact ⟨rfl, hbx⟩
    · go_enter Yba.func4, Yba.ntmps4
      go_wp2_with fail
      go_ret
      exact ⟨rfl, Below.refl _ _⟩
  · go_enter Yba.func4, Yba.ntmps4
    go_wp2_with fail
    go_ret
    exact ⟨rfl, Below.refl _ _⟩

end Go.Proofs.Ybulkayra.lawC
