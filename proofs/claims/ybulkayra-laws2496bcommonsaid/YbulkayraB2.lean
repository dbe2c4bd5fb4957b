/-
  THE WALK OF zzs2496bbuild.
-/
import Derived.Test.YbulkayraB1
import Derived.Laws.CopyOwn
import Derived.OpenShut
namespace Go.Proofs.Ybulkayra.lawB
open Go.RowKit Go.Proofs.Ybulkayra

/-- What is told of a slice of integers that came in: nil; or a row of 'cap' cells. -/
def IsRow (k : IntKind) (w : World) (a : Option Addr) (len cap : Nat) (zs : List Int) : Prop :=
  (a = none ∧ len = 0 ∧ cap = 0 ∧ zs = []) ∨
  ∃ x, a = some x ∧ len ≤ cap ∧ cap ≤ maxLen ∧ zs.length = cap ∧ (∀ i, i < zs.length → w.cell? (x.add i) = some (.int k (zs.getD i 0))) ∧ ∀ n ∈ zs, (Lit.int k n).wf = true

theorem row_cell {k : IntKind} {w : World} {a : Option Addr} {len cap : Nat} {zs : List Int} (h : IsRow k w a len cap zs) : len ≤ zs.length ∧ (a = none → len = 0 ∧ cap = 0) ∧ ∀ j, j < len → ∃ b off, a = some ⟨b, off, none⟩ ∧ w.cell? ⟨b, off + j, none⟩ = some (.int k (zs.getD j 0)) ∧ (Lit.int k (zs.getD j 0)).wf = true := by
  rcases h with ⟨rfl, rfl, rfl, rfl⟩ | ⟨x, rfl, hl, hc, hz, hcell, hwf⟩
  · exact ⟨Nat.le_refl _, fun _ => ⟨rfl, rfl⟩, fun j hj => absurd hj (Nat.not_lt_zero _)⟩
  · refine ⟨by omega, fun h => by simp at h, fun j hj => ?_⟩
    have hw : (Lit.int k (zs.getD j 0)).wf = true := by
      have e : zs.getD j 0 = zs[j] := by simp [List.getD, show j < zs.length by omega]
      rw [e]
      exact hwf _ (List.getElem_mem _)
    obtain ⟨b, off, rfl, hc⟩ := ints_at hcell (by omega)
    exact ⟨b, off, rfl, hc j (by omega), hw⟩

theorem IsRow.later {k : IntKind} {w w' : World} {a : Option Addr} {len cap : Nat} {zs : List Int} (h : IsRow k w a len cap zs) (hb : Below w.heap.size w w') : IsRow k w' a len cap zs := by
  rcases h with h | ⟨x, rfl, hl, hc, hz, hcell, hwf⟩
  · exact .inl h
  · exact .inr ⟨x, rfl, hl, hc, hz, fun i hi => (hb.cell (World.block_lt_of_cell? w _ (hcell i hi))).trans (hcell i hi), hwf⟩

/-- The row behind k rounds of 'row[i] = f(zs[i])'. -/
def rowF (f : Int → Int) (zs : List Int) (m k : Nat) : List Int := (zs.take k).map f ++ List.replicate (m - k) 0
theorem rowF_len {f : Int → Int} {zs : List Int} {m k : Nat} (h : m ≤ zs.length) (hk : k ≤ m) : (rowF f zs m k).length = m := by simp [rowF]; omega
theorem rowF_set {f : Int → Int} {zs : List Int} {m k : Nat} (h : m ≤ zs.length) (hk : k < m) : (rowF f zs m k).set k (f (zs.getD k 0)) = rowF f zs m (k + 1) := by
  apply List.ext_getElem?
  intro j
  unfold rowF
  have e : zs.getD k 0 = zs[k] := by simp [List.getD, show k < zs.length by omega]
  rw [e, List.getElem?_set]
  by_cases hj : k = j
  · subst hj
    rw [if_pos rfl, if_pos (by simp; omega), List.getElem?_append_left (by simp; omega)]
    simp [show k < zs.length by omega]
  · rw [if_neg hj]
    by_cases hlt : j < k
    · rw [List.getElem?_append_left (by simp; omega), List.getElem?_append_left (by simp; omega)]
      simp [hlt, show j < k + 1 by omega]
    · rw [List.getElem?_append_right (by simp; omega), List.getElem?_append_right (by simp; omega)]
      simp only [List.length_map, List.length_take, List.getElem?_replicate]
      by_cases hm : j < m
      · rw [if_pos (by omega), if_pos (by omega)]
      · rw [if_neg (by omega), if_neg (by omega)]
theorem rowF_full {f : Int → Int} {zs : List Int} {m : Nat} : rowF f zs m m = (zs.take m).map f := by simp [rowF]
theorem rowF_zero {f : Int → Int} {zs : List Int} {m : Nat} : rowF f zs m 0 = List.replicate m 0 := by simp [rowF]

/-- A node all of whose memory lies from block 'lo' on. -/
def NodeL (lo : Nat) (W : World) (nb : Nat) (p : List Int) (ex fr : Bool) : Prop := ∀ (base : Nat) (w : World), W.heap.size ≤ base → (∀ k, lo ≤ k → k < W.heap.size → w.heap[k]? = W.heap[k]?) → Pfx w base nb p ex fr

theorem NodeL.later {lo : Nat} {W w : World} {nb : Nat} {p : List Int} {ex fr : Bool} (h : NodeL lo W nb p ex fr) (hs : W.heap.size ≤ w.heap.size) (hb : ∀ k, lo ≤ k → k < W.heap.size → w.heap[k]? = W.heap[k]?) : NodeL lo w nb p ex fr :=
  fun base w' h1 h2 => h base w' (Nat.le_trans hs h1) fun k hl hk => (h2 k hl (Nat.lt_of_lt_of_le hk hs)).trans (hb k hl hk)

theorem NodeL.down {lo lo' : Nat} {W : World} {nb : Nat} {p : List Int} {ex fr : Bool} (h : NodeL lo W nb p ex fr) (hl : lo' ≤ lo) : NodeL lo' W nb p ex fr :=
  fun base w' h1 h2 => h base w' h1 fun k hk => h2 k (Nat.le_trans hl hk)

theorem cell_lo {lo : Nat} {W w : World} (h : ∀ k, lo ≤ k → k < W.heap.size → w.heap[k]? = W.heap[k]?) {b o : Nat} {v : Value} (hl : lo ≤ b) (hv : W.cell? ⟨b, o, none⟩ = some v) : w.cell? ⟨b, o, none⟩ = some v :=
  (World.cell?_of_block (a := ⟨b, o, none⟩) (h b hl (World.block_lt_of_cell? W ⟨b, o, none⟩ hv))).trans hv

/-- A slice of runes as it reads: nil and empty; or the numbers p from the head of a block from 'lo' on. -/
def Rd (lo : Nat) (w : World) (a : Option Addr) (n c : Nat) (p : List Int) : Prop :=
  p.length = n ∧ n ≤ c ∧ ((a = none ∧ n = 0 ∧ c = 0) ∨ ∃ b, a = some ⟨b, 0, none⟩ ∧ lo ≤ b ∧ ∀ j, j < n → w.cell? ⟨b, j, none⟩ = some (.int .i32 (p.getD j 0)))

theorem Rd.later {lo : Nat} {W w : World} {a : Option Addr} {n c : Nat} {p : List Int} (h : Rd lo W a n c p) (hb : ∀ k, lo ≤ k → k < W.heap.size → w.heap[k]? = W.heap[k]?) : Rd lo w a n c p := by
  obtain ⟨h1, h2, h3⟩ := h
  refine ⟨h1, h2, ?_⟩
  rcases h3 with h3 | ⟨b, rfl, hl, hc⟩
  · exact .inl h3
  · exact .inr ⟨b, rfl, hl, fun j hj => cell_lo hb hl (hc j hj)⟩

theorem Rd.down {lo lo' : Nat} {W : World} {a : Option Addr} {n c : Nat} {p : List Int} (h : Rd lo W a n c p) (hl : lo' ≤ lo) : Rd lo' W a n c p := by
  obtain ⟨h1, h2, h3⟩ := h
  refine ⟨h1, h2, ?_⟩
  rcases h3 with h3 | ⟨b, rfl, hb, hc⟩
  · exact .inl h3
  · exact .inr ⟨b, rfl, Nat.le_trans hl hb, hc⟩

theorem rd_nil (lo : Nat) (w : World) : Rd lo w none 0 0 [] := ⟨rfl, Nat.le_refl _, .inl ⟨rfl, rfl, rfl⟩⟩

def abc (x : Int) : Int := 97 + x % 3
theorem vr_abc (x : Int) : vr (abc x) = true := by unfold vr abc; simp; omega

theorem all_abc (zs : List Int) : (zs.map abc).all vr = true := by
  rw [List.all_eq_true]
  intro x hx
  obtain ⟨y, _, rfl⟩ := List.mem_map.1 hx
  exact vr_abc y

/-- What the reading says of the alternative that zzs2496bbuild makes. -/
def item (kd : Int) (rs : List Int) : Item :=
  if kd % 5 = 0 then (rs, true, true) else if kd % 5 = 1 then ([], true, true) else if kd % 5 = 2 then ([], true, false) else if kd % 5 = 3 then ([], false, false) else ([rs.headD 97], true, true)

theorem item_len (kd : Int) (rs : List Int) (m : Nat) (h : rs.length ≤ m) (hm : 1 ≤ m) : (item kd rs).1.length ≤ m := by
  unfold item
  split
  · exact h
  · split
    · simp
    · split
      · simp
      · split
        · simp
        · simpa using hm

theorem results_tmp4 {fn : Func} {t u v x : Tmp} (h : fn.results = #[.tmp t, .tmp u, .tmp v, .tmp x]) (tmps : Array Value) (P : Program) (w : World) :
    (results fn tmps).run P w = .ok (.tuple #[tmps.getD t undef, tmps.getD u undef, tmps.getD v undef, tmps.getD x undef]) w := by
  simp [results, h]

def BuildPost (w : World) (kd : Int) (rs : List Int) (e : Ending) (w' : World) : Prop :=
  ∃ nb ap np cp, e = .returned (.tuple #[.pointer (some ⟨nb, 0, none⟩), .slice ap np cp, .bool (item kd rs).2.1, .bool (item kd rs).2.2]) ∧ NodeL w.heap.size w' nb (item kd rs).1 (item kd rs).2.1 (item kd rs).2.2 ∧ Rd w.heap.size w' ap np cp (item kd rs).1 ∧ Below w.heap.size w w'

set_option maxHeartbeats 1000000 in
set_option maxRecDepth 100000 in
theorem build_any (kd : Int) (ao : Option Addr) (m c : Nat) (zs : List Int) (w : World) (hrow : IsRow .u8 w ao m c zs) (hm : m ≤ 1024) (hk0 : 0 ≤ kd) (hk1 : kd ≤ 255) :
    Calls Yba.prog 5 #[.agg #[.int .u8 kd, .slice ao m c]] w fun e w' => BuildPost w kd ((zs.take m).map abc) e w' := by
  obtain ⟨i0, hi, hz0, hz1, hz2⟩ := info_parts Yba.info21
  obtain ⟨hzl, -, hrow1'⟩ := row_cell hrow
  have hrow1 := hide hrow1'
  clear hrow1' hrow
  go_enter Yba.func5, Yba.ntmps5
  go_wp2_with (at_make; refine wpList_make_full _ rfl _ _ 27 rfl (w.heap.size + 1) 21 i0 (.int .i32 0) 1 Yba.underlying27 hi hz0 hz1 _ _ _ _ m rfl rfl (by omega) (by omega) ?b2 ?b3 ?b4 ?_)
  case b2 => rw [hz2]; omega
  case b3 => unfold maxLen; omega
  case b4 => simp
  intro wA hownA hgA
  have hbA : Below (w.heap.size + 1) (w.alloc (.cells #[.int .u8 kd, .slice ao m c] 25)) wA := (Below.refl _ _).grown hgA (by simp) (by simp)
  have hOwnA : Own wA (w.heap.size + 1) (w.heap.size + 1) m m (rowF abc zs m 0) := ⟨rowF_len hzl (Nat.zero_le _), by rw [rowF_zero]; simpa [toList_madeCells_one] using hownA⟩
  have hcA1 : wA.cell? ⟨w.heap.size, 1, none⟩ = some (.slice ao m c) := by
    rw [hbA.cell (p := ⟨w.heap.size, 1, none⟩) (by simp), cell_new _ _ _ _ _ rfl]; rfl
  clear hownA hgA
  go_wp2_with fail
  go_loopw [18] (fun i wr => ∃ k : Nat, k ≤ m ∧ i = .int .i64 k ∧ Own wr (w.heap.size + 1) (w.heap.size + 1) m m (rowF abc zs m k) ∧ Below (w.heap.size + 1) (w.alloc (.cells #[.int .u8 kd, .slice ao m c] 25)) wr) (fun i _ => m - (intOf i).toNat)
  case atStart => exact ⟨0, Nat.zero_le _, rfl, hOwnA, hbA⟩
  case round =>
    obtain ⟨k, hk, rfl, hown, hbel⟩ := hrel
    by_cases hlt : k < m
    · obtain ⟨b, off, rfl, hc, hwf⟩ := (hrow1.out) k hlt
      have hblt : b < w.heap.size := World.block_lt_of_cell? w ⟨b, off + k, none⟩ hc
      obtain ⟨x, hxe⟩ : ∃ x, x = zs.getD k 0 := ⟨_, rfl⟩
      rw [← hxe] at hc hwf
      have HX := hide hxe
      clear hxe
      have hcr : wr.cell? ⟨b, off + k, none⟩ = some (.int .u8 x) := (hbel.cell (p := ⟨b, off + k, none⟩) (show b < w.heap.size + 1 by omega)).trans ((World.cell?_of_block (a := ⟨b, off + k, none⟩) (Below.heap_alloc w _ b hblt)).trans hc)
      obtain ⟨hx0, hx1⟩ := bounds_u8 hwf
      have hst := hown.2.frozenAt k
      obtain ⟨y, hcell⟩ : ∃ y, wr.cell? ⟨w.heap.size + 1, k, none⟩ = some y := ⟨_, hown.cell hlt⟩
      have hsz : w.heap.size + 1 < wr.heap.size := hown.hi
      clear hc hwf
      go_wp2_with fail
      go_roundw
      case rel => exact ⟨k + 1, by omega, by go_num, by rw [← rowF_set hzl hlt, ← HX.out]; exact hown.stored k _, hbel.setCell (by simp) _⟩
      case measure => simp [intOf]; omega
    · obtain rfl : k = m := by omega
      obtain ⟨rs, hrse⟩ : ∃ rs, rs = (zs.take k).map abc := ⟨_, rfl⟩
      rw [rowF_full, ← hrse] at hown
      have hall : Hid (rs.all vr = true) := by rw [hrse]; exact all_abc _
      have hbw : Below w.heap.size w wr := ((Below.refl w.heap.size w).alloc (Nat.le_refl _) _).trans (hbel.mono (by omega))
      have hc0 : wr.cell? ⟨w.heap.size, 0, none⟩ = some (.int .u8 kd) := by
        rw [hbel.cell (p := ⟨w.heap.size, 0, none⟩) (by simp), cell_new _ _ _ _ _ rfl]; rfl
      have hrl : Hid (rs.length = k) := hown.1
      have HRS := hide hrse
      have hHi := hown.hi
      clear hrse hbel hbA hOwnA hrow1 hk hlt hcA1
      have h5 : kd % 5 = 0 ∨ kd % 5 = 1 ∨ kd % 5 = 2 ∨ kd % 5 = 3 ∨ kd % 5 = 4 := by omega
      rcases h5 with h5 | h5 | h5 | h5 | h5
      · go_wp2_with (at_make; refine wpList_make_full _ rfl _ _ 27 rfl wr.heap.size 21 i0 (.int .i32 0) 1 Yba.underlying27 hi hz0 hz1 _ _ _ _ k rfl rfl (by omega) (by omega) ?d2 ?d3 ?d4 ?_)
        case d2 => rw [hz2]; omega
        case d3 => unfold maxLen; omega
        case d4 => exact Nat.le_refl _
        intro wT hownT hgT
        have hOT : Own wT wr.heap.size wr.heap.size k k (List.replicate k 0) := ⟨by simp, by simpa [toList_madeCells_one] using hownT⟩
        have hbT : Below wr.heap.size wr wT := (Below.refl _ _).grown hgT (Nat.le_refl _) (by simp)
        have hOrT : Own wT (w.heap.size + 1) (w.heap.size + 1) k k rs := hown.keep (hbT.block _ hHi)
        clear hownT hgT
        have A0 : Hid ((rs.map (Value.int .i32)).length = Nat.min k k) := by show _ = _; simp [hrl.out]
        have A1 : Hid (0 < (rs.map (Value.int .i32)).length → some (⟨wr.heap.size, 0, none⟩ : Addr) = some ⟨wr.heap.size, 0, none⟩ ∧ ∃ ad, some (⟨w.heap.size + 1, 0, none⟩ : Addr) = some ad ∧ ∀ j v, (rs.map (Value.int .i32))[j]? = some v → wT.cell? (ad.add j) = some v) :=
          fun _ => ⟨rfl, _, rfl, cells_all hrl.out (fun j hj => by rw [Nat.zero_add]; exact hOrT.cell hj)⟩
        have A3 : Hid (∀ v ∈ rs.map (Value.int .i32), v.oneCell' = true) := ints_oneCell _ _
        have HRW := hide hOT.row
        have A2 : Hid (0 + (rs.map (Value.int .i32)).length ≤ ((List.replicate k (0 : Int)).map (Value.int .i32)).length) := by show _ ≤ _; simp [hrl.out]
        obtain ⟨cs, hcs⟩ : ∃ cs, cs = rs.map (Value.int .i32) := ⟨_, rfl⟩
        obtain ⟨cur, hcur⟩ : ∃ cur, cur = (List.replicate k (0 : Int)).map (Value.int .i32) := ⟨_, rfl⟩
        rw [← hcs] at A0 A1 A2 A3
        rw [← hcur] at A2 HRW
        have HCS := hide hcs
        have HCU := hide hcur
        clear hcs hcur
        go_wp2_with (refine wpList_copy_splice rfl (.tmp 41) (.tmp 42) 27 27 rfl 21 Yba.underlying27 rfl _ _ _ _ _ _ rfl rfl wr.heap.size 0 cur 21 HRW.out cs A0.out A1.out A2.out A3.out wr.heap.size wT (Below.refl _ _) (Nat.le_refl _) ?_; intro wU HU hbU)
        refine bodyPost_ret (results_tmp4 rfl _ _ _) rfl ?_
        rw [← List.map_take, ← HRS.out]
        have hOU : Own wU wr.heap.size wr.heap.size k k rs := by
          refine own_of_row ?_ (Nat.le_refl _) hrl.out (by unfold maxLen; omega)
          rw [HU.out, ← HCS.out]
          have : splice cur 0 cs = cs := by
            have hl := A0.out
            have hl2 : cur.length = k := by rw [HCU.out]; simp
            simp only [splice, List.take_zero, List.nil_append, Nat.zero_add]
            rw [List.drop_of_length_le (by rw [hl, hl2]; simp), List.append_nil]
          rw [this]
        have hit : item kd rs = (rs, true, true) := by unfold item; rw [if_pos h5]
        unfold BuildPost
        rw [hit]
        have hwU : Below w.heap.size w wU := hbw.trans ((hbT.mono hbw.size).trans (hbU.mono hbw.size))
        have hrU : Own wU (w.heap.size + 1) (w.heap.size + 1) k k rs := hOrT.keep (hbU.block _ hHi)
        have hUs := hOU.hi
        refine ⟨wU.heap.size, some ⟨w.heap.size + 1, 0, none⟩, k, k, rfl, fun base w' h1 h2 => ?_, ⟨hrl.out, Nat.le_refl _, .inr ⟨_, rfl, by omega, fun j hj => by rw [cell_old _ _ _ _ hrU.hi]; exact hrU.cell hj⟩⟩, hwU.alloc hwU.size _⟩
        have hpf := prefix_lit base wU.heap.size wr.heap.size 0 k k rs w' (cell_lo h2 hwU.size (by rw [cell_new _ _ _ _ _ rfl]; rfl)) (cell_lo h2 hwU.size (by rw [cell_new _ _ _ _ _ rfl]; rfl)) hrl.out (Nat.le_refl _) (by omega) (fun j hj => by rw [Nat.zero_add]; exact cell_lo h2 hbw.size (by rw [cell_old _ _ _ _ hUs]; exact hOU.cell hj))
        rwa [pre_all hall.out, hall.out] at hpf
      · go_wp2_with fail
        refine bodyPost_ret (results_tmp4 rfl _ _ _) rfl ?_
        rw [← HRS.out]
        have hit : item kd rs = ([], true, true) := by unfold item; rw [if_neg (by omega), if_pos h5]
        unfold BuildPost
        rw [hit]
        exact ⟨_, none, 0, 0, rfl, fun base w' h1 h2 => prefix_empty base _ w' (cell_lo h2 (Nat.le_trans hbw.size (Nat.le_refl _)) (by rw [cell_new _ _ _ _ _ rfl]; rfl)), rd_nil _ _, hbw.alloc hbw.size _⟩
      · go_wp2_with fail
        refine bodyPost_ret (results_tmp4 rfl _ _ _) rfl ?_
        rw [← HRS.out]
        have hit : item kd rs = ([], true, false) := by unfold item; rw [if_neg (by omega), if_neg (by omega), if_pos h5]
        unfold BuildPost
        rw [hit]
        exact ⟨_, none, 0, 0, rfl, fun base w' h1 h2 => prefix_assert base _ w' (cell_lo h2 (Nat.le_trans hbw.size (Nat.le_refl _)) (by rw [cell_new _ _ _ _ _ rfl]; rfl)), rd_nil _ _, hbw.alloc hbw.size _⟩
      · go_wp2_with fail
        refine bodyPost_ret (results_tmp4 rfl _ _ _) rfl ?_
        rw [← HRS.out]
        have hit : item kd rs = ([], false, false) := by unfold item; rw [if_neg (by omega), if_neg (by omega), if_neg (by omega), if_pos h5]
        unfold BuildPost
        rw [hit]
        exact ⟨wr.heap.size + 1, none, 0, 0, rfl, fun base w' h1 h2 => prefix_wide base (wr.heap.size + 1) wr.heap.size 2 w' (cell_lo h2 (Nat.le_trans hbw.size (by omega)) (by rw [cell_new _ _ _ _ _ (by simp)]; rfl)) (cell_lo h2 (Nat.le_trans hbw.size (by omega)) (by rw [cell_new _ _ _ _ _ (by simp)]; rfl))
          (cell_lo h2 hbw.size (by rw [cell_old _ _ _ _ (by simp), cell_new _ _ _ _ _ rfl]; rfl)) (cell_lo h2 hbw.size (by rw [cell_old _ _ _ _ (by simp), cell_new _ _ _ _ _ rfl]; rfl)), rd_nil _ _, (hbw.alloc hbw.size _).alloc (by have := hbw.size; simp; omega) _⟩
      · obtain ⟨r, hr⟩ : ∃ r, r = rs.headD 97 := ⟨_, rfl⟩
        have hvr : vr r = true := by
          rw [hr]
          cases hrs : rs with
          | nil => decide
          | cons x l =>
            have := hall.out
            rw [hrs, List.all_cons, Bool.and_eq_true] at this
            exact this.1
        have HR := hide hr
        have HVR := hide hvr
        clear hr hvr
        go_upto_if 63 with fail
        go_cut [10] (fun s wd => s = .int .i32 r ∧ wr = wd)
        case first =>
          by_cases h0 : 0 < k
          · have hcx : wr.cell? ⟨w.heap.size + 1, 0, none⟩ = some (.int .i32 r) := by
              rw [hown.cell h0, HR.out]
              have := hrl.out
              cases rs with
              | nil => simp at this; omega
              | cons x l => rfl
            go_wp2_with fail
            go_meet
            exact ⟨rfl, rfl⟩
          · go_wp2_with fail
            go_meet
            refine ⟨?_, rfl⟩
            have := hrl.out
            rw [HR.out]
            cases rs with
            | nil => rfl
            | cons x l => simp at this; omega
        case rest =>
          obtain ⟨rfl, rfl⟩ := hcut
          go_wp2_with fail
          refine bodyPost_ret (results_tmp4 rfl _ _ _) rfl ?_
          rw [← HRS.out]
          have hit : item kd rs = ([r], true, true) := by unfold item; rw [if_neg (by omega), if_neg (by omega), if_neg (by omega), if_neg (by omega), HR.out]
          unfold BuildPost
          rw [hit]
          refine ⟨wr.heap.size + 1, some ⟨wr.heap.size + 1 + 1, 0, none⟩, 1, 1, rfl, fun base w' h1 h2 => ?_, ⟨rfl, Nat.le_refl _, .inr ⟨_, rfl, by have := hbw.size; omega, fun j hj => ?_⟩⟩, ((hbw.alloc hbw.size _).alloc (by have := hbw.size; simp; omega) _).alloc (by have := hbw.size; simp; omega) _⟩
          · have hpf := prefix_one base (wr.heap.size + 1) wr.heap.size 2 r w' (cell_lo h2 (Nat.le_trans hbw.size (by omega)) (by rw [cell_old _ _ _ _ (by simp), cell_new _ _ _ _ _ (by simp)]; rfl)) (cell_lo h2 (Nat.le_trans hbw.size (by omega)) (by rw [cell_old _ _ _ _ (by simp), cell_new _ _ _ _ _ (by simp)]; rfl))
              (cell_lo h2 hbw.size (by rw [cell_old _ _ _ _ (by simp; omega), cell_old _ _ _ _ (by simp), cell_new _ _ _ _ _ rfl]; rfl)) (cell_lo h2 hbw.size (by rw [cell_old _ _ _ _ (by simp; omega), cell_old _ _ _ _ (by simp), cell_new _ _ _ _ _ rfl]; rfl)) (Nat.le_refl _)
            have hpr : pre [r] = [r] := pre_all (by simp [HVR.out])
            rwa [hpr, HVR.out] at hpf
          · obtain rfl : j = 0 := by omega
            rw [cell_new _ _ _ _ _ (by simp)]; rfl

end Go.Proofs.Ybulkayra.lawB
