/-
  THE WALK OF LawS2496BCommon.
-/
import Derived.Test.YbulkayraB2
namespace Go.Proofs.Ybulkayra.lawB
open Go.RowKit Go.Proofs.Ybulkayra

theorem info28 : (Yba.prog.info? 28).map (fun i => (i.zero, i.size, i.bytes)) = some (some (.pointer none), 1, 8) := by kernel_rfl

/-- What is told of the slice of alternatives: of each its kind and its slice of bytes. -/
def Alts (w : World) (a : Option Addr) (len : Nat) (kd : Nat → Int) (ao : Nat → Option Addr) (ln cp : Nat → Nat) (zs : Nat → List Int) : Prop :=
  ∀ j, j < len → ∃ b off, a = some ⟨b, off, none⟩ ∧ w.cell? ⟨b, off + j * 2, none⟩ = some (.int .u8 (kd j)) ∧ w.cell? ⟨b, off + j * 2 + 1, none⟩ = some (.slice (ao j) (ln j) (cp j)) ∧ 0 ≤ kd j ∧ kd j ≤ 255 ∧ IsRow .u8 w (ao j) (ln j) (cp j) (zs j)

def itf (kd : Nat → Int) (ln : Nat → Nat) (zs : Nat → List Int) (j : Nat) : Item := item (kd j) (((zs j).take (ln j)).map abc)

theorem owns_keep {w w' : World} {base e size g n cap : Nat} {xs : List Value} (h : w.ownsRow base e size (.slice (some ⟨g, 0, none⟩) n cap) n xs) (hb : w'.heap[g]? = w.heap[g]?) : w'.ownsRow base e size (.slice (some ⟨g, 0, none⟩) n cap) n xs := by
  obtain ⟨h2, h3⟩ := h
  refine ⟨h2, ?_⟩
  rcases h3 with ⟨h3, h4⟩ | ⟨g', cap', cur, hv, hbb, hh, r⟩
  · exact .inl ⟨h3, h4⟩
  · simp only [Value.slice.injEq, Option.some.injEq, Addr.mk.injEq] at hv
    obtain ⟨⟨rfl, -, -⟩, -, rfl⟩ := hv
    exact .inr ⟨g, cap, cur, rfl, hbb, hb.trans hh, r⟩

def ptr (b : Nat) : Value := .pointer (some ⟨b, 0, none⟩)

theorem set_snoc {bs : List Nat} {k t nb : Nat} (hb : bs.length = t) (ht : t < k) : (bs.map ptr ++ List.replicate (k - t) (Value.pointer none)).set t (ptr nb) = (bs ++ [nb]).map ptr ++ List.replicate (k - (t + 1)) (Value.pointer none) := by
  obtain ⟨d, hd⟩ : ∃ d, k - t = d + 1 := ⟨k - t - 1, by omega⟩
  rw [hd, List.replicate_succ, show k - (t + 1) = d by omega, List.set_append_right _ _ (by simp [hb]), List.length_map, hb]
  simp

theorem ptr_row {bs : List Nat} {k t j : Nat} (hb : bs.length = t) (hj : j < t) : (bs.map ptr ++ List.replicate (k - t) (Value.pointer none))[j]? = some (ptr (bs.getD j 0)) := by
  rw [List.getElem?_append_left (by simp; omega)]
  simp [List.getD, show j < bs.length by omega]

theorem alt_k (base nb sb k g n cap : Nat) (xs : List Int) (bs : List Nat) (its : List Item) (L : List Int) (E F S : Bool) (w : World) (hk : 0 < k) (h9 : w.cell? ⟨nb, 9, none⟩ = some (.slice (some ⟨sb, 0, none⟩) k k)) (hits : its.length = k) (hm : k ≤ 2000)
    (hcell : ∀ j, j < k → w.cell? ⟨sb, j, none⟩ = some (.pointer (some ⟨bs.getD j 0, 0, none⟩))) (hnb : nb ≠ g) (hsb : sb < base)
    (hnode : ∀ w' : World, (∀ k, k < base → w'.heap[k]? = w.heap[k]?) → ∀ j, j < k → Pfx w' base (bs.getD j 0) (its.getD j ([], false, false)).1 (its.getD j ([], false, false)).2.1 (its.getD j ([], false, false)).2.2)
    (hpl : ∀ j, j < k → (its.getD j ([], false, false)).1.length ≤ 2000) (hown : Own w base g n cap xs) (hn : n ≤ 2000) (hbase : base ≤ w.heap.size) (hout : out its = (L, E, F, S)) :
    Calls Yba.prog 6 #[.pointer (some ⟨nb, 0, none⟩), .slice (some ⟨g, 0, none⟩) n cap] w fun e w' => ∃ g' cap' N, e = .returned (.tuple #[.slice (some ⟨g', 0, none⟩) N cap', .bool E, .bool F]) ∧
      Own w' base g' N cap' (xs ++ L) ∧ Below base w w' := by
  obtain ⟨m, rfl⟩ : ∃ m, k = m + 1 := ⟨k - 1, by omega⟩
  have := alt_any base nb sb m g n cap xs bs its w h9 hits (by omega) hcell hnb hsb hnode hpl hown hn hbase
  rw [hout] at this
  exact this

set_option maxHeartbeats 1000000 in
set_option maxRecDepth 100000 in
theorem walk (a0 : Option Addr) (len0 cap0 : Nat) (z0 : List Int) (a1 : Option Addr) (len1 cap1 : Nat) (kd : Nat → Int) (ao : Nat → Option Addr) (ln cp : Nat → Nat) (zs : Nat → List Int) (w : World) (w0 : IsRow .u8 w a0 len0 cap0 z0) (w1 : Alts w a1 len1 kd ao ln cp zs) :
    Calls Yba.prog 3 #[.slice a0 len0 cap0, .slice a1 len1 cap1] w fun e w' => e = .returned (.bool true) ∧ Below w.heap.size w w' := by
  have W1 := hide w1
  clear w1
  by_cases hl0 : len0 ≤ 1024
  · by_cases hl1 : len1 ≤ 1024
    · go_enter Yba.func3, Yba.ntmps3
      go_wp2_with fail
      go_loopw [39] (fun i wr => ∃ k : Nat, k ≤ len1 ∧ i = .int .i64 k ∧ Hid (∀ j, j < k → ln j ≤ 1024) ∧ Below w.heap.size w wr) (fun i _ => len1 - (intOf i).toNat)
      case atStart => exact ⟨0, Nat.zero_le _, rfl, fun j hj => by omega, Below.refl _ _⟩
      case round =>
        obtain ⟨k, hk, rfl, hln, hbw⟩ := hrel
        by_cases hlt : k < len1
        · obtain ⟨b, off, rfl, hc0, hc1, hkd0, hkd1, hrw⟩ := W1.out k hlt
          have hblt : b < w.heap.size := World.block_lt_of_cell? w ⟨b, off + k * 2, none⟩ hc0
          have hr0 : wr.cell? ⟨b, off + k * 2, none⟩ = some (.int .u8 (kd k)) := (hbw.cell (p := ⟨b, off + k * 2, none⟩) hblt).trans hc0
          have hr1 : wr.cell? ⟨b, off + k * 2 + 1, none⟩ = some (.slice (ao k) (ln k) (cp k)) := (hbw.cell (p := ⟨b, off + k * 2 + 1, none⟩) hblt).trans hc1
          clear hc0 hc1 hrw
          by_cases hlk : ln k ≤ 1024
          · go_wp2_with fail
            go_roundw
            case rel => exact ⟨k + 1, by omega, by go_num, fun j hj => by rcases Nat.lt_succ_iff_lt_or_eq.1 hj with h | rfl; exact hln.out j h; exact hlk, hbw.alloc hbw.size _⟩
            case measure => simp [intOf]; omega
          · go_wp2_with fail
            go_ret
            exact ⟨rfl, hbw.alloc hbw.size _⟩
        · obtain rfl : k = len1 := by omega
          by_cases hk0 : k = 0
          · go_wp2_with fail
            go_ret
            exact ⟨rfl, hbw⟩
          · obtain ⟨i8, hi8, hy0, hy1, hy2⟩ := info_parts info28
            obtain ⟨its, hits⟩ : ∃ its, its = (List.range k).map (itf kd ln zs) := ⟨_, rfl⟩
            have HIL : Hid (its.length = k) := by show _ = _; rw [hits]; simp
            have HIG : Hid (∀ j, j < k → its.getD j ([], false, false) = itf kd ln zs j) := by
              intro j hj
              rw [hits]
              simp [List.getD, hj]
            clear hits hk hlt
            have hk1 : ((k : Int) == 0) = false := by simp; omega
            rename World => wp
            go_wp2_with (at_make; refine wpList_make_full _ rfl _ _ 26 rfl wp.heap.size 28 i8 (.pointer none) 1 Yba.underlying26 hi8 hy0 hy1 _ _ _ _ k rfl rfl (by omega) (by omega) ?b2 ?b3 ?b4 ?_)
            case b2 => rw [hy2]; omega
            case b3 => unfold maxLen; omega
            case b4 => exact Nat.le_refl _
            intro wA hownA hgA
            have hbA : Below wp.heap.size wp wA := (Below.refl _ _).grown hgA (Nat.le_refl _) (by simp)
            have hOA : wA.ownsRow wp.heap.size 28 1 (.slice (some ⟨wp.heap.size, 0, none⟩) k k) k (List.replicate k (.pointer none)) := by simpa [toList_madeCells_one] using hownA
            clear hownA hgA
            go_wp2_with fail
            go_loopg [8, 9, 10, 11, 56] k (fun gh s8 s9 s10 s11 s56 wr => ∃ (t : Nat) (bs : List Nat) (ap : Option Addr) (n c : Nat) (L : List Int) (E F S : Bool), t + gh = k ∧ s56 = .int .i64 (t : Int) ∧ s8 = .slice ap n c ∧ s9 = .bool E ∧ s10 = .bool F ∧ s11 = .bool S ∧ Hid (out (its.take t) = (L, E, F, S)) ∧ Rd (wp.heap.size + 1) wr ap n c L ∧ n ≤ 1024 ∧ Hid (bs.length = t) ∧ wr.ownsRow wp.heap.size 28 1 (.slice (some ⟨wp.heap.size, 0, none⟩) k k) k (bs.map ptr ++ List.replicate (k - t) (.pointer none)) ∧ Hid (∀ j, j < t → NodeL (wp.heap.size + 1) wr (bs.getD j 0) (itf kd ln zs j).1 (itf kd ln zs j).2.1 (itf kd ln zs j).2.2) ∧ Below wp.heap.size wp wr)
            case atStart => exact ⟨0, [], none, 0, 0, [], false, false, false, by omega, rfl, rfl, rfl, rfl, rfl, by show out (its.take 0) = _; simp [out], rd_nil _ _, by omega, rfl, by simpa using hOA, fun j hj => by omega, hbA⟩
            case round =>
              obtain ⟨t, bs, ap, n, c, L, E, F, S, hgt, rfl, rfl, rfl, rfl, rfl, hS, hRL, hn, hbl, hOw, hNd, hBw⟩ := hrel
              have hGw : wp.heap.size < wr.heap.size := (hOw.lt wp.heap.size rfl).2
              by_cases hlt : t < k
              · obtain ⟨b, off, rfl, hc0, hc1, hkd0, hkd1, hrw⟩ := W1.out t hlt
                have hblt : b < w.heap.size := World.block_lt_of_cell? w ⟨b, off + t * 2, none⟩ hc0
                have hbwr : Below w.heap.size w wr := hbw.trans (hBw.mono hbw.size)
                have hr0 : wr.cell? ⟨b, off + t * 2, none⟩ = some (.int .u8 (kd t)) := (hbwr.cell (p := ⟨b, off + t * 2, none⟩) hblt).trans hc0
                have hr1 : wr.cell? ⟨b, off + t * 2 + 1, none⟩ = some (.slice (ao t) (ln t) (cp t)) := (hbwr.cell (p := ⟨b, off + t * 2 + 1, none⟩) hblt).trans hc1
                have hrw2 : IsRow .u8 (wr.alloc (.cells #[.int .u8 (kd t), .slice (ao t) (ln t) (cp t)] 25)) (ao t) (ln t) (cp t) (zs t) := hrw.later (hbwr.alloc hbwr.size _)
                have hcall := hide (build_any (kd t) (ao t) (ln t) (cp t) (zs t) _ hrw2 (hln.out t hlt) hkd0 hkd1)
                clear hc0 hc1 hrw hrw2
                go_wp2_with fail
                refine hcall.out.mono ?_
                rintro e' w2 ⟨nb, ap2, np2, cp2, he', hnd, hrd, hb2⟩
                obtain ⟨it, hit⟩ : ∃ it, it = itf kd ln zs t := ⟨_, rfl⟩
                have hit' : item (kd t) (((zs t).take (ln t)).map abc) = it := hit.symm
                rw [hit'] at he' hnd hrd
                subst he'
                have hnext : Hid (0 < t → out (its.take (t + 1)) = nx (L, E, F, S) it) := by
                  intro h0
                  rw [out_next its t h0 (by rw [HIL.out]; exact hlt), hS.out, HIG.out t hlt, hit]
                have hfirst : Hid (t = 0 → out (its.take (t + 1)) = (it.1, it.2.1, it.2.2, false)) := by
                  intro h0
                  subst h0
                  rw [Nat.zero_add, out_one its (by rw [HIL.out]; exact hlt), HIG.out 0 hlt, hit]
                have hpl : it.1.length ≤ 1024 := by
                  rw [hit]
                  exact item_len _ _ 1024 (by have := hln.out t hlt; simp; omega) (by omega)
                have hnp : np2 ≤ 1024 := by have := hrd.1; omega
                have HIT := hide hit
                obtain ⟨p, e, f⟩ := it
                simp only at hnd hrd hpl
                have hwx : Below wr.heap.size wr w2 := ((Below.refl _ _).alloc (Nat.le_refl _) _).trans (hb2.mono (by simp))
                have hO2 := owns_keep hOw (hwx.block _ hGw)
                have hG2 : wp.heap.size < w2.heap.size := Nat.lt_of_lt_of_le hGw hwx.size
                have hfz := hO2.frozenAt t
                obtain ⟨y, hcy⟩ : ∃ y, w2.cell? ⟨wp.heap.size, t, none⟩ = some y := ⟨_, by
                  rw [hO2.cellAt t (by omega)]
                  exact List.getElem?_eq_getElem (by rw [hO2.1]; omega)⟩
                clear hit hit' hcall hr0 hr1
                go_upto_region 19 with fail
                go_cut [12] (fun s wd => s = .int .i64 (t : Int) ∧ wd = w2.setCell ⟨wp.heap.size, t, none⟩ (ptr nb))
                case first =>
                  go_wp2_with fail
                  go_meet
                  exact ⟨rfl, rfl⟩
                case rest =>
                  obtain ⟨rfl, hwc⟩ := hcut
                  have hOc : wc.ownsRow wp.heap.size 28 1 (.slice (some ⟨wp.heap.size, 0, none⟩) k k) k ((bs ++ [nb]).map ptr ++ List.replicate (k - (t + 1)) (.pointer none)) := by
                    rw [hwc, ← set_snoc hbl.out hlt]
                    exact (hO2.stored t _).1
                  have hsame : ∀ j, wp.heap.size + 1 ≤ j → wc.heap[j]? = w2.heap[j]? := fun j hj => by
                    rw [hwc]; exact Below.heap_setCell _ _ _ _ (show j ≠ wp.heap.size by omega)
                  have hsz : wc.heap.size = w2.heap.size := by rw [hwc]; simp [World.setCell]
                  have hBc : Below wp.heap.size wp wc := by
                    rw [hwc]
                    exact (hBw.trans (hwx.mono (by omega))).setCell (Nat.le_refl _) _
                  have hNc : Hid (∀ j, j < t + 1 → NodeL (wp.heap.size + 1) wc ((bs ++ [nb]).getD j 0) (itf kd ln zs j).1 (itf kd ln zs j).2.1 (itf kd ln zs j).2.2) := by
                    intro j hj
                    have hb0 := hbl.out
                    rcases Nat.lt_succ_iff_lt_or_eq.1 hj with h | rfl
                    · have e1 : (bs ++ [nb]).getD j 0 = bs.getD j 0 := by simp [List.getD, List.getElem?_append_left (show j < bs.length by omega)]
                      rw [e1]
                      exact (hNd.out j h).later (by have := hwx.size; omega) (fun q hq1 hq2 => (hsame q hq1).trans (hwx.block q hq2))
                    · have e1 : (bs ++ [nb]).getD j 0 = nb := by simp [List.getD, ← hb0]
                      rw [e1, ← HIT.out]
                      exact (hnd.down (by simp; omega)).later (by omega) (fun q hq1 hq2 => hsame q hq1)
                  have hRc : Rd (wp.heap.size + 1) wc ap n c L := hRL.later (fun q hq1 hq2 => (hsame q hq1).trans (hwx.block q hq2))
                  have hRp : Rd (wp.heap.size + 1) wc ap2 np2 cp2 p := (hrd.down (by simp; omega)).later (fun q hq1 hq2 => hsame q hq1)
                  have hbl2 : Hid ((bs ++ [nb]).length = t + 1) := by show _ = _; simp [hbl.out]
                  clear hwc hsame hsz hO2 hG2 hfz hcy hnd hrd hb2 hwx hOw hNd hRL hbl hBw hGw
                  obtain ⟨bs', hbs'⟩ : ∃ bs', bs' = bs ++ [nb] := ⟨_, rfl⟩
                  rw [← hbs'] at hOc hNc hbl2
                  clear hbs'
                  cases S
                  · by_cases ht0 : t = 0
                    · have ht0' : ((t : Int) == 0) = true := by simpa using ht0
                      go_wp2_with fail
                      go_roundg (gk - 1)
                      case measure => omega
                      case rel => exact ⟨t + 1, bs', ap2, np2, cp2, p, e, f, false, by omega, by go_num, rfl, rfl, rfl, rfl, by exact hfirst.out ht0, hRp, hnp, hbl2, hOc, hNc, hBc⟩
                    · have ht0' : ((t : Int) == 0) = false := by simpa using ht0
                      have hnL : Hid (L.length = n) := hRc.1
                      have hnP : Hid (p.length = np2) := hRp.1
                      have hLc := hRc.2.1
                      go_upto_region 23 with fail
                      go_cut [18] (fun s wd => s = .int .i64 0 ∧ wc = wd)
                      case first => go_wp2_with fail; go_meet; exact ⟨rfl, rfl⟩
                      case rest =>
                        obtain ⟨rfl, rfl⟩ := hcut
                        go_step
                        go_step
                        go_cut [18] (fun s wd => s = .int .i64 (cpl L p : Int) ∧ Below wc.heap.size wc wd)
                        case first =>
                          go_wp2_with fail
                          go_loopg [18] n (fun gh s wq => ∃ x : Nat, x + gh = n ∧ s = .int .i64 (x : Int) ∧ x ≤ np2 ∧ Hid (∀ j, j < x → L.getD j 0 = p.getD j 0) ∧ Below wc.heap.size wc wq)
                          case atStart => exact ⟨0, by omega, rfl, Nat.zero_le _, fun j hj => by omega, Below.refl _ _⟩
                          case round =>
                            obtain ⟨x, hgx, rfl, hxp, hxj, hBq⟩ := hrel
                            by_cases hxL : x < n
                            · by_cases hxP : x < np2
                              · rcases hRc.2.2 with ⟨-, h, -⟩ | ⟨bL, rfl, hbL, hcL⟩
                                · omega
                                · rcases hRp.2.2 with ⟨-, h, -⟩ | ⟨bP, rfl, hbP, hcP⟩
                                  · omega
                                  · obtain ⟨u, hu⟩ : ∃ u, u = L.getD x 0 := ⟨_, rfl⟩
                                    obtain ⟨v, hv⟩ : ∃ v, v = p.getD x 0 := ⟨_, rfl⟩
                                    have hcu : wr.cell? ⟨bL, x, none⟩ = some (.int .i32 u) := by
                                      rw [hu, ← hcL x hxL]
                                      exact hBq.cell (p := ⟨bL, x, none⟩) (World.block_lt_of_cell? wc _ (hcL x hxL))
                                    have hcv : wr.cell? ⟨bP, x, none⟩ = some (.int .i32 v) := by
                                      rw [hv, ← hcP x hxP]
                                      exact hBq.cell (p := ⟨bP, x, none⟩) (World.block_lt_of_cell? wc _ (hcP x hxP))
                                    have HU := hide hu
                                    have HV := hide hv
                                    have hiL : (x : Int) < (n : Int) := by omega
                                    have hiP : (x : Int) < (np2 : Int) := by omega
                                    have HcL := hide hcL
                                    have HcP := hide hcP
                                    clear hu hv hcL hcP
                                    cases huv : (u == v)
                                    · go_wp2_with fail
                                      go_quiet (fail)
                                      go_wp2_with fail
                                      go_meet
                                      refine ⟨congrArg _ (congrArg _ (cpl_is L p x (by rw [hnL.out]; omega) (by rw [hnP.out]; omega) hxj.out (fun _ _ => by rw [← HU.out, ← HV.out]; simpa using huv)).symm), ⟨hBq.os, hBq.tape, hBq.output, hBq.size, hBq.block⟩⟩
                                    · go_wp2_with fail
                                      go_quiet (fail)
                                      go_wp2_with fail
                                      go_roundg (n - (x + 1))
                                      case measure => omega
                                      case rel => exact ⟨x + 1, by omega, by go_num, by omega, fun j hj => by rcases Nat.lt_succ_iff_lt_or_eq.1 hj with h | rfl; exact hxj.out j h; rw [← HU.out, ← HV.out]; simpa using huv, ⟨hBq.os, hBq.tape, hBq.output, hBq.size, hBq.block⟩⟩
                              · have hd : decide ((x : Int) < (np2 : Int)) = false := by simp; omega
                                have hiL : (x : Int) < (n : Int) := by omega
                                go_wp2_with fail
                                go_quiet (fail)
                                go_wp2_with fail
                                go_meet
                                refine ⟨congrArg _ (congrArg _ (cpl_is L p x (by rw [hnL.out]; omega) (by rw [hnP.out]; omega) hxj.out (fun _ h => by rw [hnP.out] at h; omega)).symm), ⟨hBq.os, hBq.tape, hBq.output, hBq.size, hBq.block⟩⟩
                            · have hd : decide ((x : Int) < (n : Int)) = false := by simp; omega
                              go_wp2_with fail
                              go_quiet (fail)
                              go_wp2_with fail
                              go_meet
                              refine ⟨congrArg _ (congrArg _ (cpl_is L p x (by rw [hnL.out]; omega) (by rw [hnP.out]; omega) hxj.out (fun h => by rw [hnL.out] at h; omega)).symm), ⟨hBq.os, hBq.tape, hBq.output, hBq.size, hBq.block⟩⟩
                        case rest =>
                          obtain ⟨rfl, hBq⟩ := hcut
                          have hOq := owns_keep hOc (hBq.block _ (hOc.lt _ rfl).2)
                          have hNq : Hid (∀ j, j < t + 1 → NodeL (wp.heap.size + 1) wc (bs'.getD j 0) (itf kd ln zs j).1 (itf kd ln zs j).2.1 (itf kd ln zs j).2.2) := fun j hj => (hNc.out j hj).later hBq.size (fun q _ h2 => hBq.block q h2)
                          have hRq : Rd (wp.heap.size + 1) wc ap n c L := hRc.later (fun q _ h2 => hBq.block q h2)
                          have hBx : Below wp.heap.size wp wc := hBc.trans (hBq.mono hBc.size)
                          clear hOc hNc hRc hRp hBc hBq
                          obtain ⟨hcl, hcp⟩ := cpl_le L p
                          rw [hnL.out] at hcl
                          rw [hnP.out] at hcp
                          obtain ⟨x, hx⟩ : ∃ x, x = cpl L p := ⟨_, rfl⟩
                          rw [← hx] at hcl hcp
                          obtain ⟨E', hE'⟩ : ∃ E', E' = exq L E (p, e, f) := ⟨_, rfl⟩
                          have hnx : Hid (nx (L, E, F, false) (p, e, f) = (L.take x, E', F || f, x == 0 && !E')) := by
                            show _ = _
                            rw [nx, if_neg (by simp), hx, hE']
                          have hE2 : Hid (E' = (E && e && ((x : Int) == (n : Int)) && ((x : Int) == (np2 : Int)))) := by
                            show _ = _
                            rw [hE', exq, ← hx]
                            have h1 : (x == L.length) = ((x : Int) == (n : Int)) := by rw [Bool.eq_iff_iff, hnL.out]; simp; omega
                            have h2 : (x == p.length) = ((x : Int) == (np2 : Int)) := by rw [Bool.eq_iff_iff, hnP.out]; simp; omega
                            rw [h1, h2]
                          rw [← hx]
                          clear hx hE'
                          go_upto_region 26 with fail
                          go_cut [9] (fun s wd => s = .bool E' ∧ wc = wd)
                          case first =>
                            cases E
                            · go_wp2_with fail
                              go_meet
                              exact ⟨by rw [hE2.out]; rfl, rfl⟩
                            · cases e
                              · go_wp2_with fail
                                go_meet
                                exact ⟨by rw [hE2.out]; rfl, rfl⟩
                              · cases h1 : ((x : Int) == (n : Int))
                                · go_wp2_with fail
                                  go_meet
                                  exact ⟨by rw [hE2.out, h1]; rfl, rfl⟩
                                · go_wp2_with fail
                                  go_meet
                                  exact ⟨by rw [hE2.out, h1]; rfl, rfl⟩
                          case rest =>
                            obtain ⟨rfl, rfl⟩ := hcut
                            go_upto_region 27 with fail
                            go_cut [10] (fun s wd => s = .bool (F || f) ∧ wc = wd)
                            case first =>
                              cases F
                              all_goals
                                go_wp2_with fail
                                go_meet
                                exact ⟨rfl, rfl⟩
                            case rest =>
                              obtain ⟨rfl, rfl⟩ := hcut
                              obtain ⟨F', hF'⟩ : ∃ F', F' = (F || f) := ⟨_, rfl⟩
                              rw [← hF'] at hnx ⊢
                              clear hF'
                              have hRt : Rd (wp.heap.size + 1) wc ap x c (L.take x) := by
                                obtain ⟨r1, r2, r3⟩ := hRq
                                refine ⟨by simp; omega, by omega, ?_⟩
                                rcases r3 with ⟨h1, h2, h3⟩ | ⟨b1, rfl, h1, h2⟩
                                · exact .inl ⟨h1, by omega, h3⟩
                                · exact .inr ⟨b1, rfl, h1, fun j hj => by
                                    rw [h2 j (by omega)]
                                    simp [List.getD, hj]⟩
                              go_upto_region 28 with fail
                              go_cut [8] (fun s wd => s = .slice ap x c ∧ wc = wd)
                              case first =>
                                rcases hRq.2.2 with ⟨rfl, h2, rfl⟩ | ⟨b1, rfl, h1, h2⟩
                                · obtain rfl : n = 0 := h2
                                  obtain rfl : x = 0 := by omega
                                  go_wp2_with fail
                                  go_meet
                                  exact ⟨rfl, rfl⟩
                                · clear h2
                                  go_wp2_with fail
                                  go_meet
                                  exact ⟨rfl, rfl⟩
                              case rest =>
                                obtain ⟨rfl, rfl⟩ := hcut
                                go_upto_region 29 with fail
                                go_cut [129] (fun s wd => s = .bool ((x : Int) == 0 && !E') ∧ wc = wd)
                                case first =>
                                  cases h0 : ((x : Int) == 0)
                                  all_goals
                                    go_wp2_with fail
                                    go_meet
                                    exact ⟨by first | rfl | rw [h0]; rfl, rfl⟩
                                case rest =>
                                  obtain ⟨rfl, rfl⟩ := hcut
                                  have h0 : Hid ((x == 0 && !E') = ((x : Int) == 0 && !E')) := by
                                    have h1 : (x == 0) = ((x : Int) == 0) := by rw [Bool.eq_iff_iff]; simp
                                    show _ = _
                                    rw [h1]
                                  cases hst : ((x : Int) == 0 && !E')
                                  all_goals
                                    go_wp2_with fail
                                    go_roundg (gk - 1)
                                    case measure => omega
                                    case rel =>
                                      refine ⟨t + 1, bs', ap, x, c, L.take x, E', F', _, by omega, by go_num, rfl, rfl, rfl, rfl, ?_, hRt, by omega, hbl2, hOq, hNq, hBx⟩
                                      show _ = _
                                      rw [hnext.out (by omega), hnx.out, h0.out, hst]
                  · have ht0 : 0 < t := by
                      rcases Nat.eq_zero_or_pos t with h | h
                      · exfalso
                        have := hS.out
                        rw [h] at this
                        simp [out] at this
                      · exact h
                    go_wp2_with fail
                    go_roundg (gk - 1)
                    case measure => omega
                    case rel => exact ⟨t + 1, bs', ap, n, c, L, E, F, true, by omega, by go_num, rfl, rfl, rfl, rfl, by show _ = _; rw [hnext.out ht0, nx_stopped _ _ rfl], hRc, hn, hbl2, hOc, hNc, hBc⟩
              · obtain rfl : t = k := by omega
                obtain ⟨i0, hi, hz0, hz1, hz2⟩ := info_parts Yba.info21
                have hbz : Below w.heap.size w wr := hbw.trans (hBw.mono hbw.size)
                have hout : Hid (out its = (L, E, F, S)) := by
                  show _ = _
                  rw [← hS.out, List.take_of_length_le (by rw [HIL.out]; omega)]
                rename World => wz
                clear hbA hOA hS
                go_wp2_with (at_make; refine wpList_make_full _ rfl _ _ 27 rfl wz.heap.size 21 i0 (.int .i32 0) 1 Yba.underlying27 hi hz0 hz1 _ _ _ _ len0 rfl rfl (by omega) (by omega) ?d2 ?d3 ?d4 ?_)
                case d2 => rw [hz2]; omega
                case d3 => unfold maxLen; omega
                case d4 => exact Nat.le_refl _
                intro wT hownT hgT
                obtain ⟨hz0l, hz0n, hz0r⟩ := row_cell w0
                have hOT : Own wT wz.heap.size wz.heap.size len0 len0 (rowF id z0 len0 0) := ⟨rowF_len hz0l (Nat.zero_le _), by rw [rowF_zero]; simpa [toList_madeCells_one] using hownT⟩
                have hbT : Below wz.heap.size wz wT := (Below.refl _ _).grown hgT (Nat.le_refl _) (by simp)
                have Z0R := hide hz0r
                have Z0N := hide hz0n
                clear hownT hgT hz0r hz0n
                go_wp2_with fail
                go_loopw [136] (fun i wr => ∃ q : Nat, q ≤ len0 ∧ i = .int .i64 q ∧ Own wr wz.heap.size wz.heap.size len0 len0 (rowF id z0 len0 q) ∧ Below wz.heap.size wz wr) (fun i _ => len0 - (intOf i).toNat)
                case atStart => exact ⟨0, Nat.zero_le _, rfl, hOT, hbT⟩
                case round =>
                  obtain ⟨q, hq, rfl, hOq, hbq⟩ := hrel
                  by_cases hlq : q < len0
                  · obtain ⟨b, off, rfl, hc, hwf⟩ := Z0R.out q hlq
                    have hblt : b < w.heap.size := World.block_lt_of_cell? w ⟨b, off + q, none⟩ hc
                    obtain ⟨x, hxe⟩ : ∃ x, x = z0.getD q 0 := ⟨_, rfl⟩
                    rw [← hxe] at hc hwf
                    have HX := hide hxe
                    clear hxe
                    have hcr : wr.cell? ⟨b, off + q, none⟩ = some (.int .u8 x) := ((hbz.trans (hbq.mono hbz.size)).cell (p := ⟨b, off + q, none⟩) hblt).trans hc
                    obtain ⟨hx0, hx1⟩ := bounds_u8 hwf
                    have hst := hOq.2.frozenAt q
                    obtain ⟨y, hcell⟩ : ∃ y, wr.cell? ⟨wz.heap.size, q, none⟩ = some y := ⟨_, hOq.cell hlq⟩
                    have hsz : wz.heap.size < wr.heap.size := hOq.hi
                    clear hc hwf
                    go_wp2_with fail
                    go_roundw
                    case rel => exact ⟨q + 1, by omega, by go_num, by rw [← rowF_set hz0l hlq]; show Own _ _ _ _ _ ((rowF id z0 len0 q).set q (z0.getD q 0)); rw [← HX.out]; exact hOq.stored q _, hbq.setCell (Nat.le_refl _) _⟩
                    case measure => simp [intOf]; omega
                  · obtain rfl : q = len0 := by omega
                    rw [rowF_full, List.map_id] at hOq
                    rename World => wv
                    have hszv := hOq.hi
                    obtain ⟨O, hO⟩ : ∃ O : Obj, O = Obj.cells #[Value.int IntKind.u8 7, Value.slice none 0 0, Value.slice none 0 0, Value.int IntKind.u8 0, Value.int IntKind.i64 0, Value.string { data := #[] }, Value.int IntKind.i64 0, Value.int IntKind.i64 0, Value.bool false, Value.slice (some ⟨wp.heap.size, 0, none⟩) t t] 36 := ⟨_, rfl⟩
                    have hGz : wp.heap.size < wz.heap.size := (hOw.lt wp.heap.size rfl).2
                    have hOwO : (wv.alloc O).ownsRow wp.heap.size 28 1 (.slice (some ⟨wp.heap.size, 0, none⟩) t t) t (bs.map ptr ++ List.replicate (t - t) (.pointer none)) := (owns_keep hOw (hbq.block _ hGz)).alloc _
                    have hcall := hide (alt_k wz.heap.size wv.heap.size wp.heap.size t wz.heap.size q q (z0.take q) bs its L E F S (wv.alloc O) (by omega) (by rw [hO, cell_new _ _ _ _ _ rfl]; rfl) HIL.out (by omega)
                      (fun j hj => by rw [hOwO.cellAt j (by omega), ptr_row hbl.out hj]; rfl) (by omega) hGz
                      (fun w' hw' j hj => by
                        rw [HIG.out j hj]
                        exact hNd.out j hj wz.heap.size w' (Nat.le_refl _) (fun b hb1 hb2 => (hw' b hb2).trans ((Below.heap_alloc wv O b (by omega)).trans (hbq.block b hb2))))
                      (fun j hj => by
                        rw [HIG.out j hj]
                        have := item_len (kd j) (((zs j).take (ln j)).map abc) 1024 (by have := hln.out j hj; simp; omega) (by omega)
                        unfold itf
                        omega)
                      ⟨hOq.1, hOq.2.alloc O⟩ (by omega) (by have := hbq.size; simp; omega) hout.out)
                    rw [hO] at hcall
                    clear hO hOwO O
                    go_wp2_with fail
                    refine hcall.out.mono ?_
                    rintro e' wG ⟨g, cap, N, rfl, hOG, hbG⟩
                    obtain rfl : N = q + n := by
                      have h1 := hOG.1
                      have h2 := hRL.1
                      have h3 := hOq.1
                      simp only [List.length_append] at h1
                      omega
                    have hbzG : Below wz.heap.size wz wG := (hbq.alloc hbq.size _).trans hbG
                    have hbE : Below w.heap.size w wG := hbz.trans (hbzG.mono hbz.size)
                    have hRG : Rd (wp.heap.size + 1) wG ap n c L := hRL.later (fun b _ h2 => hbzG.block b h2)
                    have hxl : Hid ((z0.take q).length = q) := hOq.1
                    clear hcall hbG hbzG hbq hOq hOT hbT hNd hOw hRL hBw
                    go_wp2_with fail
                    go_loop [174] (fun i => ∃ r : Nat, r ≤ q ∧ i = .int .i64 r) (fun i => q - (intOf i).toNat)
                    case atStart => exact ⟨0, Nat.zero_le _, rfl⟩
                    case round =>
                      obtain ⟨r, hr, rfl⟩ := hrel
                      by_cases hlr : r < q
                      · obtain ⟨b, off, rfl, hc, hwf⟩ := Z0R.out r hlr
                        have hblt : b < w.heap.size := World.block_lt_of_cell? w ⟨b, off + r, none⟩ hc
                        obtain ⟨x, hxe⟩ : ∃ x, x = z0.getD r 0 := ⟨_, rfl⟩
                        rw [← hxe] at hc hwf
                        have hcr : wG.cell? ⟨b, off + r, none⟩ = some (.int .u8 x) := (hbE.cell (p := ⟨b, off + r, none⟩) hblt).trans hc
                        have hcg : wG.cell? ⟨g, r, none⟩ = some (.int .i32 x) := by
                          rw [hOG.cell (by omega), hxe]
                          have hl := hxl.out
                          simp [List.getD, List.getElem?_append_left (show r < (z0.take q).length by omega), hlr]
                        obtain ⟨hx0, hx1⟩ := bounds_u8 hwf
                        clear hc hwf hxe
                        go_wp2_with fail
                        go_round
                        case rel => exact ⟨r + 1, by omega, by go_num⟩
                        case measure => simp [intOf]; omega
                      · go_wp2_with fail
                        go_loop [189] (fun i => ∃ r : Nat, r ≤ n ∧ i = .int .i64 r) (fun i => n - (intOf i).toNat)
                        case atStart => exact ⟨0, Nat.zero_le _, rfl⟩
                        case round =>
                          obtain ⟨r2, hr2, rfl⟩ := hrel
                          by_cases hlr2 : r2 < n
                          · rcases hRG.2.2 with ⟨-, h, -⟩ | ⟨bL, rfl, hbL, hcL⟩
                            · omega
                            · obtain ⟨x, hxe⟩ : ∃ x, x = L.getD r2 0 := ⟨_, rfl⟩
                              have hcx : wG.cell? ⟨bL, r2, none⟩ = some (.int .i32 x) := by rw [hxe]; exact hcL r2 hlr2
                              have hcg : wG.cell? ⟨g, q + r2, none⟩ = some (.int .i32 x) := by
                                rw [hOG.cell (by omega), hxe]
                                have hl := hxl.out
                                simp only [List.getD]
                                rw [List.getElem?_append_right (by omega), show q + r2 - (z0.take q).length = r2 by omega]
                              clear hxe hcL
                              go_wp2_with fail
                              go_round
                              case rel => exact ⟨r2 + 1, by omega, by go_num⟩
                              case measure => simp [intOf]; omega
                          · go_wp2_with fail
                            go_ret
                            exact ⟨rfl, hbE⟩
    · go_enter Yba.func3, Yba.ntmps3
      go_wp2_with fail
      go_ret
      exact ⟨rfl, Below.refl _ _⟩
  · go_enter Yba.func3, Yba.ntmps3
    go_wp2_with fail
    go_ret
    exact ⟨rfl, Below.refl _ _⟩

end Go.Proofs.Ybulkayra.lawB
