/-
  THE LAW LawS2500ALookup: HER WALK.
-/
import Derived.Test.YbulkayteEnc
import Derived.Test.YbulkayteIns
import Derived.Test.YbulkayteKey0
import Derived.Test.YbulkayteTell
namespace Go.Proofs.Ybulkayte
open Go.RowKit

theorem info24 : (Yba.prog.info? 24).map (fun i => (i.zero, i.size, i.bytes)) = some (some (.int .u32 0), 1, 4) := by kernel_rfl
theorem info3 : (Yba.prog.info? 3).map (fun i => (i.zero, i.size, i.bytes)) = some (some (.int .i64 0), 1, 8) := by kernel_rfl
theorem bounds_u32 {x : Int} (h : (Lit.int .u32 x).wf = true) : 0 ≤ x ∧ x ≤ 4294967295 := by
  simp [Lit.wf, IntKind.min, IntKind.max, IntKind.signed, IntKind.bits] at h
  omega

/-- The hashes: those given, then zeros. -/
def hf (l1 : Nat) (z1 : List Int) (j : Nat) : Int := if j < l1 then z1.getD j 0 else 0
def hashL (l1 : Nat) (z1 : List Int) (m k : Nat) : List Int := (List.range m).map fun j => if j < k then hf l1 z1 j else 0
theorem hashL_zero {l1 : Nat} {z1 : List Int} {m : Nat} : hashL l1 z1 m 0 = List.replicate m 0 := by
  apply List.ext_getElem?
  intro j
  by_cases h : j < m
  · simp [hashL, h]
  · simp [hashL, h]
theorem hashL_set {l1 : Nat} {z1 : List Int} {m k : Nat} : (hashL l1 z1 m k).set k (hf l1 z1 k) = hashL l1 z1 m (k + 1) := by
  apply List.ext_getElem?
  intro j
  unfold hashL
  rw [List.getElem?_set]
  by_cases hj : k = j
  · subst hj
    by_cases h : k < m
    · simp [h]
    · simp [h]
  · rw [if_neg hj]
    by_cases h : j < m
    · simp [h, show j < k + 1 ↔ j < k by omega]
    · simp [h]
theorem hashL_skip {l1 : Nat} {z1 : List Int} {m k : Nat} (h : ¬ k < l1) : hashL l1 z1 m k = hashL l1 z1 m (k + 1) := by
  unfold hashL
  apply List.map_congr_left
  intro j _
  by_cases e : j = k
  · subst e
    rw [if_neg (by omega), if_pos (by omega)]
    simp [hf, h]
  · simp [show j < k + 1 ↔ j < k by omega]
theorem hashL_at {l1 : Nat} {z1 : List Int} {m j : Nat} (h : j < m) : (hashL l1 z1 m m).getD j 0 = hf l1 z1 j := by simp [hashL, List.getD, h]

/-- A row of which t places are laid. -/
def rowG (f : Nat → Int) (m t : Nat) : List Int := (List.range m).map fun j => if j < t then f j else 0
theorem rowG_zero {f : Nat → Int} {m : Nat} : rowG f m 0 = List.replicate m 0 := by
  apply List.ext_getElem?
  intro j
  by_cases h : j < m
  · simp [rowG, h]
  · simp [rowG, h]
theorem rowG_set {f : Nat → Int} {m k : Nat} : (rowG f m k).set k (f k) = rowG f m (k + 1) := by
  apply List.ext_getElem?
  intro j
  unfold rowG
  rw [List.getElem?_set]
  by_cases hj : k = j
  · subst hj
    by_cases h : k < m
    · simp [h]
    · simp [h]
  · rw [if_neg hj]
    by_cases h : j < m
    · simp [h, show j < k + 1 ↔ j < k by omega]
    · simp [h]
theorem rowG_at {f : Nat → Int} {m j : Nat} (h : j < m) : (rowG f m m).getD j 0 = f j := by simp [rowG, List.getD, h]
theorem rowG_length {f : Nat → Int} {m t : Nat} : (rowG f m t).length = m := by simp [rowG]

theorem bytes_pos {K : Nat → ByteArray} {m : Nat} (h : 0 < m) : 0 < (bytesL K m).length := by
  obtain ⟨k, rfl⟩ : ∃ k, m = k + 1 := ⟨m - 1, by omega⟩
  have := uv_le (K k).size
  simp only [bytesL, List.length_append, encE]
  omega

theorem own_len {w : World} {base n : Nat} {e : TypeId} {v : Value} {xs : List Value} (h : w.ownsRow base e 1 v n xs) : ∃ a c, v = .slice a n c := by
  rcases h.2 with ⟨rfl, rfl⟩ | ⟨g, cap, cur, rfl, _⟩
  · exact ⟨none, 0, rfl⟩
  · exact ⟨_, _, rfl⟩

theorem keepers {wr w1 : World} {B S : Nat} {o : Obj} (hg : (wr.alloc o).grownBy w1 (some S)) (h1 : B < S) (h2 : S < wr.heap.size) : w1.heap[B]? = wr.heap[B]? ∧ Below B wr w1 ∧ wr.heap.size ≤ w1.heap.size := by
  have a := World.grownBy_alloc wr o none
  have hk : ∀ k, k < wr.heap.size → k ≠ S → w1.heap[k]? = wr.heap[k]? := fun k hk hne => (hg.block k (Nat.lt_of_lt_of_le hk a.size) (by simpa using hne)).trans (a.block k hk (by simp))
  exact ⟨hk B (by omega) (by omega), ⟨hg.os.trans a.os, hg.tape.trans a.tape, hg.output.trans a.output, Nat.le_trans a.size hg.size, fun k hk' => hk k (by omega) (by omega)⟩, Nat.le_trans a.size hg.size⟩

theorem below_str {w w1 : World} {base N : Nat} {v : Value} {vs : List Value} (hown : w.ownsRow base 5 1 v N vs) (hb : base ≤ w.heap.size) (hg : w.grownBy w1 v.ownBlock) : Below base w w1 ∧ base ≤ w1.heap.size :=
  ⟨(Below.refl base w).grown hg hb (fun k hk => (hown.lt k hk).1), Nat.le_trans hb hg.size⟩

theorem vvv (r : Nat) (hr : r < 3) : Go.Lib.strCells (ByteArray.extract ⟨#[118, 118, 118]⟩ 0 r) = (List.replicate r (118 : Int)).map (Value.int .u8) ∧ (ByteArray.extract ⟨#[118, 118, 118]⟩ 0 r).size = r := by
  rcases r with _ | _ | _ | r
  · exact ⟨rfl, rfl⟩
  · exact ⟨rfl, rfl⟩
  · exact ⟨rfl, rfl⟩
  · omega

set_option maxHeartbeats 4000000 in
set_option maxRecDepth 100000 in
theorem walk (a0 : Option Addr) (m c0 : Nat) (K : Nat → ByteArray) (a1 : Option Addr) (l1 c1 : Nat) (z1 : List Int) (q : ByteArray) (h : Int) (pk : Int) (w : World)
    (hstr : Hid (∀ j, j < m → ∃ b off, a0 = some ⟨b, off, none⟩ ∧ w.cell? ⟨b, off + j, none⟩ = some (.string (K j))))
    (hrow : Hid (∀ j, j < l1 → ∃ b off, a1 = some ⟨b, off, none⟩ ∧ w.cell? ⟨b, off + j, none⟩ = some (.int .u32 (z1.getD j 0)) ∧ (Lit.int .u32 (z1.getD j 0)).wf = true))
    (hl1 : l1 ≤ maxLen) (hh : 0 ≤ h ∧ h ≤ 4294967295) (hpk : 0 ≤ pk ∧ pk ≤ 255) (hm : m ≤ 256) :
    Calls Yba.prog 3 #[.slice a0 m c0, .slice a1 l1 c1, .string q, .int .u32 h, .int .u8 pk] w fun e w' => e = .returned (.bool true) ∧ Below w.heap.size w w' := by
  have g0 : decide ((m : Int) > 256) = false := by simp; omega
  unfold maxLen at hl1
  obtain ⟨B, hB⟩ : ∃ n, n = w.heap.size := ⟨_, rfl⟩
  have HB := hide hB
  clear hB
  go_enter Yba.func3, Yba.ntmps3
  go_wp2_with fail
  go_loop [40] (fun s => ∃ k : Nat, k ≤ m ∧ s = .int .i64 k ∧ Hid (∀ j, j < k → (K j).size ≤ 1024)) (fun s => m - (intOf s).toNat)
  case atStart => exact ⟨0, Nat.zero_le _, rfl, fun j hj => absurd hj (Nat.not_lt_zero _)⟩
  case round =>
    obtain ⟨k, hk, rfl, hK⟩ := hrel
    by_cases hlt : k < m
    · as_aux_lemma =>
        obtain ⟨b, off, rfl, hc⟩ := hstr.out k hlt
        have hil : (k : Int) < (m : Int) := by omega
        have hi0 : (0 : Int) ≤ (k : Int) := by omega
        obtain ⟨s, hs⟩ : ∃ s, s = K k := ⟨_, rfl⟩
        rw [← hs] at hc
        have HS := hide hs
        clear hs
        by_cases hsz : s.size ≤ 1024
        · have hd : ¬ (1024 : Int) < (s.size : Int) := by omega
          go_wp2_with fail
          go_round
          case rel =>
            refine ⟨k + 1, by omega, by go_num, fun j hj => ?_⟩
            by_cases e : j = k
            · subst e; rw [← HS.out]; exact hsz
            · exact hK.out j (by omega)
          case measure => simp [intOf]; omega
        · have hd : (1024 : Int) < (s.size : Int) := by omega
          go_wp2_with fail
          exact bodyPost_ret (results_tmp rfl _ _ _) rfl ⟨rfl, Below.refl _ _⟩
    · as_aux_lemma =>
        obtain rfl : m = k := by omega
        obtain ⟨i0, hi, hz0, hz1, hz2⟩ := info_parts info24
        go_wp2_with (at_make; refine wpList_make_full _ rfl _ _ 23 rfl B 24 i0 (.int .u32 0) 1 Yba.underlying23 hi hz0 hz1 _ _ _ _ m rfl rfl rfl rfl ?b2 ?b3 ?b4 ?_)
        case b2 => first | omega | (rw [hz2]; omega)
        case b3 => unfold maxLen; omega
        case b4 => rw [HB.out]; exact Nat.le_refl _
        intro wA hown hgrow
        rw [← HB.out] at hown ⊢
        have oA : Own .u32 24 wA B B m m (hashL l1 z1 m 0) := by rw [hashL_zero]; exact own_made (by simpa using hown)
        have bA : Below B w wA := ⟨hgrow.os, hgrow.tape, hgrow.output, hgrow.size, fun j hj => hgrow.block j (by rw [← HB.out]; exact hj) (by simp)⟩
        clear hown hgrow
        go_wp2_with fail
        go_loopw [54] (fun s wr => ∃ t : Nat, t ≤ m ∧ s = .int .i64 t ∧ Own .u32 24 wr B B m m (hashL l1 z1 m t) ∧ Below B w wr) (fun s _ => m - (intOf s).toNat)
        case atStart => exact ⟨0, Nat.zero_le _, rfl, oA, bA⟩
        case round =>
          obtain ⟨t, ht, rfl, oH, bH⟩ := hrel
          by_cases hlt2 : t < m
          · as_aux_lemma =>
              have hil : (t : Int) < (m : Int) := by omega
              have hi0 : (0 : Int) ≤ (t : Int) := by omega
              have fz := oH.frozen t
              have cl := oH.cell hlt2
              by_cases htl : t < l1
              · have htl' : (t : Int) < (l1 : Int) := by omega
                obtain ⟨b, off, rfl, hc, hwf⟩ := hrow.out t htl
                have hblt : b < B := by rw [HB.out]; exact World.block_lt_of_cell? w ⟨b, off + t, none⟩ hc
                have hx : z1.getD t 0 = hf l1 z1 t := by simp [hf, htl]
                rw [hx] at hc
                obtain ⟨x, hxe⟩ : ∃ x, x = hf l1 z1 t := ⟨_, rfl⟩
                rw [← hxe] at hc
                have HX := hide hxe
                clear hxe hx
                have hcr : wr.cell? ⟨b, off + t, none⟩ = some (.int .u32 x) := (bH.cell (p := ⟨b, off + t, none⟩) hblt).trans hc
                clear hc hwf
                go_wp2_with fail
                go_roundw
                case rel => exact ⟨t + 1, by omega, by go_num, by rw [← hashL_set, ← HX.out]; exact oH.stored t x, bH.setCell (Nat.le_refl _) _⟩
                case measure => simp [intOf]; omega
              · have htl' : ¬ (t : Int) < (l1 : Int) := by omega
                clear fz cl
                go_wp2_with fail
                go_roundw
                case rel => exact ⟨t + 1, by omega, by go_num, by rw [← hashL_skip htl]; exact oH, bH⟩
                case measure => simp [intOf]; omega
          · as_aux_lemma =>
              obtain rfl : m = t := by omega
              clear oA bA
              go_wp2_with (at_make; refine wpList_make_own _ rfl _ _ 23 rfl B 24 i0 (.int .u32 0) 1 Yba.underlying23 hi hz0 hz1 _ _ _ m rfl rfl rfl ?b2 ?b3 ?b4 ?_)
              case b2 => first | omega | (rw [hz2]; omega)
              case b3 => unfold maxLen; omega
              case b4 => have := oH.hi; omega
              intro wS hown hgrow
              obtain ⟨S, hS⟩ : ∃ n, n = wr.heap.size := ⟨_, rfl⟩
              rw [← hS] at hown ⊢
              have hBS : B < S := by have := oH.hi; omega
              have oS : Own .u32 24 wS B S 0 m (stL K 0) := ⟨rfl, hown⟩
              have hSw : S < wS.heap.size := oS.hi
              have oH2 : Own .u32 24 wS B B m m (hashL l1 z1 m m) := oH.keep (hgrow.block B (by omega) (by simp))
              have bS : Below B w wS := bH.trans ⟨hgrow.os, hgrow.tape, hgrow.output, hgrow.size, fun j hj => hgrow.block j (by omega) (by simp)⟩
              clear hown hgrow oH bH hS
              obtain ⟨i1, hj, hy0, hy1, hy2⟩ := info_parts info5
              go_wp2_with fail
              go_loopw [16, 17, 18] (fun v u s wr => ∃ t N : Nat, t ≤ m ∧ s = .int .i64 t ∧ u = .slice (some ⟨S, 0, none⟩) t m ∧ Hid (N = (bytesL K t).length) ∧ N ≤ 1030 * t ∧ (0 < t → v ≠ .slice none 0 0) ∧ wr.ownsRow (S + 1) 5 1 v N ((bytesL K t).map (Value.int .u8)) ∧
                Own .u32 24 wr B S t m (stL K t) ∧ Own .u32 24 wr B B m m (hashL l1 z1 m m) ∧ Below B w wr) (fun _ _ s _ => m - (intOf s).toNat)
              case atStart => exact ⟨0, 0, Nat.zero_le _, rfl, rfl, rfl, Nat.zero_le _, fun h => absurd h (Nat.lt_irrefl 0), World.ownsRow_nil _ _ _ _, oS, oH2, bS⟩
              case round =>
                obtain ⟨t, N, ht, rfl, rfl, HN, hN, hnz, oB, oT, oG, bT⟩ := hrel
                by_cases hlt3 : t < m
                · as_aux_lemma =>
                    have hil : (t : Int) < (m : Int) := by omega
                    have hi0 : (0 : Int) ≤ (t : Int) := by omega
                    obtain ⟨b, off, rfl, hc⟩ := hstr.out t hlt3
                    have hblt : b < B := by rw [HB.out]; exact World.block_lt_of_cell? w ⟨b, off + t, none⟩ hc
                    have hsz := hK.out t hlt3
                    obtain ⟨kt, hkt⟩ : ∃ kt, kt = K t := ⟨_, rfl⟩
                    rw [← hkt] at hc hsz
                    have HKT := hide hkt
                    clear hkt
                    obtain ⟨av, cv, rfl⟩ := own_len oB
                    have hTs : S < wr.heap.size := oT.hi
                    have oTx := oT.2
                    go_wp2_with (at_builtin; refine wpList_append_fits _ rfl (.tmp 76) (.tmp 80) 23 rfl B 24 i0 1 Yba.underlying23 hi hz1 S t m _ rfl (oTx.alloc _) ⟨wr.heap.size, 0, none⟩ 1 1 [.int .u32 (N : Int)] rfl rfl (cell_one_new _ _ _) (by simp [Value.oneCell']) (by omega) ?_)
                    intro w1 own1 g1
                    have oT1 : Own .u32 24 w1 B S (t + 1) m (stL K (t + 1)) := ⟨stL_length _, by rw [stL_succ, List.map_append]; have e := HN.out; unfold startOf; rw [← e]; exact own1⟩
                    obtain ⟨kB, kbel, ksz⟩ := keepers g1 hBS hTs
                    have oB1 := (oB.alloc (.cells #[.int .u32 (N : Int)] 24)).kept g1 (by
                      rcases hv : (Value.slice av N cv).ownBlock with _ | kk
                      · exact .inl rfl
                      · right
                        have := (oB.lt kk hv).1
                        simp; omega)
                    have oG1 := oG.keep kB
                    have bT1 := bT.trans kbel
                    have hw1 : S + 1 ≤ w1.heap.size := by omega
                    clear own1 g1 kB kbel ksz oB oT oTx oG bT
                    have hc1 : w1.cell? ⟨b, off + t, none⟩ = some (.string kt) := (bT1.cell (p := ⟨b, off + t, none⟩) hblt).trans hc
                    go_wp2_with fail
                    refine (appU oB1 hw1 kt.size hsz (by omega)).mono ?_
                    rintro e w2 ⟨v2, rfl, hv2, oB2, bB2⟩
                    have oT2 := oT1.keep (bB2.block S (by omega))
                    have oG2 := oG1.keep (bB2.block B (by omega))
                    have bT2 := bT1.trans (bB2.mono (by omega))
                    have hw2 : S + 1 ≤ w2.heap.size := Nat.le_trans hw1 bB2.size
                    clear oB1 oT1 oG1 bT1 hc1 bB2
                    have hc2 : w2.cell? ⟨b, off + t, none⟩ = some (.string kt) := (bT2.cell (p := ⟨b, off + t, none⟩) hblt).trans hc
                    have hu2 := uv_le kt.size
                    go_wp2_with (at_builtin; refine Go.Lib.wpList_append_own_string _ rfl (.tmp 90) (.tmp 94) 25 9 rfl (S + 1) 5 i1 Yba.underlying25 Yba.underlying9 hj hy0 hy1 hy2 _ _ _ rfl oB2 kt rfl (by unfold maxLen; omega) (by omega) hw2 ?_)
                    intro v3 w3 oB3 g3 hn3
                    obtain ⟨bB3, hw3⟩ := below_str oB2 hw2 g3
                    have hv3 : v3 ≠ .slice none 0 0 := by first | exact hn3 | exact fun e => hv2 (hn3.1 e).1
                    have oT3 := oT2.keep (bB3.block S (by omega))
                    have oG3 := oG2.keep (bB3.block B (by omega))
                    have bT3 := bT2.trans (bB3.mono (by omega))
                    replace oB3 : w3.ownsRow (S + 1) 5 1 v3 (N + (uv kt.size).length + kt.size) ((bytesL K t ++ uv kt.size ++ kb kt).map (Value.int .u8)) := by simpa [kb_cells] using oB3
                    clear oB2 oT2 oG2 bT2 hc2 bB3 g3 hn3 hv2
                    obtain ⟨r, hr⟩ : ∃ r : Nat, r = t % 3 := ⟨_, rfl⟩
                    have hr3 : r < 3 := by omega
                    have hri : (t : Int) % 3 = (r : Int) := by omega
                    have HRM := hide hr
                    clear hr
                    go_wp2_with fail
                    have hNb : N + (uv kt.size).length + kt.size ≤ 16777216 := by omega
                    refine (appU (N := N + (uv kt.size).length + kt.size) oB3 hw3 r (by omega) hNb).mono ?_
                    rintro e w4 ⟨v4, rfl, hv4, oB4, bB4⟩
                    have oT4 := oT3.keep (bB4.block S (by omega))
                    have oG4 := oG3.keep (bB4.block B (by omega))
                    have bT4 := bT3.trans (bB4.mono (by omega))
                    have hw4 : S + 1 ≤ w4.heap.size := Nat.le_trans hw3 bB4.size
                    clear oB3 oT3 oG3 bT3 bB4 hv3
                    have hu4 := uv_le r
                    obtain ⟨vs, hvs⟩ : ∃ vs, vs = ByteArray.extract ⟨#[118, 118, 118]⟩ 0 r := ⟨_, rfl⟩
                    obtain ⟨hv1, hv2⟩ := vvv r hr3
                    rw [← hvs] at hv1 hv2
                    have hsl : ∀ W, (Instr.slice 9 (.string ⟨#[118, 118, 118]⟩) none (some (.int .i64 (r : Int))) none).run Yba.prog W = .ok (.string vs) W := fun W => by
                      have := run_slice_string_h W 9 ⟨#[118, 118, 118]⟩ Yba.underlying9 .i64 (r : Int) (by omega) (show (r : Int) ≤ ((3 : Nat) : Int) by omega)
                      rw [hvs]
                      simpa using this
                    clear hvs
                    go_wp2_with (at_builtin; refine Go.Lib.wpList_append_own_string _ rfl (.tmp 101) (.tmp 104) 25 9 rfl (S + 1) 5 i1 Yba.underlying25 Yba.underlying9 hj hy0 hy1 hy2 _ _ _ rfl oB4 vs rfl (by unfold maxLen; omega) (by omega) hw4 ?_)
                    intro v5 w5 oB5 g5 hn5
                    obtain ⟨bB5, hw5⟩ := below_str oB4 hw4 g5
                    have hv5 : v5 ≠ .slice none 0 0 := by first | exact hn5 | exact fun e => hv4 (hn5.1 e).1
                    have oT5 := oT4.keep (bB5.block S (by omega))
                    have oG5 := oG4.keep (bB5.block B (by omega))
                    have bT5 := bT4.trans (bB5.mono (by omega))
                    replace oB5 : w5.ownsRow (S + 1) 5 1 v5 (N + (uv kt.size).length + kt.size + (uv r).length + r) ((bytesL K t ++ uv kt.size ++ kb kt ++ uv r ++ List.replicate r 118).map (Value.int .u8)) := by simpa [hv1, hv2] using oB5
                    clear oB4 oT4 oG4 bT4 bB5 g5 hn5 hv4 hsl
                    go_wp2_with fail
                    go_roundw
                    case rel =>
                      have e : bytesL K (t + 1) = bytesL K t ++ uv kt.size ++ kb kt ++ uv r ++ List.replicate r 118 := by
                        simp [bytesL, encE, HRM.out, HKT.out]
                      refine ⟨t + 1, N + (uv kt.size).length + kt.size + (uv r).length + r, by omega, by go_num, rfl, ?_, by omega, fun _ => hv5, by rw [e]; exact oB5, oT5, oG5, bT5⟩
                      show _ = _
                      rw [e]
                      simp only [List.length_append, List.length_replicate, kb_length]
                      have := HN.out
                      omega
                    case measure => simp [intOf]; omega
                · as_aux_lemma =>
                    obtain rfl : m = t := by omega
                    have hT : S < wr.heap.size := oT.hi
                    rename World => wz
                    obtain ⟨T, hTz⟩ : ∃ n, n = wz.heap.size := ⟨_, rfl⟩
                    have hST : S < T := by omega
                    have hash : Hid (∀ j, j < m → ∀ W, Below T wz W → W.cell? ⟨B, j, none⟩ = some (.int .u32 (hf l1 z1 j))) := fun j hj W hW => by
                      rw [hW.cell (p := ⟨B, j, none⟩) (show B < T by omega), oG.cell hj, hashL_at hj]
                    obtain ⟨i2, hk2, hw0, hw1, hw2⟩ := info_parts info3
                    clear oS oH2 bS
                    go_wp2_with (at_make; refine wpList_make_own _ rfl _ _ 28 rfl T 3 i2 (.int .i64 0) 1 Yba.underlying28 hk2 hw0 hw1 _ _ _ m rfl rfl rfl ?b2 ?b3 ?b4 ?_)
                    case b2 => first | omega | (rw [hw2]; omega)
                    case b3 => unfold maxLen; omega
                    case b4 => omega
                    intro wO hown hgrow
                    rw [← hTz] at hown ⊢
                    have oO : Own .i64 3 wO T T 0 m [] := ⟨rfl, hown⟩
                    have bO : Below T wz wO := ⟨hgrow.os, hgrow.tape, hgrow.output, hgrow.size, fun j hj => hgrow.block j (by omega) (by simp)⟩
                    have HTZ := hide hTz
                    clear hown hgrow hTz
                    go_wp2_with fail
                    go_loopw [19, 20] (fun u s wr => ∃ (t : Nat) (ol : List Int), t ≤ m ∧ s = .int .i64 t ∧ u = .slice (some ⟨T, 0, none⟩) t m ∧ Own .i64 3 wr T T t m ol ∧ Hid (Srt (hf l1 z1) ol) ∧ Hid (Low m ol) ∧ Below T wz wr) (fun _ s _ => m - (intOf s).toNat)
                    case atStart => exact ⟨0, [], Nat.zero_le _, rfl, rfl, oO, fun a b _ hb => absurd hb (Nat.not_lt_zero _), fun a ha => absurd ha (Nat.not_lt_zero _), bO⟩
                    case round =>
                      obtain ⟨t, ol, ht, rfl, rfl, oL, hsrt, hlow, bL⟩ := hrel
                      by_cases hlt4 : t < m
                      · as_aux_lemma =>
                          have hil : (t : Int) < (m : Int) := by omega
                          have hi0 : (0 : Int) ≤ (t : Int) := by omega
                          have oLx := oL.2
                          have hTs : T < wr.heap.size := oL.hi
                          go_wp2_with (at_builtin; refine wpList_append_fits _ rfl (.tmp 115) (.tmp 117) 28 rfl T 3 i2 1 Yba.underlying28 hk2 hw1 T t m _ rfl (oLx.alloc _) ⟨wr.heap.size, 0, none⟩ 1 1 [.int .i64 (t : Int)] rfl rfl (cell_one_new _ _ _) (by simp [Value.oneCell']) (by omega) ?_)
                          intro w1 own1 g1
                          have hol : ol.length = t := oL.1
                          have oI : Own .i64 3 w1 T T (t + 1) m (ins ol t t) := by
                            have e : ins ol t (t : Int) = ol ++ [(t : Int)] := by rw [ins_end, hol]
                            rw [e]
                            exact ⟨by simp [hol], by simpa using own1⟩
                          have bI : Below T wz w1 := by
                            have a := World.grownBy_alloc wr (.cells #[.int .i64 (t : Int)] 3) none
                            exact bL.trans ⟨g1.os.trans a.os, g1.tape.trans a.tape, g1.output.trans a.output, Nat.le_trans a.size g1.size, fun j hj => (g1.block j (Nat.lt_of_lt_of_le (by omega) a.size) (by simp; omega)).trans (a.block j (by omega) (by simp))⟩
                          clear own1 g1 oL oLx bL
                          have hol' := hide hol
                          clear hol
                          go_wp2_with fail
                          go_loopw [21] (fun s wq => ∃ (p : Nat) (x : Int), p ≤ t ∧ s = .int .i64 p ∧ Own .i64 3 wq T T (t + 1) m (ins ol p x) ∧ Hid (∀ a, p ≤ a → a < t → hf l1 z1 t < hf l1 z1 (ol.getD a 0).toNat) ∧ Below T wz wq) (fun s _ => (intOf s).toNat)
                          case atStart => exact ⟨t, t, Nat.le_refl _, rfl, oI, fun a h1 h2 => absurd h1 (by omega), bI⟩
                          case round =>
                            rename World => wq
                            obtain ⟨p, x, hp, rfl, oQ, hgt, bQ⟩ := hrel
                            have hol := hol'.out
                            have fz := oQ.frozen p
                            have cp := oQ.cell (show p < t + 1 by omega)
                            have hpi : (p : Int) < ((t + 1 : Nat) : Int) := by omega
                            have hpi' : (p : Int) < (t : Int) + 1 := by omega
                            have hp0 : (0 : Int) ≤ (p : Int) := by omega
                            rw [ins_at (by omega), if_neg (by omega), if_pos rfl] at cp
                            have ct := hash.out t hlt4 wq bQ
                            have fin : ∀ nd, (∀ a, a < p → hf l1 z1 (ol.getD a 0).toNat ≤ hf l1 z1 t) → Own .i64 3 ((wq.drewN nd).setCell ⟨T, p, none⟩ (.int .i64 (t : Int))) T T (t + 1) m (ins ol p t) ∧ Hid (Srt (hf l1 z1) (ins ol p t)) ∧ Hid (Low m (ins ol p t)) ∧ Below T wz ((wq.drewN nd).setCell ⟨T, p, none⟩ (.int .i64 (t : Int))) := fun nd hle => by
                              have o1 : Own .i64 3 (wq.drewN nd) T T (t + 1) m (ins ol p x) := oQ.keep rfl
                              refine ⟨?_, ?_, ?_, (below_drewN bQ).setCell (Nat.le_refl _) _⟩
                              · have := o1.stored p (t : Int)
                                rwa [ins_set (by omega)] at this
                              · exact srt_ins hsrt.out (by omega) (by simpa using hle) (fun a h1 h2 => by have := hgt.out a h1 (by omega); rw [Int.toNat_natCast]; omega)
                              · exact low_ins hlow.out (by omega) (by omega) (by omega)
                            have FIN := hide fin
                            clear fin hol
                            by_cases hpp : 0 < p
                            · obtain ⟨p', rfl⟩ : ∃ p', p = p' + 1 := ⟨p - 1, by omega⟩
                              have hd : decide (((p' + 1 : Nat) : Int) > 0) = true := decide_eq_true (by omega)
                              have hol := hol'.out
                              have cy := oQ.cell (show p' < t + 1 by omega)
                              rw [ins_at (by omega), if_pos (by omega)] at cy
                              obtain ⟨y0, y1⟩ := hlow.out p' (by omega)
                              obtain ⟨y, hy⟩ : ∃ y : Nat, ol.getD p' 0 = (y : Int) := ⟨(ol.getD p' 0).toNat, by omega⟩
                              rw [hy] at cy y1
                              have cz := hash.out y (by omega) wq bQ
                              have HY := hide hy
                              have oS1 : Own .i64 3 (wq.setCell ⟨T, p' + 1, none⟩ (.int .i64 (y : Int))) T T (t + 1) m (ins ol p' (y : Int)) := by
                                have h1 := oQ.stored (p' + 1) (y : Int)
                                have e : ins ol (p' + 1) (y : Int) = ins ol p' (y : Int) := by rw [← hy]; exact ins_shift (by omega)
                                rwa [ins_set (by omega), e] at h1
                              clear hy y0 hol
                              obtain ⟨hx1, hxe1⟩ : ∃ v, v = hf l1 z1 y := ⟨_, rfl⟩
                              obtain ⟨hx2, hxe2⟩ : ∃ v, v = hf l1 z1 t := ⟨_, rfl⟩
                              rw [← hxe1] at cz
                              rw [← hxe2] at ct
                              have HE1 := hide hxe1
                              have HE2 := hide hxe2
                              clear hxe1 hxe2
                              have hyi : (y : Int) < (m : Int) := by omega
                              have hy0 : (0 : Int) ≤ (y : Int) := by omega
                              go_wp2_with fail
                              go_quiet (fail)
                              by_cases hcmp : hx2 < hx1
                              · have hd2 : decide (hx2 < hx1) = true := decide_eq_true hcmp
                                have hgt2 : Hid (∀ a, p' ≤ a → a < t → hf l1 z1 t < hf l1 z1 (ol.getD a 0).toNat) := fun a h1 h2 => by
                                  by_cases e : a = p'
                                  · subst e
                                    rw [HY.out, Int.toNat_natCast, ← HE1.out, ← HE2.out]
                                    exact hcmp
                                  · exact hgt.out a (by omega) h2
                                have oS2 : Own .i64 3 ((wq.drewN nq).setCell ⟨T, p' + 1, none⟩ (.int .i64 (y : Int))) T T (t + 1) m (ins ol p' (y : Int)) := oS1.keep rfl
                                have bS2 : Below T wz ((wq.drewN nq).setCell ⟨T, p' + 1, none⟩ (.int .i64 (y : Int))) := (below_drewN bQ).setCell (Nat.le_refl _) _
                                clear oS1 oQ bQ hgt FIN
                                go_wp2_with fail
                                go_roundw
                                case rel => exact ⟨p', _, by omega, by go_num, oS2, hgt2, bS2⟩
                                case measure => simp [intOf]
                              · have hd2 : decide (hx2 < hx1) = false := decide_eq_false hcmp
                                have F2 := hide (FIN.out nq (fun a ha => by
                                  have h1 := hsrt.out a p' (by omega) (by have := hol'.out; omega)
                                  rw [HY.out, Int.toNat_natCast, ← HE1.out] at h1
                                  rw [← HE2.out]
                                  omega))
                                clear oS1 oQ bQ hgt FIN
                                go_wp2_with fail
                                obtain ⟨f1, f2, f3, f4⟩ := F2.out
                                go_roundw
                                case rel => exact ⟨t + 1, _, by omega, by go_num, rfl, f1, f2, f3, f4⟩
                                case measure => simp [intOf]; omega
                            · obtain rfl : p = 0 := by omega
                              go_wp2_with fail
                              go_quiet (fail)
                              have F2 := hide (FIN.out nq (fun a ha => absurd ha (Nat.not_lt_zero _)))
                              clear oQ bQ hgt FIN
                              go_wp2_with fail
                              obtain ⟨f1, f2, f3, f4⟩ := F2.out
                              go_roundw
                              case rel => exact ⟨t + 1, _, by omega, by go_num, rfl, f1, f2, f3, f4⟩
                              case measure => simp [intOf]; omega
                      · as_aux_lemma =>
                          obtain rfl : m = t := by omega
                          rename World => wy
                          have hol := oL.1
                          obtain ⟨rk, hrk⟩ : ∃ rk : Nat → Nat, ∀ j, j < m → ol.getD j 0 = (rk j : Int) ∧ rk j < m := ⟨fun j => (ol.getD j 0).toNat, fun j hj => by have h := hlow.out j (by omega); exact ⟨(Int.toNat_of_nonneg h.1).symm, by show (ol.getD j 0).toNat < m; omega⟩⟩
                          have HRK := hide hrk
                          have hrise : Hid (Rises (rowG (fun j => hf l1 z1 (rk j)) m m)) := fun i j hij hj => by
                            rw [rowG_length] at hj
                            rw [rowG_at (by omega), rowG_at hj]
                            have := hsrt.out i j hij (by omega)
                            rw [(hrk i (by omega)).1, (hrk j hj).1, Int.toNat_natCast, Int.toNat_natCast] at this
                            exact this
                          obtain ⟨U, hU⟩ : ∃ n, n = wy.heap.size := ⟨_, rfl⟩
                          have hTU : T < U := by have := oL.hi; omega
                          have ordc : Hid (∀ j, j < m → ∀ W, Below U wy W → W.cell? ⟨T, j, none⟩ = some (.int .i64 (rk j))) := fun j hj W hW => by
                            rw [hW.cell (p := ⟨T, j, none⟩) hTU, oL.cell hj, (hrk j hj).1]
                          have hash2 : Hid (∀ j, j < m → ∀ W, Below U wy W → W.cell? ⟨B, j, none⟩ = some (.int .u32 (hf l1 z1 j))) := fun j hj W hW => hash.out j hj W (bL.trans (hW.mono (by omega)))
                          clear hrk hol hsrt hlow oO bO hash oL
                          go_wp2_with (at_make; refine wpList_make_full _ rfl _ _ 23 rfl U 24 i0 (.int .u32 0) 1 Yba.underlying23 hi hz0 hz1 _ _ _ _ m rfl rfl rfl rfl ?b2 ?b3 ?b4 ?_)
                          case b2 => first | omega | (rw [hz2]; omega)
                          case b3 => unfold maxLen; omega
                          case b4 => omega
                          intro wM hown hgrow
                          rw [← hU] at hown ⊢
                          have oM : Own .u32 24 wM U U m m (List.replicate m 0) := own_made (by simpa using hown)
                          have bM : Below U wy wM := ⟨hgrow.os, hgrow.tape, hgrow.output, hgrow.size, fun j hj => hgrow.block j (by omega) (by simp)⟩
                          have HU := hide hU
                          clear hown hgrow hU
                          go_wp2_with (at_make; refine wpList_make_full _ rfl _ _ 23 rfl U 24 i0 (.int .u32 0) 1 Yba.underlying23 hi hz0 hz1 _ _ _ _ m rfl rfl rfl rfl ?b2 ?b3 ?b4 ?_)
                          case b2 => first | omega | (rw [hz2]; omega)
                          case b3 => unfold maxLen; omega
                          case b4 => have := oM.hi; omega
                          intro wR hown hgrow
                          obtain ⟨R, hR⟩ : ∃ n, n = wM.heap.size := ⟨_, rfl⟩
                          rw [← hR] at hown ⊢
                          have hUR : U < R := by have := oM.hi; omega
                          have oR : Own .u32 24 wR U R m m (rowG (fun j => (rk j : Int)) m 0) := by rw [rowG_zero]; exact own_made (by simpa using hown)
                          have oM2 : Own .u32 24 wR U U m m (rowG (fun j => hf l1 z1 (rk j)) m 0) := by rw [rowG_zero]; exact oM.keep (hgrow.block U (by omega) (by simp))
                          have bR : Below U wy wR := bM.trans ⟨hgrow.os, hgrow.tape, hgrow.output, hgrow.size, fun j hj => hgrow.block j (by omega) (by simp)⟩
                          clear hown hgrow hR oM bM
                          go_wp2_with fail
                          go_loopw [24] (fun s wr => ∃ t : Nat, t ≤ m ∧ s = .int .i64 t ∧ Own .u32 24 wr U U m m (rowG (fun j => hf l1 z1 (rk j)) m t) ∧ Own .u32 24 wr U R m m (rowG (fun j => (rk j : Int)) m t) ∧ Below U wy wr) (fun s _ => m - (intOf s).toNat)
                          case atStart => exact ⟨0, Nat.zero_le _, rfl, oM2, oR, bR⟩
                          case round =>
                            rename World => wq
                            obtain ⟨t, ht, rfl, oM, oR, bQ⟩ := hrel
                            by_cases hlt5 : t < m
                            · as_aux_lemma =>
                                have hil : (t : Int) < (m : Int) := by omega
                                have hi0 : (0 : Int) ≤ (t : Int) := by omega
                                obtain ⟨y, hy⟩ : ∃ y, y = rk t := ⟨_, rfl⟩
                                have hym : y < m := by rw [hy]; exact (HRK.out t hlt5).2
                                have co := ordc.out t hlt5 wq bQ
                                rw [← hy] at co
                                have ch := hash2.out y hym wq bQ
                                obtain ⟨x, hx⟩ : ∃ x, x = hf l1 z1 y := ⟨_, rfl⟩
                                rw [← hx] at ch
                                have o1 := oM.stored t x
                                have e1 : (rowG (fun j => hf l1 z1 (rk j)) m t).set t x = rowG (fun j => hf l1 z1 (rk j)) m (t + 1) := by rw [hx, hy]; exact rowG_set (f := fun j => hf l1 z1 (rk j))
                                rw [e1] at o1
                                have b1 : Below U wy (wq.setCell ⟨U, t, none⟩ (.int .u32 x)) := bQ.setCell (Nat.le_refl _) _
                                have o2 : Own .u32 24 (wq.setCell ⟨U, t, none⟩ (.int .u32 x)) U R m m (rowG (fun j => (rk j : Int)) m t) := oR.keep (Go.Deep.blk_setCell_other _ _ _ _ (by simp; omega))
                                have o3 := o2.stored t (y : Int)
                                have e2 : (rowG (fun j => (rk j : Int)) m t).set t (y : Int) = rowG (fun j => (rk j : Int)) m (t + 1) := by rw [hy]; exact rowG_set (f := fun j => (rk j : Int))
                                rw [e2] at o3
                                have o4 : Own .u32 24 ((wq.setCell ⟨U, t, none⟩ (.int .u32 x)).setCell ⟨R, t, none⟩ (.int .u32 (y : Int))) U U m m (rowG (fun j => hf l1 z1 (rk j)) m (t + 1)) := o1.keep (Go.Deep.blk_setCell_other _ _ _ _ (by simp; omega))
                                have b2 : Below U wy ((wq.setCell ⟨U, t, none⟩ (.int .u32 x)).setCell ⟨R, t, none⟩ (.int .u32 (y : Int))) := b1.setCell (by show U ≤ R; omega) _
                                have fz1 := oM.frozen t
                                have cm1 := oM.cell hlt5
                                have fz2 := o2.frozen t
                                have cm2 := o2.cell hlt5
                                have co2 : (wq.setCell ⟨U, t, none⟩ (.int .u32 x)).cell? ⟨T, t, none⟩ = some (.int .i64 (y : Int)) := by rw [hy]; exact ordc.out t hlt5 _ b1
                                have hyi : (y : Int) < (m : Int) := by omega
                                have hy0 : (0 : Int) ≤ (y : Int) := by omega
                                have hyw : (y : Int) ≤ 4294967295 := by omega
                                clear e1 e2 hy hx oM oR o1 o2 b1 bQ
                                go_wp2_with fail
                                go_roundw
                                case rel => exact ⟨t + 1, by omega, by go_num, o4, o3, b2⟩
                                case measure => simp [intOf]; omega
                            · as_aux_lemma =>
                                obtain rfl : m = t := by omega
                                have hfb : Hid (∀ j, 0 ≤ hf l1 z1 j ∧ hf l1 z1 j ≤ 4294967295) := fun j => by
                                  by_cases e : j < l1
                                  · obtain ⟨b, off, _, _, hwf⟩ := hrow.out j e
                                    have := bounds_u32 hwf
                                    simpa [hf, e] using this
                                  · simp [hf, e]
                                have bB2 : Below B w wq := (bT.trans (bL.mono (by omega))).trans (bQ.mono (by omega))
                                go_upto_if 180 with fail
                                go_cut [25, 26] (fun s u wd => ∃ (q' : ByteArray) (h' : Int), s = .string q' ∧ u = .int .u32 h' ∧ (0 ≤ h' ∧ h' ≤ 4294967295) ∧ wq = wd)
                                case first =>
                                  as_aux_lemma =>
                                    by_cases hm0 : 0 < m
                                    · simp only [hm0, decide_true]
                                      obtain ⟨y, hy⟩ : ∃ y : Nat, y = (pk.toNat / 3) % m := ⟨_, rfl⟩
                                      have hym : y < m := by rw [hy]; exact Nat.mod_lt _ hm0
                                      have hyi : pk / 3 % (m : Int) = (y : Int) := by rw [hy, Int.natCast_emod, Int.natCast_ediv, Int.toNat_of_nonneg hpk.1]; rfl
                                      clear hy
                                      have hyi1 : (y : Int) < (m : Int) := by omega
                                      have hyi0 : (0 : Int) ≤ (y : Int) := by omega
                                      have ch := hash2.out y hym wq bQ
                                      have hb := hfb.out y
                                      obtain ⟨x, hx⟩ : ∃ x, x = hf l1 z1 y := ⟨_, rfl⟩
                                      rw [← hx] at ch hb
                                      clear hx
                                      obtain ⟨b, off, rfl, hc⟩ := hstr.out y hym
                                      have hblt : b < B := by rw [HB.out]; exact World.block_lt_of_cell? w ⟨b, off + y, none⟩ hc
                                      have hc1 : wq.cell? ⟨b, off + y, none⟩ = some (.string (K y)) := (bB2.cell (p := ⟨b, off + y, none⟩) hblt).trans hc
                                      have h3 : pk % 3 = 0 ∨ pk % 3 = 1 ∨ pk % 3 = 2 := by omega
                                      rcases h3 with h3 | h3 | h3
                                      · go_wp2_with fail
                                        go_meet
                                        exact ⟨q, h, rfl, rfl, hh, rfl⟩
                                      · go_wp2_with fail
                                        go_meet
                                        exact ⟨_, x, rfl, rfl, hb, rfl⟩
                                      · go_wp2_with fail
                                        go_meet
                                        exact ⟨q, x, rfl, rfl, hb, rfl⟩
                                    · obtain rfl : m = 0 := by omega
                                      go_wp2_with fail
                                      go_meet
                                      exact ⟨q, h, rfl, rfl, hh, rfl⟩
                                case rest =>
                                  as_aux_lemma =>
                                    obtain ⟨q', h', rfl, rfl, hh', rfl⟩ := hcut
                                    obtain ⟨V, hV⟩ : ∃ n, n = wq.heap.size := ⟨_, rfl⟩
                                    have hRV : R < V := by have := oR.hi; omega
                                    go_upto_region 55 with fail
                                    rw [← hV]
                                    have bV : Below V wq (wq.alloc (.cells #[.int .i64 0, .int .i64 0, .slice none 0 0, .slice none 0 0, .slice none 0 0, .pointer none, .pointer none, .pointer none] 33)) := ⟨rfl, rfl, rfl, (World.grownBy_alloc wq _ none).size, fun k hk => (World.grownBy_alloc wq _ none).block k (by omega) (by simp)⟩
                                    have nV : (wq.alloc (.cells #[.int .i64 0, .int .i64 0, .slice none 0 0, .slice none 0 0, .slice none 0 0, .pointer none, .pointer none, .pointer none] 33)).heap[V]? = some (.cells #[.int .i64 0, .int .i64 0, .slice none 0 0, .slice none 0 0, .slice none 0 0, .pointer none, .pointer none, .pointer none] 33) := by rw [hV]; exact heap_alloc_new wq _
                                    have HV := hide hV
                                    clear hV
                                    obtain ⟨wn, hwn⟩ : ∃ wn, wn = wq.alloc (.cells #[.int .i64 0, .int .i64 0, .slice none 0 0, .slice none 0 0, .slice none 0 0, .pointer none, .pointer none, .pointer none] 33) := ⟨_, rfl⟩
                                    rw [← hwn] at bV nV ⊢
                                    clear hwn
                                    have hVn : V < wn.heap.size := (Array.getElem?_eq_some_iff.1 nV).1
                                    obtain ⟨bv, cv, hu⟩ := own_len oB
                                    subst hu
                                    go_cut [209] (fun s wd => ∃ (x0 bp : Value) (bb g : Nat), wd.heap[V]? = some (.cells #[x0, .int .i64 m, .slice (some ⟨S, 0, none⟩) m m, .slice none 0 0, .slice none 0 0, bp, .pointer none, .pointer none] 33) ∧
                                      (0 < m → bp = pt bb ∧ bv = some ⟨g, 0, none⟩ ∧ wd.cell? ⟨bb, 0, none⟩ = some (.slice (some ⟨g, 0, none⟩) N cv) ∧ V < bb ∧ bb < wd.heap.size) ∧ Below V wn wd)
                                    case first =>
                                      as_aux_lemma =>
                                        by_cases hm0 : 0 < m
                                        · obtain ⟨g, cap, hg⟩ := own_form oB (hnz hm0)
                                          simp only [Value.slice.injEq, true_and] at hg
                                          obtain ⟨rfl, rfl⟩ := hg
                                          have hNpos : 0 < N := by rw [HN.out]; exact bytes_pos hm0
                                          have hcall := hide (set_block (w := wn) (nb := V) (g := g) (N := N) (cap := cv) (st := .slice (some ⟨S, 0, none⟩) m m) rfl nV hNpos)
                                          go_wp2_with fail
                                          refine hcall.out.mono ?_
                                          rintro e w' ⟨rfl, t1, t2, t3, t4⟩
                                          go_wp2_with fail
                                          go_meet
                                          exact ⟨_, _, wn.heap.size, g, t1, fun _ => ⟨rfl, rfl, t2, hVn, by omega⟩, t3.os, t3.tape, t3.output, t3.size, fun k hk => t3.block k (by omega) (by simp; omega)⟩
                                        · obtain rfl : m = 0 := by omega
                                          have hN0 : N = 0 := by omega
                                          subst hN0
                                          have hcall := hide (set_block0 (w := wn) (nb := V) (ba := bv) (cap := cv) (st := .slice (some ⟨S, 0, none⟩) 0 0) rfl nV)
                                          go_wp2_with fail
                                          refine hcall.out.mono ?_
                                          rintro e w' ⟨rfl, t1, t3, t4⟩
                                          go_wp2_with fail
                                          go_meet
                                          exact ⟨_, _, 0, 0, t1, fun h => absurd h (Nat.lt_irrefl 0), t3.os, t3.tape, t3.output, t3.size, fun k hk => t3.block k (by omega) (by simp; omega)⟩
                                    case rest =>
                                      as_aux_lemma =>
                                        obtain ⟨x0, bp, bb, g, nd1, hleaf, bn⟩ := hcut
                                        have hVc : V < wc.heap.size := (Array.getElem?_eq_some_iff.1 nd1).1
                                        have f3 : wc.frozen? ⟨V, 3, none⟩ = false := frozen_of_row _ _ _ _ _ nd1
                                        have k3 : wc.cell? ⟨V, 3, none⟩ = some (.slice none 0 0) := by rw [cell_of_row _ _ _ _ _ _ nd1]; rfl
                                        obtain ⟨wA3, e3, a3, g3, z3⟩ := step 3 (.slice (some ⟨U, 0, none⟩) m m) nd1
                                        have f4 : wA3.frozen? ⟨V, 4, none⟩ = false := frozen_of_row _ _ _ _ _ a3
                                        have k4 : wA3.cell? ⟨V, 4, none⟩ = some (.slice none 0 0) := by rw [cell_of_row _ _ _ _ _ _ a3]; rfl
                                        obtain ⟨wA4, e4, a4, g4, z4⟩ := step 4 (.slice (some ⟨R, 0, none⟩) m m) a3
                                        have HND := hide nd1
                                        clear nd1
                                        go_upto_region 58 with fail
                                        obtain ⟨W3, hW3⟩ : ∃ W3, W3 = Go.Lib.bytesWorld wA4 5 q' := ⟨_, rfl⟩
                                        obtain ⟨kc, hkc⟩ : ∃ kc, kc = grownCap wA4 q'.size 0 5 := ⟨_, rfl⟩
                                        obtain ⟨D, hD⟩ : ∃ D, D = wA4.heap.size := ⟨_, rfl⟩
                                        have hconv : (convert 9 25 (.string q')).run Yba.prog wA4 = .ok (.slice (some ⟨D, 0, none⟩) q'.size kc) W3 := by
                                          rw [hW3, hkc, hD]
                                          exact Go.Lib.run_convert_string_bytes wA4 9 25 5 q' Yba.underlying9 Yba.underlying25 Yba.underlying5
                                        have hDc : D = wc.heap.size := hD.trans (z4.trans z3)
                                        have hVD : V < D := by omega
                                        have bc4 : Below V wc wA4 := (grown_below (by omega) (Nat.le_refl _) g3).trans (grown_below (by omega) (Nat.le_refl _) g4)
                                        have bV4 : Below V wq wA4 := (bV.trans bn).trans bc4
                                        have bA4 : Below D wA4 W3 := by rw [hW3, hD]; exact below_bytes _ _ _
                                        have hq3 : Go.Lib.Bytes W3 D 0 q' := by rw [hW3, hD]; exact bytes_new _ _ _
                                        have hs3 : D + 1 = W3.heap.size := by rw [hW3, hD]; exact (Go.Lib.bytesWorld_size _ _ _).symm
                                        clear hW3 hkc
                                        have bV3 : Below V wq W3 := bV4.trans (bA4.mono (by omega))
                                        have bT3 : Below T wz W3 := (bL.trans (bQ.mono (by omega))).trans (bV3.mono (by omega))
                                        have nd3 := (bA4.block V (by omega)).trans a4
                                        have hcap := own_cap oB
                                        have hlf : 0 < m → bp = pt bb ∧ bv = some ⟨g, 0, none⟩ ∧ W3.cell? ⟨bb, 0, none⟩ = some (.slice (some ⟨g, 0, none⟩) N cv) ∧ bb < W3.heap.size := fun h0 => by
                                          obtain ⟨q1, q2, q3, q4, q5⟩ := hleaf h0
                                          refine ⟨q1, q2, ?_, by omega⟩
                                          rw [bA4.cell (p := ⟨bb, 0, none⟩) (by show bb < _; omega), World.cell?_of_block (a := ⟨bb, 0, none⟩) (g4.block bb (by omega) (by simp; omega)), World.cell?_of_block (a := ⟨bb, 0, none⟩) (g3.block bb (by omega) (by simp; omega))]
                                          exact q3
                                        obtain ⟨bb', g', LK, y1, y2⟩ := look_all bT3 bV3 HTZ.out hST (show U < V by omega) hRV oB oT oM oR rfl (fun j hj => rowG_at (f := fun j => (rk j : Int)) hj) nd3 hlf (fun j hj => (HRK.out j hj).2) HN.out.symm hK.out
                                        have hcall := hide (lookup (kc := kc) LK rowG_length hrise.out hm hh' hq3 hcap.1 hcap.2 (show V < W3.heap.size by omega) (show U < W3.heap.size by omega) (show R < W3.heap.size by omega) y1 (show S < W3.heap.size by omega) y2 (by omega))
                                        have shc : Hid (∀ j, j < m → ∀ W, Below V wq W → W.cell? ⟨U, j, none⟩ = some (.int .u32 (hf l1 z1 (rk j)))) := fun j hj W hW => by
                                          rw [hW.cell (p := ⟨U, j, none⟩) (by show U < V; omega), oM.cell hj, rowG_at hj]
                                        have ord3 : Hid (∀ j, j < m → ∀ W, Below V wq W → W.cell? ⟨T, j, none⟩ = some (.int .i64 (rk j))) := fun j hj W hW => ordc.out j hj W (bQ.trans (hW.mono (by omega)))
                                        have key3 : Hid (∀ j, j < m → ∃ b off, a0 = some ⟨b, off, none⟩ ∧ ∀ W, Below V wq W → W.cell? ⟨b, off + j, none⟩ = some (.string (K j))) := fun j hj => by
                                          obtain ⟨b, off, e, hc⟩ := hstr.out j hj
                                          have hblt : b < B := by rw [HB.out]; exact World.block_lt_of_cell? w ⟨b, off + j, none⟩ hc
                                          exact ⟨b, off, e, fun W hW => ((bB2.trans (hW.mono (by omega))).cell (p := ⟨b, off + j, none⟩) hblt).trans hc⟩
                                        have hVW : V ≤ W3.heap.size := by omega
                                        clear hD hDc hs3 hVD z3 z4 LK y1 y2 hcap hlf nd3 hq3 bA4 bc4 bV4 bT3 e3 e4 a3 a4 g3 g4 HND f3 f4 k3 k4 hleaf bn ordc hash2 oM oR oB oT oG
                                        go_wp2_with fail
                                        refine hcall.out.mono ?_
                                        rintro e w5 ⟨r, f, rfl, hF, hM, b5⟩
                                        have bF : Below V wq w5 := bV3.trans (b5.mono hVW)
                                        clear hcall bV3 b5 hVW hconv
                                        have bEnd : Below w.heap.size w w5 := by rw [← HB.out]; exact bB2.trans (bF.mono (by omega))
                                        go_wp2_with fail
                                        cases f
                                        · as_aux_lemma =>
                                            have hMs := hide (hM rfl)
                                            clear hF hM
                                            have hrm : r ≤ m := by have := hMs.out.1.1; rw [rowG_length] at this; exact this
                                            go_loop [31, 32, 33] (fun s u v => s = .int .i64 (-1) ∧ u = .bool false ∧ ∃ k : Nat, k ≤ m ∧ v = .int .i64 k) (fun _ _ v => m - (intOf v).toNat)
                                            case atStart => exact ⟨rfl, rfl, 0, Nat.zero_le _, rfl⟩
                                            case round =>
                                              obtain ⟨rfl, rfl, k, hk, rfl⟩ := hrel
                                              by_cases hlt6 : k < m
                                              · have hil : (k : Int) < (m : Int) := by omega
                                                have hi0 : (0 : Int) ≤ (k : Int) := by omega
                                                have cs := shc.out k hlt6 w5 bF
                                                have co := ord3.out k hlt6 w5 bF
                                                obtain ⟨y, hy⟩ : ∃ y, y = rk k := ⟨_, rfl⟩
                                                have hym : y < m := by rw [hy]; exact (HRK.out k hlt6).2
                                                rw [← hy] at co cs
                                                obtain ⟨b, off, rfl, hck⟩ := key3.out y hym
                                                have ck := hck w5 bF
                                                obtain ⟨x, hx⟩ : ∃ x, x = hf l1 z1 y := ⟨_, rfl⟩
                                                rw [← hx] at cs
                                                obtain ⟨kt, hkt⟩ : ∃ kt, kt = K y := ⟨_, rfl⟩
                                                rw [← hkt] at ck
                                                have hno : x = h' → kt ≠ q' := fun e1 e2 => hMs.out.2 k (by rw [rowG_length]; exact hlt6) ⟨by rw [rowG_at hlt6, ← hy, ← hx]; exact e1, by rw [← hy, ← hkt]; exact e2⟩
                                                have hyi : (y : Int) < (m : Int) := by omega
                                                have hy0 : (0 : Int) ≤ (y : Int) := by omega
                                                clear hy hx hkt hck
                                                by_cases hxh : x = h'
                                                · have hd : (kt.toList == q'.toList) = false := by
                                                    cases e : (kt.toList == q'.toList) with
                                                    | false => rfl
                                                    | true => exact absurd (beq_bytes e.symm) (hno hxh)
                                                  clear hno
                                                  subst hxh
                                                  go_wp2_with fail
                                                  go_round
                                                  case rel => exact ⟨rfl, rfl, k + 1, by omega, by go_num⟩
                                                  case measure => simp [intOf]; omega
                                                · clear hno
                                                  go_wp2_with fail
                                                  go_round
                                                  case rel => exact ⟨rfl, rfl, k + 1, by omega, by go_num⟩
                                                  case measure => simp [intOf]; omega
                                              · obtain rfl : m = k := by omega
                                                go_wp2_with fail
                                                go_loop [31, 34] (fun s v => ∃ k c : Nat, k ≤ m ∧ c ≤ k ∧ Hid (c = min k r) ∧ s = .int .i64 c ∧ v = .int .i64 k) (fun _ v => m - (intOf v).toNat)
                                                case atStart => exact ⟨0, 0, Nat.zero_le _, Nat.zero_le _, (Nat.zero_min _).symm, rfl, rfl⟩
                                                case round =>
                                                  obtain ⟨k, c, hk, hck, HC, rfl, rfl⟩ := hrel
                                                  by_cases hlt7 : k < m
                                                  · have hil : (k : Int) < (m : Int) := by omega
                                                    have hi0 : (0 : Int) ≤ (k : Int) := by omega
                                                    have cs := shc.out k hlt7 w5 bF
                                                    obtain ⟨x, hx⟩ : ∃ x, x = hf l1 z1 (rk k) := ⟨_, rfl⟩
                                                    rw [← hx] at cs
                                                    by_cases hkr : k < r
                                                    · have hlow := hMs.out.1.2.1 k hkr
                                                      rw [rowG_at hlt7, ← hx] at hlow
                                                      clear hx
                                                      go_wp2_with fail
                                                      go_round
                                                      case rel => exact ⟨k + 1, c + 1, by omega, by omega, (by have := HC.out; show c + 1 = min (k + 1) r; omega), by go_num, by go_num⟩
                                                      case measure => simp [intOf]; omega
                                                    · have hhi := hMs.out.1.2.2 k (by omega) (by rw [rowG_length]; exact hlt7)
                                                      rw [rowG_at hlt7, ← hx] at hhi
                                                      have hnl : ¬ x < h' := by omega
                                                      clear hx
                                                      go_wp2_with fail
                                                      go_round
                                                      case rel => exact ⟨k + 1, c, by omega, by omega, (by have := HC.out; show c = min (k + 1) r; omega), rfl, by go_num⟩
                                                      case measure => simp [intOf]; omega
                                                  · obtain rfl : m = k := by omega
                                                    obtain rfl : r = c := by have := HC.out; omega
                                                    go_wp2_with fail
                                                    exact bodyPost_ret (results_tmp rfl _ _ _) rfl ⟨rfl, bEnd⟩
                                        · as_aux_lemma =>
                                            have hFs := hide (hF rfl)
                                            clear hF hM
                                            have hrm : r < m := by have := hFs.out.1; rw [rowG_length] at this; exact this
                                            go_loop [31, 32, 33] (fun s u v => s = .int .i64 (-1) ∧ u = .bool false ∧ ∃ k : Nat, k ≤ r ∧ v = .int .i64 k) (fun _ _ v => m - (intOf v).toNat)
                                            case atStart => exact ⟨rfl, rfl, 0, Nat.zero_le _, rfl⟩
                                            case round =>
                                              obtain ⟨rfl, rfl, k, hk, rfl⟩ := hrel
                                              have hlt6 : k < m := by omega
                                              have hil : (k : Int) < (m : Int) := by omega
                                              have hi0 : (0 : Int) ≤ (k : Int) := by omega
                                              have cs := shc.out k hlt6 w5 bF
                                              have co := ord3.out k hlt6 w5 bF
                                              obtain ⟨y, hy⟩ : ∃ y, y = rk k := ⟨_, rfl⟩
                                              have hym : y < m := by rw [hy]; exact (HRK.out k hlt6).2
                                              rw [← hy] at co cs
                                              obtain ⟨b, off, rfl, hck⟩ := key3.out y hym
                                              have ck := hck w5 bF
                                              obtain ⟨x, hx⟩ : ∃ x, x = hf l1 z1 y := ⟨_, rfl⟩
                                              rw [← hx] at cs
                                              obtain ⟨kt, hkt⟩ : ∃ kt, kt = K y := ⟨_, rfl⟩
                                              rw [← hkt] at ck
                                              have hyi : (y : Int) < (m : Int) := by omega
                                              have hy0 : (0 : Int) ≤ (y : Int) := by omega
                                              by_cases hkr : k < r
                                              · have hno : x = h' → kt ≠ q' := fun e1 e2 => hFs.out.2.2 k hkr ⟨by rw [rowG_at hlt6, ← hy, ← hx]; exact e1, by rw [← hy, ← hkt]; exact e2⟩
                                                clear hy hx hkt hck
                                                by_cases hxh : x = h'
                                                · have hd : (kt.toList == q'.toList) = false := by
                                                    cases e : (kt.toList == q'.toList) with
                                                    | false => rfl
                                                    | true => exact absurd (beq_bytes e.symm) (hno hxh)
                                                  clear hno
                                                  subst hxh
                                                  go_wp2_with fail
                                                  go_round
                                                  case rel => exact ⟨rfl, rfl, k + 1, by omega, by go_num⟩
                                                  case measure => simp [intOf]; omega
                                                · clear hno
                                                  go_wp2_with fail
                                                  go_round
                                                  case rel => exact ⟨rfl, rfl, k + 1, by omega, by go_num⟩
                                                  case measure => simp [intOf]; omega
                                              · obtain rfl : r = k := by omega
                                                have e1 := hFs.out.2.1.1
                                                rw [rowG_at hlt6, ← hy, ← hx] at e1
                                                have e2 := hFs.out.2.1.2
                                                rw [← hy, ← hkt] at e2
                                                clear hy hx hkt hck
                                                subst e1 e2
                                                have hd : (kt.toList == kt.toList) = true := by simp
                                                go_wp2_with fail
                                                exact bodyPost_ret (results_tmp rfl _ _ _) rfl ⟨rfl, bEnd⟩
end Go.Proofs.Ybulkayte
