/-
  lookup.
-/
import Derived.Test.YbulkayteKey
import Derived.Test.YbulkayteLocate
import Derived.Lib.SlBytesRow
namespace Go.Proofs.Ybulkayte
open Go.RowKit

theorem beq_bytes {s t : ByteArray} (e : true = (s.toList == t.toList)) : s = t := by
  rw [ByteArray.toList_eq, ByteArray.toList_eq] at e
  have e' : s.data.toList = t.data.toList := by simpa using e.symm
  exact ByteArray.ext (Array.toList_inj.1 e')
theorem bne_bytes {s t : ByteArray} (e : false = (s.toList == t.toList)) : s ≠ t := by
  rintro rfl
  simp at e

theorem conv_zero (w : World) (p : Option Addr) (c : Nat) : (convert 25 9 (.slice p 0 c)).run Yba.prog w = .ok (.string ByteArray.empty) w := by
  rw [run_convert_bytes_string w 25 9 5 _ 0 c Yba.underlying25 Yba.underlying5 Yba.underlying9]
  cases p <;> simp [Conv.bytesToString, loadCells]
  all_goals rfl

theorem conv_whole {w : World} {b o : Nat} {s : ByteArray} (h : Go.Lib.Bytes w b o s) (cap : Nat) : (convert 25 9 (.slice (some ⟨b, o, none⟩) s.size cap)).run Yba.prog w = .ok (.string s) w :=
  Go.Lib.run_convert_whole w 25 5 9 Yba.underlying25 Yba.underlying5 Yba.underlying9 b o s h cap

theorem conv_word {w : World} {g s k cap : Nat} {K : ByteArray} (h : Go.Lib.Bytes w g (s + k) K) (hc : k + K.size ≤ cap) : (convert 25 9 (wordAt g s K.size k cap)).run Yba.prog w = .ok (.string K) w := by
  unfold wordAt
  by_cases h0 : K.size = 0
  · rw [h0, conv_zero]
    have : K = ByteArray.empty := by
      apply ByteArray.ext
      apply Array.eq_empty_of_size_eq_zero
      exact h0
    rw [this]
  · rw [if_neg (by omega)]
    exact conv_whole h _

/-- One entry of a leaf: it starts at s, its key K. -/
def Entry (w : World) (g N s : Nat) (K : ByteArray) : Prop := ∃ k, 1 ≤ k ∧ k ≤ 2 ∧ Var w g s K.size k ∧ Go.Lib.Bytes w g (s + k) K ∧ s + k + K.size ≤ N ∧ K.size ≤ 1024

/-- What lookup is told. -/
structure Look (w : World) (nb bb sg m sc g N cap hg hc rg rc : Nat) (st hs : List Int) (rk : Nat → Nat) (K : Nat → ByteArray) : Prop where
  leaf : 0 < m → Leaf w nb bb sg m sc g N cap st
  hashes : w.cell? ⟨nb, 3, none⟩ = some (.slice (some ⟨hg, 0, none⟩) m hc)
  ranks : w.cell? ⟨nb, 4, none⟩ = some (.slice (some ⟨rg, 0, none⟩) m rc)
  hrow : ∀ j, j < m → w.cell? ⟨hg, j, none⟩ = some (.int .u32 (hs.getD j 0))
  rrow : ∀ j, j < m → w.cell? ⟨rg, j, none⟩ = some (.int .u32 (rk j))
  rlt : ∀ j, j < m → rk j < m
  ent : ∀ i, i < m → ∃ s : Nat, st.getD i 0 = (s : Int) ∧ Entry w g N s (K i)

/-- What lookup answers. -/
def Found (hs : List Int) (rk : Nat → Nat) (K : Nat → ByteArray) (h : Int) (q : ByteArray) (r : Nat) : Prop := r < hs.length ∧ (hs.getD r 0 = h ∧ K (rk r) = q) ∧ ∀ i, i < r → ¬ (hs.getD i 0 = h ∧ K (rk i) = q)
def Missed (hs : List Int) (rk : Nat → Nat) (K : Nat → ByteArray) (h : Int) (q : ByteArray) (r : Nat) : Prop := Place hs h r ∧ ∀ i, i < hs.length → ¬ (hs.getD i 0 = h ∧ K (rk i) = q)

theorem missed_of {hs : List Int} {rk : Nat → Nat} {K : Nat → ByteArray} {h : Int} {q : ByteArray} {p k : Nat} (hp : Place hs h p) (hr : Rises hs) (hk : ∀ i, p ≤ i → i < k → hs.getD i 0 = h ∧ K (rk i) ≠ q) (hpk : p ≤ k)
    (he : k < hs.length → hs.getD k 0 ≠ h) : Missed hs rk K h q p := by
  refine ⟨hp, fun i hi hx => ?_⟩
  obtain ⟨h1, h2, h3⟩ := hp
  by_cases a1 : i < p
  · have := h2 i a1; omega
  · by_cases a2 : i < k
    · exact (hk i (by omega) a2).2 hx.2
    · have b1 := h3 k hpk (by omega)
      have b2 := he (by omega)
      have b3 := hr k i (by omega) hi
      omega

theorem found_of {hs : List Int} {rk : Nat → Nat} {K : Nat → ByteArray} {h : Int} {q : ByteArray} {p k : Nat} (hp : Place hs h p) (hk : ∀ i, p ≤ i → i < k → hs.getD i 0 = h ∧ K (rk i) ≠ q)
    (hlt : k < hs.length) (he : hs.getD k 0 = h) (hq : K (rk k) = q) : Found hs rk K h q k := by
  refine ⟨hlt, ⟨he, hq⟩, fun i hi hx => ?_⟩
  by_cases a1 : i < p
  · have := hp.2.1 i a1; omega
  · exact (hk i (by omega) hi).2 hx.2

section
variable {w wr : World} {B : Nat}
theorem bytes_later {b o : Nat} {s : ByteArray} (hb : Below B w wr) (h : Go.Lib.Bytes w b o s) (hl : b < B) : Go.Lib.Bytes wr b o s := fun i hi => (hb.cell (p := ⟨b, o + i, none⟩) hl).trans (h i hi)
theorem var_later {g off n k : Nat} (hb : Below B w wr) (h : Var w g off n k) (hl : g < B) : Var wr g off n k := by
  rcases h with ⟨h0, h1, h2⟩ | ⟨h0, h1, h2, h3, h4⟩
  · exact .inl ⟨h0, h1, (hb.cell (p := ⟨g, off, none⟩) hl).trans h2⟩
  · exact .inr ⟨h0, h1, h2, (hb.cell (p := ⟨g, off, none⟩) hl).trans h3, (hb.cell (p := ⟨g, off + 1, none⟩) hl).trans h4⟩
theorem leaf_later {nb bb sg m sc g N cap : Nat} {st : List Int} (hb : Below B w wr) (h : Leaf w nb bb sg m sc g N cap st) (l1 : nb < B) (l5 : sg < B) (l6 : bb < B) : Leaf wr nb bb sg m sc g N cap st :=
  ⟨(hb.cell (p := ⟨nb, 2, none⟩) l1).trans h.starts, (hb.cell (p := ⟨nb, 5, none⟩) l1).trans h.block, (hb.cell (p := ⟨bb, 0, none⟩) l6).trans h.data, fun j hj => (hb.cell (p := ⟨sg, j, none⟩) l5).trans (h.row j hj)⟩
end

set_option maxHeartbeats 1000000 in
set_option maxRecDepth 100000 in
theorem lookup {w : World} {nb bb sg m sc g N cap hg hc rg rc kb kc : Nat} {st hs : List Int} {rk : Nat → Nat} {K : Nat → ByteArray} {h : Int} {q : ByteArray} (L : Look w nb bb sg m sc g N cap hg hc rg rc st hs rk K)
    (hl : hs.length = m) (hr : Rises hs) (hm : m ≤ 256) (hh : 0 ≤ h ∧ h ≤ 4294967295) (hq : Go.Lib.Bytes w kb 0 q) (hNc : N ≤ cap) (hcm : cap ≤ maxLen)
    (l1 : nb < w.heap.size) (l2 : hg < w.heap.size) (l3 : rg < w.heap.size) (l4 : g < w.heap.size) (l5 : sg < w.heap.size) (l6 : bb < w.heap.size) (l7 : kb < w.heap.size) :
    Calls Yba.prog 7 #[pt nb, .slice (some ⟨kb, 0, none⟩) q.size kc, .int .u32 h] w fun e w' => ∃ (r : Nat) (f : Bool), e = .returned (.tuple #[.int .i64 r, .bool f]) ∧ (f = true → Found hs rk K h q r) ∧ (f = false → Missed hs rk K h q r) ∧ Below w.heap.size w w' := by
  have hloc := hide (locate (w := w) (h := h) L.hashes L.hrow l2 l1 hh (by omega) hl hr)
  have HL := hide L
  have HR := hide hr
  have HQ := hide hq
  have hl' := hide hl
  clear L hr hq hl
  go_enter Yba.func7, Yba.ntmps7
  go_wp2_with fail
  refine hloc.out.mono ?_
  rintro e w1 ⟨p, rfl, hp, bel⟩
  clear hloc
  have HP := hide hp
  have hpm : p ≤ m := by have := hp.1; rw [hl'.out] at this; exact this
  clear hp
  go_wp2_with fail
  go_loopw [9] (fun s wr => ∃ k : Nat, p ≤ k ∧ k ≤ m ∧ s = .int .i64 k ∧ Hid (∀ i, p ≤ i → i < k → hs.getD i 0 = h ∧ K (rk i) ≠ q) ∧ Below w.heap.size w wr) (fun s _ => m - (intOf s).toNat)
  case atStart => exact ⟨p, Nat.le_refl _, hpm, rfl, fun i h1 h2 => absurd h1 (by omega), bel⟩
  case round =>
    obtain ⟨k, hk1, hk2, rfl, hmiss, hb⟩ := hrel
    have cH : wr.cell? ⟨nb, 3, none⟩ = some (.slice (some ⟨hg, 0, none⟩) m hc) := (hb.cell (p := ⟨nb, 3, none⟩) l1).trans HL.out.hashes
    have cR : wr.cell? ⟨nb, 4, none⟩ = some (.slice (some ⟨rg, 0, none⟩) m rc) := (hb.cell (p := ⟨nb, 4, none⟩) l1).trans HL.out.ranks
    by_cases hlt : k < m
    · have hi1 : (k : Int) < (m : Int) := by omega
      have hi0 : (0 : Int) ≤ (k : Int) := by omega
      have cx : wr.cell? ⟨hg, k, none⟩ = some (.int .u32 (hs.getD k 0)) := (hb.cell (p := ⟨hg, k, none⟩) l2).trans (HL.out.hrow k hlt)
      have cr : wr.cell? ⟨rg, k, none⟩ = some (.int .u32 (rk k)) := (hb.cell (p := ⟨rg, k, none⟩) l3).trans (HL.out.rrow k hlt)
      obtain ⟨x, hx⟩ : ∃ x, x = hs.getD k 0 := ⟨_, rfl⟩
      rw [← hx] at cx
      have HX := hide hx
      clear hx
      by_cases hxh : x = h
      · subst hxh
        have hrk := HL.out.rlt k hlt
        obtain ⟨s0, hs0, kk, hk1', hk2', hv, hby, hfit, hn⟩ := HL.out.ent (rk k) hrk
        obtain ⟨rr, hrr⟩ : ∃ rr, rr = rk k := ⟨_, rfl⟩
        rw [← hrr] at cr hrk hs0 hv hby hfit hn
        have HRR := hide hrr
        clear hrr
        obtain ⟨KK, hKK⟩ : ∃ KK, KK = K rr := ⟨_, rfl⟩
        rw [← hKK] at hv hby hfit hn
        have HKK := hide hKK
        clear hKK
        have hcall := hide (fun nd => key_of (w := wr.drewN nd) (show Leaf (wr.drewN nd) nb bb sg m sc g N cap st from leaf_later (below_drewN hb) (HL.out.leaf (by omega)) l1 l5 l6) rr hrk s0 KK.size kk hs0 (var_later (below_drewN hb) hv l4) hfit hNc hcm ⟨hk1', hk2'⟩ hn)
        have hc1 : ∀ nd, (convert 25 9 (wordAt g s0 KK.size kk (cap - s0))).run Yba.prog (wr.drewN nd) = .ok (.string KK) (wr.drewN nd) := fun nd => conv_word (bytes_later (below_drewN hb) hby l4) (by omega)
        have hc2 : ∀ nd, (convert 25 9 (.slice (some ⟨kb, 0, none⟩) q.size kc)).run Yba.prog (wr.drewN nd) = .ok (.string q) (wr.drewN nd) := fun nd => conv_whole (bytes_later (below_drewN hb) HQ.out l7) _
        obtain ⟨wd, hwd⟩ : ∃ wd, wd = wordAt g s0 KK.size kk (cap - s0) := ⟨_, rfl⟩
        rw [← hwd] at hc1 hcall
        clear hwd hs0 hv hby hfit hk1' hk2'
        go_wp2_with fail
        go_quiet (exact (hcall.out _).quiet_of)
        have hb2 := below_drewN (nd := nq) hb
        clear hc1 hc2 hcall
        obtain ⟨bv, hbv⟩ : ∃ bv, bv = (KK.toList == q.toList) := ⟨_, rfl⟩
        rw [← hbv]
        have HB := hide hbv
        clear hbv
        cases bv
        · have heq := hide (bne_bytes HB.out)
          clear HB
          go_wp2_with fail
          go_roundw
          case rel =>
            refine ⟨k + 1, by omega, by omega, by go_num, fun i h1 h2 => ?_, hb2⟩
            by_cases e : i = k
            · subst e
              exact ⟨HX.out.symm, by rw [← HRR.out, ← HKK.out]; exact heq.out⟩
            · exact hmiss.out i h1 (by omega)
          case measure => simp [intOf]; omega
        · have heq := hide (beq_bytes HB.out)
          clear HB
          go_wp2_with fail
          refine bodyPost_ret (results_tmp2 rfl _ _ _) rfl ⟨k, true, rfl, fun _ => ?_, fun hf => (by cases hf), hb2⟩
          exact found_of HP.out hmiss.out (by rw [hl'.out]; exact hlt) HX.out.symm (by rw [← HRR.out, ← HKK.out]; exact heq.out)
      · have hne : ¬ x = h := hxh
        go_wp2_with fail
        refine bodyPost_ret (results_tmp2 rfl _ _ _) rfl ⟨p, false, rfl, fun hf => (by cases hf), fun _ => ?_, hb⟩
        exact missed_of HP.out HR.out hmiss.out hk1 (fun _ => by rw [← HX.out]; exact hxh)
    · obtain rfl : k = m := by omega
      go_wp2_with fail
      refine bodyPost_ret (results_tmp2 rfl _ _ _) rfl ⟨p, false, rfl, fun hf => (by cases hf), fun _ => ?_, hb⟩
      exact missed_of HP.out HR.out hmiss.out hk1 (fun hx => absurd hx (by rw [hl'.out]; omega))
end Go.Proofs.Ybulkayte
