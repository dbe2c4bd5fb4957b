/-
  THE WALK OF encoding/hex.Decode.
-/
import Derived.Test.YbulkayroFmtOwn
import Derived.Test.YbulkayroFmtPlain
namespace Go.Proofs.YbulkayroFmt
open Go.RowKit

/-- A table that is a constant string of 256 bytes: what it holds at each byte. -/
def IsTab (T : ByteArray) (f : Int → Int) : Prop := T.size = 256 ∧ ∀ i : Fin 256, (T.data[i.val]?).map (fun b => (b.toNat : Int)) = some (f (i.val : Int))

theorem run_tab {P : Program} (t : TypeId) (T : ByteArray) (f : Int → Int) (h : P.underlying t = some .string) (hT : IsTab T f) (c : Int) (h0 : 0 ≤ c) (h1 : c ≤ 255) (w : World) : (Instr.index t (.string T) (.int .u8 c)).run P w = .ok (.int .u8 (f c)) w := by
  obtain ⟨hs, hv⟩ := hT
  have hv' := hv ⟨c.toNat, by omega⟩
  simp only [Option.map_eq_some_iff] at hv'
  obtain ⟨x, hx, hfx⟩ := hv'
  have hcc : ((c.toNat : Nat) : Int) = c := by omega
  rw [hcc] at hfx
  have hx2 : T[c.toNat]? = some x := by
    have hlt : c.toNat < T.size := by omega
    have e : T.data[c.toNat]? = some T.data[c.toNat] := Array.getElem?_eq_getElem (by simpa using hlt)
    rw [e] at hx
    have e2 : T[c.toNat]? = some T[c.toNat] := getElem?_pos T c.toNat hlt
    rw [e2]
    exact hx
  simp [Instr.index, asIntOf, run_underlying h, h0, hx2, hfx]

/-- The look-up in such a table, as the walk meets it. -/
theorem wpList_tab {P : Program} {w : World} {ops : Array Oper} {rest : List Oper} {o : Oper} {a : Act} {Q : Exit → Act → World → Prop} (hgd : o.guard = none) (t : TypeId) (T : ByteArray) (x : Operand)
    (ho : o.op = .index t (.const (.string T)) x) (h : P.underlying t = some .string) (f : Int → Int) (c : Int) (hx : a.eval x = .int .u8 c) (hT : IsTab T f) (h0 : 0 ≤ c) (h1 : c ≤ 255)
    (hK : wpList P ops Q rest (a.put o.dst (.int .u8 (f c))) w) : wpList P ops Q (o :: rest) a w := by
  refine wpList_plain hgd fun K hK' => ?_
  have hrun := run_tab (P := P) t T f h hT c h0 h1 w
  have he : a.eval (.const (.string T)) = .string T := rfl
  unfold Oper.wp
  simp only [execOp, ho, hx, he, Sem.run_bind, hrun, Result.andThen_ok, Sem.run_pure]
  exact hK' _ _ hK

/-- The join of two nibbles, as the model reckons '(x << 4) | y'. -/
def cm (x y : Int) : Int := bits BinOp.or IntKind.u8 (x * 16) y

/-- An error of hex.Decode's: a byte that is no hex digit; or the error of an odd length, which stands in the package's variable. -/
def BadErr (EL er : Value) : Prop := (∃ c : Int, 0 ≤ c ∧ c ≤ 255 ∧ er = .iface 39 (.int .u8 c)) ∨ er = EL

def DecPost (EL : Value) (base g k m : Nat) (cs : List Int) (w : World) (e : Ending) (w' : World) : Prop :=
  (m % 2 = 0 ∧ GoodTo cs k ∧ e = .returned (.tuple #[.int .i64 (k : Int), .nilIface]) ∧ Own .u8 5 w' base g k k (prs cm cs k) ∧ w.grownBy w' (some g)) ∨
  (¬ (m % 2 = 0 ∧ GoodTo cs k) ∧ ∃ i er, e = .returned (.tuple #[.int .i64 i, er]) ∧ BadErr EL er ∧ w.grownBy w' (some g))

theorem grown_setCell {w w' : World} {g j : Nat} (h : w.grownBy w' (some g)) (u : Value) : w.grownBy (w'.setCell ⟨g, j, none⟩ u) (some g) :=
  ⟨h.os, h.tape, h.output, by simpa [World.setCell] using h.size, fun q hq hn => (Below.heap_setCell _ _ _ _ (by simpa using hn)).trans (h.block q hq hn)⟩

theorem grown_drewN {w w' : World} {row : Option Nat} {nd : Nat} (h : w.grownBy w' row) : w.grownBy (w'.drewN nd) row := ⟨h.os, h.tape, h.output, h.size, h.block⟩

set_option maxHeartbeats 1000000 in
set_option maxRecDepth 100000 in
theorem decode_any (EL : Value) (base g k b off m cap : Nat) (cs : List Int) (w : World) (hm : k = m / 2) (hm2 : m ≤ 4000)
    (hcell : ∀ j, j < m → w.cell? ⟨b, off + j, none⟩ = some (.int .u8 (cs.getD j 0)) ∧ 0 ≤ cs.getD j 0 ∧ cs.getD j 0 ≤ 255) (hbg : b ≠ g) (hown : Own .u8 5 w base g k k (List.replicate k 0)) (hEL : w.cell? ⟨0, 0, none⟩ = some EL) (hg0 : g ≠ 0) :
    Calls Ybaf.prog 10 #[.slice (some ⟨g, 0, none⟩) k k, .slice (some ⟨b, off, none⟩) m cap] w fun e w' => DecPost EL base g k m cs w e w' := by
  have HC := hide hcell
  have HM := hide hm
  have hk2 : k ≤ 2000 := by omega
  clear hcell hm
  go_enter Ybaf.func10, Ybaf.ntmps10
  go_wp2_with fail
  go_loopw [6, 7] (fun i j wr => ∃ t : Nat, t ≤ k ∧ i = .int .i64 t ∧ j = .int .i64 ((2 * t : Nat) : Int) ∧ Hid (GoodTo cs t) ∧ Own .u8 5 wr base g k k (decRow cm cs k t) ∧ w.grownBy wr (some g)) (fun i _ _ => k - (intOf i).toNat)
  case atStart => exact ⟨0, Nat.zero_le _, rfl, rfl, fun t ht => by omega, by rw [decRow_zero]; exact hown, World.grownBy.refl _ _⟩
  case round =>
    obtain ⟨t, ht, rfl, rfl, hgd, hO, hgr⟩ := hrel
    obtain ⟨j, hj⟩ : ∃ j, j = 2 * t := ⟨_, rfl⟩
    rw [← hj]
    have HJ := hide hj
    have HM2 := HM.out
    by_cases hlt : t < k
    · have hjm : j + 1 < m := by omega
      obtain ⟨c, hc⟩ : ∃ c, c = cs.getD j 0 := ⟨_, rfl⟩
      obtain ⟨d, hd⟩ : ∃ d, d = cs.getD (j + 1) 0 := ⟨_, rfl⟩
      obtain ⟨hcc, hc0, hc1⟩ := HC.out j (by omega)
      obtain ⟨hdc, hd0, hd1⟩ := HC.out (j + 1) (by omega)
      rw [← hc] at hcc hc0 hc1
      rw [← hd] at hdc hd0 hd1
      have hcr : wr.cell? ⟨b, off + j, none⟩ = some (.int .u8 c) := hgr.cell hcc (by simpa using hbg)
      have hdr : wr.cell? ⟨b, off + (j + 1), none⟩ = some (.int .u8 d) := hgr.cell hdc (by simpa using hbg)
      obtain ⟨x, hx⟩ : ∃ x, x = hv c := ⟨_, rfl⟩
      obtain ⟨y, hy⟩ : ∃ y, y = hv d := ⟨_, rfl⟩
      have hxb := hv_bd c
      have hyb := hv_bd d
      rw [← hx] at hxb
      rw [← hy] at hyb
      obtain ⟨hx0, hx1⟩ := hxb
      obtain ⟨hy0, hy1⟩ := hyb
      have hfz := hO.frozen t
      have hsz := hO.hi
      obtain ⟨u, hcu⟩ : ∃ u, wr.cell? ⟨g, t, none⟩ = some u := ⟨_, hO.cell hlt⟩
      have HX := hide hx
      have HY := hide hy
      have Hc := hide hc
      have Hd := hide hd
      clear hx hy hc hd hj HM2 hcc hdc
      by_cases hx15 : x ≤ 15
      · by_cases hy15 : y ≤ 15
        · go_wp2_with (first | (refine wpList_tab rfl 9 _ (.tmp 28) rfl Ybaf.underlying9 hv c rfl ⟨by decide +kernel, by decide +kernel⟩ hc0 hc1 ?_; rw [← HX.out]) | (refine wpList_tab rfl 9 _ (.tmp 30) rfl Ybaf.underlying9 hv d rfl ⟨by decide +kernel, by decide +kernel⟩ hd0 hd1 ?_; rw [← HY.out]))
          go_roundw
          case rel =>
            refine ⟨t + 1, by omega, by go_num, by have := HJ.out; go_num, ?_, ?_, grown_setCell hgr _⟩
            · refine GoodTo.succ hgd.out ?_ ?_
              · rw [← HJ.out, ← Hc.out, ← HX.out]; exact hx15
              · rw [← HJ.out, ← Hd.out, ← HY.out]; exact hy15
            · rw [← decRow_set cm cs hlt, ← HJ.out, ← Hc.out, ← Hd.out, ← HX.out, ← HY.out]
              exact hO.stored t _
          case measure => simp [intOf]; omega
        · go_wp2_with (first | (refine wpList_tab rfl 9 _ (.tmp 28) rfl Ybaf.underlying9 hv c rfl ⟨by decide +kernel, by decide +kernel⟩ hc0 hc1 ?_; rw [← HX.out]) | (refine wpList_tab rfl 9 _ (.tmp 30) rfl Ybaf.underlying9 hv d rfl ⟨by decide +kernel, by decide +kernel⟩ hd0 hd1 ?_; rw [← HY.out]))
          go_ret2
          refine .inr ⟨fun h => ?_, _, _, rfl, .inl ⟨d, hd0, hd1, rfl⟩, hgr⟩
          have := (h.2 t hlt).2
          rw [← HJ.out, ← Hd.out, ← HY.out] at this
          omega
      · go_wp2_with (first | (refine wpList_tab rfl 9 _ (.tmp 28) rfl Ybaf.underlying9 hv c rfl ⟨by decide +kernel, by decide +kernel⟩ hc0 hc1 ?_; rw [← HX.out]) | (refine wpList_tab rfl 9 _ (.tmp 30) rfl Ybaf.underlying9 hv d rfl ⟨by decide +kernel, by decide +kernel⟩ hd0 hd1 ?_; rw [← HY.out]))
        go_ret2
        refine .inr ⟨fun h => ?_, _, _, rfl, .inl ⟨c, hc0, hc1, rfl⟩, hgr⟩
        have := (h.2 t hlt).1
        rw [← HJ.out, ← Hc.out, ← HX.out] at this
        omega
    · obtain rfl : t = k := by omega
      by_cases hev : m % 2 = 0
      · have hmj : m = j := by omega
        have hev' : ((m : Int) % 2 == 1) = false := by simp; omega
        clear hj HM2
        have HMJ := hide hmj
        have hmj1 : m ≤ j := by omega
        clear hmj
        go_wp2_with fail
        go_ret2
        refine .inl ⟨hev, hgd.out, rfl, ?_, hgr⟩
        rw [decRow_full] at hO
        exact hO
      · have hmj : m = j + 1 := by omega
        have hev' : ((m : Int) % 2 == 1) = true := by simp; omega
        obtain ⟨c, hc⟩ : ∃ c, c = cs.getD j 0 := ⟨_, rfl⟩
        obtain ⟨hcc, hc0, hc1⟩ := HC.out j (by omega)
        rw [← hc] at hcc hc0 hc1
        have hcr : wr.cell? ⟨b, off + j, none⟩ = some (.int .u8 c) := hgr.cell hcc (by simpa using hbg)
        have hEr : wr.cell? ⟨0, 0, none⟩ = some EL := hgr.cell hEL (by simp; omega)
        obtain ⟨x, hx⟩ : ∃ x, x = hv c := ⟨_, rfl⟩
        have hxb := hv_bd c
        rw [← hx] at hxb
        obtain ⟨hx0, hx1⟩ := hxb
        have HX := hide hx
        have hj1 : j < m := by omega
        have hj2 : m ≤ j + 1 := by omega
        clear hj HM2 hmj hx hc
        by_cases hx15 : x ≤ 15
        · go_wp2_with (first | (refine wpList_tab rfl 9 _ (.tmp 58) rfl Ybaf.underlying9 hv c rfl ⟨by decide +kernel, by decide +kernel⟩ hc0 hc1 ?_; rw [← HX.out]))
          go_quiet (fail)
          go_wp2_with fail
          go_ret2
          refine .inr ⟨fun h => by omega, _, _, rfl, .inr rfl, grown_drewN hgr⟩
        · go_wp2_with (first | (refine wpList_tab rfl 9 _ (.tmp 58) rfl Ybaf.underlying9 hv c rfl ⟨by decide +kernel, by decide +kernel⟩ hc0 hc1 ?_; rw [← HX.out]))
          go_quiet (fail)
          go_wp2_with fail
          go_ret2
          refine .inr ⟨fun h => by omega, _, _, rfl, .inl ⟨c, hc0, hc1, rfl⟩, grown_drewN hgr⟩

end Go.Proofs.YbulkayroFmt
