/-
  sort.Search WITH THE CLOSURE OF locate; locate.
-/
import Derived.Test.YbulkaytePlain
namespace Go.Proofs.Ybulkayte
open Go.RowKit

abbrev ptr (b : Nat) : Value := .pointer (some ⟨b, 0, none⟩)

/-- What locate's closure reads: the hashes' slice in a cell, lo in a cell, h in a cell, the row. -/
structure Loc (w : World) (b5 b6 b3 g n cap lo : Nat) (h : Int) (hs : List Int) : Prop where
  c5 : w.cell? ⟨b5, 0, none⟩ = some (.slice (some ⟨g, 0, none⟩) n cap)
  c6 : w.cell? ⟨b6, 0, none⟩ = some (.int .i64 lo)
  c3 : w.cell? ⟨b3, 0, none⟩ = some (.int .u32 h)
  row : ∀ j, j < n → w.cell? ⟨g, j, none⟩ = some (.int .u32 (hs.getD j 0))

theorem Loc.drew {w : World} {b5 b6 b3 g n cap lo : Nat} {h : Int} {hs : List Int} (H : Loc w b5 b6 b3 g n cap lo h hs) (nd : Nat) : Loc (w.drewN nd) b5 b6 b3 g n cap lo h hs := ⟨H.c5, H.c6, H.c3, H.row⟩

theorem closure {w : World} {b5 b6 b3 g n cap lo : Nat} {h : Int} {hs : List Int} (H : Loc w b5 b6 b3 g n cap lo h hs) (k : Nat) (hk : lo + k < n) (hn : n ≤ 1024) :
    Calls Yba.prog 21 #[.int .i64 k, ptr b5, ptr b6, ptr b3] w fun e w' => e = .returned (.bool (decide (h ≤ hs.getD (lo + k) 0))) ∧ ∃ nd, w' = w.drewN nd := by
  obtain ⟨x, hx⟩ : ∃ x, x = hs.getD (lo + k) 0 := ⟨_, rfl⟩
  have c5 := H.c5
  have c6 := H.c6
  have c3 := H.c3
  have hr := H.row (lo + k) hk
  rw [← hx] at hr ⊢
  have h1 : ((lo : Int) + (k : Int)) < (n : Int) := by omega
  have h2 : (0 : Int) ≤ (lo : Int) + (k : Int) := by omega
  have e1 : (((lo : Int) + (k : Int)).toNat) = lo + k := by omega
  clear H hx
  go_enter Yba.func21, Yba.ntmps21
  go_wp2_with fail
  go_quiet (fail)
  go_wp2_with fail
  exact bodyPost_ret (results_tmp rfl _ _ _) rfl ⟨rfl, nq, rfl⟩

theorem search {w : World} {b5 b6 b3 g n cap lo : Nat} {h : Int} {hs : List Int} (H : Loc w b5 b6 b3 g n cap lo h hs) (m : Nat) (hm : lo + m ≤ n) (hn : n ≤ 1024) (hl : hs.length = n) (hr : Rises hs) :
    Calls Yba.prog 20 #[.int .i64 m, .func (.func 21) #[] #[ptr b5, ptr b6, ptr b3]] w fun e w' => ∃ p : Nat, e = .returned (.int .i64 p) ∧ p ≤ m ∧ (∀ i, i < p → hs.getD (lo + i) 0 < h) ∧ (∀ i, p ≤ i → i < m → h ≤ hs.getD (lo + i) 0) ∧ ∃ nd, w' = w.drewN nd := by
  have HL := hide H
  have HR := hide hr
  have hl' := hide hl
  clear H hr hl
  go_enter Yba.func20, Yba.ntmps20
  go_wp2_with fail
  go_loopw [5, 6] (fun s t wr => ∃ i j nd : Nat, i ≤ j ∧ j ≤ m ∧ s = .int .i64 i ∧ t = .int .i64 j ∧ Hid (∀ q, q < i → hs.getD (lo + q) 0 < h) ∧ Hid (∀ q, j ≤ q → q < m → h ≤ hs.getD (lo + q) 0) ∧ wr = w.drewN nd) (fun s t _ => (intOf t).toNat - (intOf s).toNat)
  case atStart => exact ⟨0, m, 0, Nat.zero_le _, Nat.le_refl _, rfl, rfl, fun q hq => absurd hq (Nat.not_lt_zero _), fun q h1 h2 => absurd h1 (by omega), rfl⟩
  case round =>
    obtain ⟨i, j, nd, hij, hjm, rfl, rfl, hlo, hhi, rfl⟩ := hrel
    by_cases hlt : i < j
    · obtain ⟨y, hy⟩ : ∃ y : Nat, y = (i + j) / 2 := ⟨_, rfl⟩
      have hy1 : i ≤ y := by omega
      have hy2 : y < j := by omega
      have hyi : ((i : Int) + (j : Int)) / 2 = (y : Int) := by omega
      clear hy
      have hcall := hide (closure (HL.out.drew nd) y (by omega) hn)
      go_wp2_with fail
      refine hcall.out.mono ?_
      rintro e w' ⟨rfl, nd2, rfl⟩
      clear hcall
      have hrise := HR.out
      have hl2 := hl'.out
      by_cases hx : h ≤ hs.getD (lo + y) 0
      · have H1 := hide (fun q (h1 : y ≤ q) (h2 : q < m) => hrise.high hx (lo + q) (by omega) (by omega))
        have hd : decide (h ≤ hs.getD (lo + y) 0) = true := by simpa using hx
        rw [hd]
        clear hd hx hrise hl2
        go_wp2_with fail
        go_roundw
        case rel => exact ⟨i, y, nd + nd2, hy1, by omega, rfl, rfl, hlo, H1, rfl⟩
        case measure => simp [intOf]; omega
      · have H1 := hide (fun q (h1 : q < y + 1) => hrise.low (h := h) (p := lo + y) (by omega) (by omega) (lo + q) (by omega))
        have hd : decide (h ≤ hs.getD (lo + y) 0) = false := by simpa using hx
        rw [hd]
        clear hd hx hrise hl2
        go_wp2_with fail
        go_roundw
        case rel => exact ⟨y + 1, j, nd + nd2, by omega, hjm, by go_num, rfl, H1, hhi, rfl⟩
        case measure => simp [intOf]; omega
    · obtain rfl : i = j := by omega
      go_wp2_with fail
      exact bodyPost_ret (results_tmp rfl _ _ _) rfl ⟨i, rfl, hjm, hlo.out, hhi.out, nd, rfl⟩

/-- .. and so it is the place itself. -/
theorem search_place {w : World} {b5 b6 b3 g n cap lo : Nat} {h : Int} {hs : List Int} (H : Loc w b5 b6 b3 g n cap lo h hs) (m : Nat) (hm : lo + m ≤ n) (hn : n ≤ 1024) (hl : hs.length = n) (hr : Rises hs)
    {p : Nat} (hp : Place hs h p) (h1 : lo ≤ p) (h2 : p ≤ lo + m) :
    Calls Yba.prog 20 #[.int .i64 m, .func (.func 21) #[] #[ptr b5, ptr b6, ptr b3]] w fun e w' => e = .returned (.int .i64 ((p : Int) - (lo : Int))) ∧ ∃ nd, w' = w.drewN nd := by
  refine (search H m hm hn hl hr).mono ?_
  rintro e w' ⟨q, rfl, hq, hlo, hhi, nd, rfl⟩
  obtain ⟨k1, k2, k3⟩ := hp
  have e1 : lo + q = p := by
    rcases Nat.lt_trichotomy (lo + q) p with hlt | he | hgt
    · have a1 := k2 (lo + q) hlt
      have a2 := hhi q (Nat.le_refl _) (by omega)
      omega
    · exact he
    · have a1 := hlo (p - lo) (by omega)
      have a2 := k3 p (Nat.le_refl _) (by omega)
      rw [show lo + (p - lo) = p by omega] at a1
      omega
  exact ⟨by rw [← e1]; congr 2; omega, nd, rfl⟩

end Go.Proofs.Ybulkayte
