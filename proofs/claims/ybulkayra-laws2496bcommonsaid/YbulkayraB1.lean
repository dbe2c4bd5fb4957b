/-
  THE WALK OF alternatePrefix.
-/
import Derived.Test.YbulkayraC0
import Derived.Test.YbulkayraB0
import Derived.Deep.DeepCutAuto
namespace Go.Proofs.Ybulkayra
open Go.RowKit

theorem hide {p : Prop} (h : p) : Hid p := h

set_option maxHeartbeats 1000000 in
set_option maxRecDepth 100000 in
theorem alt_any (base nb sb m g n cap : Nat) (xs : List Int) (bs : List Nat) (its : List Item) (w : World) (h9 : w.cell? ⟨nb, 9, none⟩ = some (.slice (some ⟨sb, 0, none⟩) (m + 1) (m + 1))) (hits : its.length = m + 1) (hm : m ≤ 2000)
    (hcell : ∀ j, j < m + 1 → w.cell? ⟨sb, j, none⟩ = some (.pointer (some ⟨bs.getD j 0, 0, none⟩))) (hnb : nb ≠ g) (hsb : sb < base)
    (hnode : ∀ w' : World, (∀ k, k < base → w'.heap[k]? = w.heap[k]?) → ∀ j, j < m + 1 → Pfx w' base (bs.getD j 0) (its.getD j ([], false, false)).1 (its.getD j ([], false, false)).2.1 (its.getD j ([], false, false)).2.2)
    (hpl : ∀ j, j < m + 1 → (its.getD j ([], false, false)).1.length ≤ 2000) (hown : Own w base g n cap xs) (hn : n ≤ 2000) (hbase : base ≤ w.heap.size) :
    Calls Yba.prog 6 #[.pointer (some ⟨nb, 0, none⟩), .slice (some ⟨g, 0, none⟩) n cap] w fun e w' => ∃ g' cap' N, e = .returned (.tuple #[.slice (some ⟨g', 0, none⟩) N cap', .bool (out its).2.1, .bool (out its).2.2.1]) ∧
      Own w' base g' N cap' (xs ++ (out its).1) ∧ Below base w w' := by
  have hlo := hown.lo
  have HC := hide hcell
  have HN := hide hnode
  have HP := hide hpl
  have HI := hide hits
  have hx0 := hcell 0 (by omega)
  clear hcell hnode hpl hits
  obtain ⟨b0, hb0⟩ : ∃ b0, b0 = bs.getD 0 0 := ⟨_, rfl⟩
  rw [← hb0] at hx0
  have HB0 := hide hb0
  clear hb0
  obtain ⟨it0, hit0⟩ : ∃ it0, it0 = its.getD 0 ([], false, false) := ⟨_, rfl⟩
  have hp0 : Pfx w base b0 it0.1 it0.2.1 it0.2.2 := by rw [HB0.out, hit0]; exact HN.out w (fun _ _ => rfl) 0 (by omega)
  have hpl0 : it0.1.length ≤ 2000 := by rw [hit0]; exact HP.out 0 (by omega)
  have HIT := hide hit0
  clear hit0
  obtain ⟨p0, e0, f0⟩ := it0
  simp only at hp0 hpl0
  go_enter Yba.func6, Yba.ntmps6
  go_wp2_with fail
  refine (hp0 g n cap xs hown (by omega) hbase).mono ?_
  rintro e w1 ⟨g1, cap1, rfl, ho, hg⟩
  have hbl := below_of_grown hbase hlo hg
  have h91 : w1.cell? ⟨nb, 9, none⟩ = some (.slice (some ⟨sb, 0, none⟩) (m + 1) (m + 1)) := hg.cell h9 (by simp; exact hnb)
  clear hg
  go_upto_region 3 with fail
  go_cut [34, 35, 36] (fun s t u wc => ∃ o, s = .slice (some ⟨sb, o, none⟩) m m ∧ t = .int .i64 (m : Int) ∧ u = .int .i64 0 ∧ (0 < m → o = 1) ∧ w1 = wc)
  case first =>
    by_cases hm0 : m = 0
    · subst hm0
      go_wp2_with fail
      go_meet
      exact ⟨0, rfl, rfl, rfl, fun h => by omega, rfl⟩
    · go_wp2_with fail
      go_meet
      exact ⟨1, rfl, rfl, rfl, fun _ => rfl, rfl⟩
  case rest =>
    obtain ⟨o, rfl, rfl, rfl, ho1, rfl⟩ := hcut
    have hS0 : Hid (out (its.take 1) = (p0, e0, f0, false)) := by
      show _ = _
      rw [out_one its (by rw [HI.out]; omega), ← HIT.out]
    go_wp2_with fail
    go_loopg [1, 5, 6, 36] m (fun gh s1 s5 s6 s36 wr => ∃ (k N g2 cap2 : Nat) (L : List Int) (E F : Bool), k + gh = m ∧ s36 = .int .i64 (k : Int) ∧ s1 = .slice (some ⟨g2, 0, none⟩) N cap2 ∧ s5 = .bool E ∧ s6 = .bool F ∧ Hid (out (its.take (k + 1)) = (L, E, F, false)) ∧ Own wr base g2 N cap2 (xs ++ L) ∧ L.length ≤ 2000 ∧ n ≤ N ∧ N ≤ 4000 ∧ Below base w wr)
    case atStart => exact ⟨0, n + p0.length, g1, cap1, p0, e0, f0, by omega, rfl, rfl, rfl, rfl, hS0, ho, hpl0, by omega, by omega, hbl⟩
    case round =>
      obtain ⟨k, N, g2, cap2, L, E, F, hgk, rfl, rfl, rfl, rfl, hS, hO2, hLl, hN1, hN2, hB2⟩ := hrel
      have hwb : base ≤ wr.heap.size := Nat.le_trans hbase hB2.size
      have hlo2 := hO2.lo
      have hNL : Hid (N = n + L.length) := by
        have h1 := hO2.1
        have h2 := hown.1
        show _ = _
        simp at h1; omega
      by_cases hlt : k < m
      · obtain rfl : o = 1 := ho1 (by omega)
        obtain ⟨b, hb⟩ : ∃ b, b = bs.getD (k + 1) 0 := ⟨_, rfl⟩
        have hcx : wr.cell? ⟨sb, 1 + k, none⟩ = some (.pointer (some ⟨b, 0, none⟩)) := by
          rw [hB2.cell (p := ⟨sb, 1 + k, none⟩) hsb, Nat.add_comm 1 k, hb]
          exact HC.out (k + 1) (by omega)
        obtain ⟨it, hit⟩ : ∃ it, it = its.getD (k + 1) ([], false, false) := ⟨_, rfl⟩
        have hp : Pfx wr base b it.1 it.2.1 it.2.2 := by rw [hb, hit]; exact HN.out wr hB2.block (k + 1) (by omega)
        have hpl : it.1.length ≤ 2000 := by rw [hit]; exact HP.out (k + 1) (by omega)
        have hnxt : Hid (out (its.take (k + 1 + 1)) = nx (L, E, F, false) it) := by
          show _ = _
          rw [out_next its (k + 1) (by omega) (by rw [HI.out]; omega), hS.out, hit]
        clear hb hit ho hbl h91 hx0
        obtain ⟨p, e, f⟩ := it
        simp only at hp hpl
        go_wp2_with fail
        refine (hp g2 N cap2 (xs ++ L) hO2 (by omega) hwb).mono ?_
        rintro e' w2 ⟨g3, cap3, rfl, hO3, hg3⟩
        have hle3 := hO3.le
        have hB3 : Below base w w2 := hB2.trans (below_of_grown hwb hlo2 hg3)
        clear hg3 hp
        go_upto_region 9 with fail
        go_cut [13, 14] (fun s t wc => ∃ o1 o2 c1 c2, s = .slice (some ⟨g3, o1, none⟩) L.length c1 ∧ t = .slice (some ⟨g3, o2, none⟩) p.length c2 ∧ (0 < L.length → o1 = n) ∧ (0 < p.length → o2 = N) ∧ Own wc base g3 (N + p.length) cap3 (xs ++ L ++ p) ∧ Below base w wc)
        case first =>
          have hLe : L.length = N - n := by have := hNL.out; omega
          have HLE := hide hLe
          clear hLe
          have hfin : ∀ nd : Nat, Own (w2.drewN nd) base g3 (N + p.length) cap3 (xs ++ L ++ p) ∧ Below base w (w2.drewN nd) := fun nd => ⟨hO3, ⟨hB3.os, hB3.tape, hB3.output, hB3.size, hB3.block⟩⟩
          have HFIN := hide hfin
          clear hfin
          by_cases hc1 : cap3 = n
          · have hNn : N = n := by omega
            have hp00 : Hid (p.length = 0) := by show _ = _; omega
            have hL00 : Hid (L.length = 0) := by show _ = _; rw [HLE.out]; omega
            subst hNn
            subst hc1
            go_quiet (fail)
            go_wp2_with fail
            go_meet
            refine ⟨0, 0, 0, 0, ?_, ?_, fun h => ?_, fun h => ?_, HFIN.out _⟩
            · rw [hL00.out]
            · rw [hp00.out]
            · have := hL00.out; omega
            · have := hp00.out; omega
          · by_cases hc2 : cap3 = N
            · have hp00 : Hid (p.length = 0) := by show _ = _; omega
              subst hc2
              go_quiet (fail)
              go_wp2_with fail
              go_meet
              refine ⟨n, 0, cap3 - n, 0, ?_, ?_, fun h => rfl, fun h => ?_, HFIN.out _⟩
              · rw [HLE.out]
              · rw [hp00.out]
              · have := hp00.out; omega
            · go_quiet (fail)
              go_wp2_with fail
              go_meet
              refine ⟨n, N, cap3 - n, cap3 - N, ?_, ?_, fun h => rfl, fun h => rfl, HFIN.out _⟩
              · rw [HLE.out]
              · simp
        case rest =>
          obtain ⟨o1, o2, c1, c2, rfl, rfl, hoo1, hoo2, hO4, hB4⟩ := hcut
          clear hO3 hB3 hO2 hB2 hle3
          go_upto_region 10 with fail
          go_cut [15] (fun s wd => s = .int .i64 0 ∧ wc = wd)
          case first => go_wp2_with fail; go_meet; exact ⟨rfl, rfl⟩
          case rest =>
            obtain ⟨rfl, rfl⟩ := hcut
            go_step
            go_step
            go_cut [15] (fun s wd => s = .int .i64 (cpl L p : Int) ∧ Own wd base g3 (N + p.length) cap3 (xs ++ L ++ p) ∧ Below base w wd)
            case first =>
              have hxl : Hid (xs.length = n) := hown.1
              go_wp2_with fail
              go_loopg [15] L.length (fun gh s wq => ∃ c : Nat, c + gh = L.length ∧ s = .int .i64 (c : Int) ∧ c ≤ p.length ∧ Hid (∀ j, j < c → L.getD j 0 = p.getD j 0) ∧ Own wq base g3 (N + p.length) cap3 (xs ++ L ++ p) ∧ Below base w wq)
              case atStart => exact ⟨0, by omega, rfl, Nat.zero_le _, fun j hj => by omega, hO4, hB4⟩
              case round =>
                obtain ⟨c, hgc, rfl, hcp, hcj, hO5, hB5⟩ := hrel
                by_cases hcL : c < L.length
                · by_cases hcP : c < p.length
                  · obtain rfl : o1 = n := hoo1 (by omega)
                    obtain rfl : o2 = N := hoo2 (by omega)
                    obtain ⟨x, hx⟩ : ∃ x, x = L.getD c 0 := ⟨_, rfl⟩
                    obtain ⟨y, hy⟩ : ∃ y, y = p.getD c 0 := ⟨_, rfl⟩
                    have hcx : wr.cell? ⟨g3, o1 + c, none⟩ = some (.int .i32 x) := by
                      rw [hO5.cell (by omega), hx, getD_mid hxl.out hcL]
                    have hcy : wr.cell? ⟨g3, o2 + c, none⟩ = some (.int .i32 y) := by
                      rw [hO5.cell (by omega), hy, getD_end hxl.out hNL.out]
                    have HX := hide hx
                    have HY := hide hy
                    have hiL : (c : Int) < (L.length : Int) := by omega
                    have hiP : (c : Int) < (p.length : Int) := by omega
                    clear hx hy
                    cases hxy : (x == y)
                    · go_wp2_with fail
                      go_quiet (fail)
                      go_wp2_with fail
                      go_meet
                      refine ⟨congrArg _ (congrArg _ (cpl_is L p c (by omega) (by omega) hcj.out (fun _ _ => by rw [← HX.out, ← HY.out]; simpa using hxy)).symm), hO5, ⟨hB5.os, hB5.tape, hB5.output, hB5.size, hB5.block⟩⟩
                    · go_wp2_with fail
                      go_quiet (fail)
                      go_wp2_with fail
                      go_roundg (gk - 1)
                      case measure => omega
                      case rel => exact ⟨c + 1, by omega, by go_num, by omega, fun j hj => by rcases Nat.lt_succ_iff_lt_or_eq.1 hj with h | rfl; exact hcj.out j h; rw [← HX.out, ← HY.out]; simpa using hxy, hO5, ⟨hB5.os, hB5.tape, hB5.output, hB5.size, hB5.block⟩⟩
                  · have hd : decide ((c : Int) < (p.length : Int)) = false := by simp; omega
                    have hiL : (c : Int) < (L.length : Int) := by omega
                    go_wp2_with fail
                    go_quiet (fail)
                    go_wp2_with fail
                    go_meet
                    refine ⟨congrArg _ (congrArg _ (cpl_is L p c (by omega) (by omega) hcj.out (fun _ h => absurd h hcP)).symm), hO5, ⟨hB5.os, hB5.tape, hB5.output, hB5.size, hB5.block⟩⟩
                · have hd : decide ((c : Int) < (L.length : Int)) = false := by simp; omega
                  go_wp2_with fail
                  go_quiet (fail)
                  go_wp2_with fail
                  go_meet
                  refine ⟨congrArg _ (congrArg _ (cpl_is L p c (by omega) (by omega) hcj.out (fun h => absurd h hcL)).symm), hO5, ⟨hB5.os, hB5.tape, hB5.output, hB5.size, hB5.block⟩⟩
            case rest =>
              obtain ⟨rfl, hO5, hB5⟩ := hcut
              obtain ⟨hcl, hcp⟩ := cpl_le L p
              obtain ⟨c, hc⟩ : ∃ c, c = cpl L p := ⟨_, rfl⟩
              rw [← hc] at hcl hcp
              obtain ⟨E', hE'⟩ : ∃ E', E' = exq L E (p, e, f) := ⟨_, rfl⟩
              have hnx : Hid (nx (L, E, F, false) (p, e, f) = (L.take c, E', F || f, c == 0 && !E')) := by
                show _ = _
                rw [nx, if_neg (by simp), hc, hE']
              rw [← hc]
              have hE2 : Hid (E' = (E && e && ((c : Int) == (L.length : Int)) && ((c : Int) == (p.length : Int)))) := by
                show _ = _
                rw [hE', exq, ← hc]
                have h1 : (c == L.length) = ((c : Int) == (L.length : Int)) := by rw [Bool.eq_iff_iff]; simp; omega
                have h2 : (c == p.length) = ((c : Int) == (p.length : Int)) := by rw [Bool.eq_iff_iff]; simp; omega
                rw [h1, h2]
              clear hc hE'
              go_upto_region 13 with fail
              go_cut [5] (fun s wd => s = .bool E' ∧ wc = wd)
              case first =>
                cases E
                · go_wp2_with fail
                  go_meet
                  exact ⟨by rw [hE2.out]; rfl, rfl⟩
                · cases e
                  · go_wp2_with fail
                    go_meet
                    exact ⟨by rw [hE2.out]; rfl, rfl⟩
                  · cases h1 : ((c : Int) == (L.length : Int))
                    · go_wp2_with fail
                      go_meet
                      exact ⟨by rw [hE2.out, h1]; rfl, rfl⟩
                    · go_wp2_with fail
                      go_meet
                      exact ⟨by rw [hE2.out, h1]; rfl, rfl⟩
              case rest =>
                obtain ⟨rfl, rfl⟩ := hcut
                go_upto_region 14 with fail
                go_cut [6] (fun s wd => s = .bool (F || f) ∧ wc = wd)
                case first =>
                  cases F
                  all_goals
                    go_wp2_with fail
                    go_meet
                    exact ⟨rfl, rfl⟩
                case rest =>
                  obtain ⟨rfl, rfl⟩ := hcut
                  have hle5 := hO5.le
                  obtain ⟨F', hF'⟩ : ∃ F', F' = (F || f) := ⟨_, rfl⟩
                  rw [← hF'] at hnx ⊢
                  clear hF'
                  go_upto_region 16 with fail
                  go_cut [109] (fun s wd => s = .bool ((c : Int) == 0 && !E') ∧ wc = wd)
                  case first =>
                    cases h0 : ((c : Int) == 0)
                    all_goals
                      go_wp2_with fail
                      go_meet
                      exact ⟨by first | rfl | rw [h0]; rfl, rfl⟩
                  case rest =>
                    obtain ⟨rfl, rfl⟩ := hcut
                    have hOt : Own wc base g3 (n + c) cap3 (xs ++ L.take c) := by
                      have := hO5.take (k := n + c) (by have := hNL.out; omega)
                      rwa [take_mid hown.1 hcl] at this
                    cases hst : ((c : Int) == 0 && !E')
                    · go_wp2_with fail
                      go_roundg (gk - 1)
                      case measure => omega
                      case rel =>
                        have h0 : (c == 0 && !E') = false := by
                          have h1 : (c == 0) = ((c : Int) == 0) := by rw [Bool.eq_iff_iff]; simp
                          rw [h1, hst]
                        refine ⟨k + 1, n + c, g3, cap3, L.take c, E', F', by omega, by go_num, rfl, rfl, rfl, ?_, hOt, by simp; omega, by omega, by omega, hB5⟩
                        show _ = _
                        rw [hnxt.out, hnx.out, h0]
                    · go_wp2_with fail
                      go_ret3
                      have h0 : (c == 0 && !E') = true := by
                        have h1 : (c == 0) = ((c : Int) == 0) := by rw [Bool.eq_iff_iff]; simp
                        rw [h1, hst]
                      have hfin : out its = (L.take c, E', F', true) := by
                        rw [out_stay its (k + 1 + 1) (by omega) (by rw [hnxt.out, hnx.out, h0]), hnxt.out, hnx.out, h0]
                      rw [hfin]
                      exact ⟨g3, cap3, n + c, rfl, hOt, hB5⟩
      · obtain rfl : k = m := by omega
        have hfin : out its = (L, E, F, false) := by rw [← hS.out, List.take_of_length_le (by rw [HI.out]; omega)]
        have HFI := hide hfin
        clear hfin
        go_wp2_with fail
        go_ret3
        rw [HFI.out]
        exact ⟨g2, cap2, N, rfl, hO2, hB2⟩

end Go.Proofs.Ybulkayra
