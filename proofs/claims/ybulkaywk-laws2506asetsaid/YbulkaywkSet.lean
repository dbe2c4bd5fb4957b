/-
  THE LAW LawS2506ASet: HER WALK.
-/
import Derived.Test.YbulkaywkFacts
namespace Go.Proofs.Ybulkaywk
open Go.RowKit Go.ChangeMaps Go.MapKept

theorem bounds_u8 {x : Int} (h : (Lit.int .u8 x).wf = true) : 0 ≤ x ∧ x ≤ 255 := by
  simp [Lit.wf, IntKind.min, IntKind.max, IntKind.signed, IntKind.bits] at h
  omega

theorem has38 : (Yba.prog.info? 38).isSome = true := by kernel_rfl
theorem run_eql_entry (w : World) (b : Nat) : (binOp .eql 29 (ptr b) (ptr b)).run Yba.prog w = .ok (.bool true) w := by
  obtain ⟨j, hj⟩ := Option.isSome_iff_exists.1 has38
  exact run_eql_ptr_same w _ Yba.underlying29 hj
theorem run_neq_entry (w : World) (b : Nat) : (binOp .neq 29 (ptr b) (ptr b)).run Yba.prog w = .ok (.bool false) w := by
  obtain ⟨j, hj⟩ := Option.isSome_iff_exists.1 has38
  have h : ∀ d : Nat, (Op.equalIn (d + 1) 29 (ptr b) (ptr b)).run Yba.prog w = .ok true w := fun d => by
    simp [Op.equalIn, run_underlying Yba.underlying29, sizeOf, typeInfo, hj, run_sameAddr_same]
  simp only [binOp]
  simp [Op.equal, Op.maxDepth, h 9999]

theorem info24 : (Yba.prog.info? 24).map (fun i => (i.zero, i.size, i.bytes)) = some (some (.pointer none), 1, 8) := by kernel_rfl
theorem info4 : (Yba.prog.info? 4).map (fun i => (i.zero, i.size, i.bytes)) = some (some (.bool false), 1, 1) := by kernel_rfl

set_option maxHeartbeats 4000000 in
set_option maxRecDepth 100000 in
theorem walk (a0 : Option Addr) (l0 c0 : Nat) (a1 : Option Addr) (l1 c1 : Nat) (w : World) (hstr : Hid (∀ j, j < l0 → ∃ b off s, a0 = some ⟨b, off, none⟩ ∧ w.cell? ⟨b, off + j, none⟩ = some (.string s))) (z1 : List Int) (hrep : Hid (∀ j, j < l1 → ∃ b off, a1 = some ⟨b, off, none⟩ ∧ w.cell? ⟨b, off + j, none⟩ = some (.int .u8 (z1.getD j 0)) ∧ (Lit.int .u8 (z1.getD j 0)).wf = true)) (h0 : l0 ≤ 1024) (h1 : l1 ≤ 1024) :
    Calls Yba.prog 3 #[.slice a0 l0 c0, .slice a1 l1 c1] w fun e w' => e = .returned (.bool true) ∧ Below w.heap.size w w' := by
  have g0 : decide ((l0 : Int) > 1024) = false := by simp; omega
  have g1 : decide ((l1 : Int) > 1024) = false := by simp; omega
  have hmm := @run_makeMap Yba.prog
  go_enter Yba.func3, Yba.ntmps3
  go_upto_region 5 with fail
  go_cut [5, 6, 7] (fun s t u wc => s = ptr w.heap.size ∧ t = ptr (w.heap.size + 2) ∧ u = ptr (w.heap.size + 7) ∧ Fx wc w.heap.size ∧ PtrSet wc (w.heap.size + 6) [w.heap.size] ∧ Below w.heap.size w wc ∧ wc.heap.size = w.heap.size + 8)
  case first =>
    go_wp2_with (refine wpList_insert _ rfl _ _ _ 41 rfl (w.heap.size + 3) _ ?hB (run_first_str ?hB2 _ _) ?_)
    case hB => exact (five _ _ _ _ _ _).2.1
    case hB2 => exact (five _ _ _ _ _ _).2.1
    intro w1 q1 q2 q3
    replace q3 : w1.heap.size = w.heap.size + 5 := q3
    have b1 : Below w.heap.size w w1 := below_then (five _ _ _ _ _ _).2.2.2.2 q2 (by omega) ((five _ _ _ _ _ _).2.2.2.2.size)
    have b2 : Blk w1 w.heap.size := ⟨_, _, (q2.block w.heap.size (Nat.lt_of_lt_of_eq (by omega) (five _ _ _ _ _ _).2.2.2.1.symm) (by simp)).trans (five _ _ _ _ _ _).1⟩
    have b3 : w1.heap[w.heap.size + 4]? = some (.cells #[ptr (w.heap.size + 2)] 29) := (q2.block _ (Nat.lt_of_lt_of_eq (by omega) (five _ _ _ _ _ _).2.2.2.1.symm) (by simp)).trans (five _ _ _ _ _ _).2.2.1
    clear q2
    go_wp2_with (refine wpList_insert _ rfl _ _ _ 42 rfl (w.heap.size + 6) _ ?hB (run_first_ptr ?hB2 _) ?_)
    case hB => have := (two w1 (.cells #[ptr (w.heap.size + 2)] 29) (.map #[] 0)).2.1; rwa [q3] at this
    case hB2 => have := (two w1 (.cells #[ptr (w.heap.size + 2)] 29) (.map #[] 0)).2.1; rwa [q3] at this
    intro w2 r1 r2 r3
    replace r3 : w2.heap.size = w.heap.size + 7 := r3
    obtain ⟨t1, t2, t3, t4⟩ := two w1 (.cells #[ptr (w.heap.size + 2)] 29) (.map #[] 0)
    rw [q3] at t1 t2 t3 t4
    have k2 : ∀ k, k < w.heap.size + 6 → w2.heap[k]? = ((w1.alloc (.cells #[ptr (w.heap.size + 2)] 29)).alloc (.map #[] 0)).heap[k]? := fun k hk => r2.block k (by rw [t3]; omega) (by simp; omega)
    have c1 : Below w.heap.size w w2 := below_then (b1.trans (t4.mono (by omega))) r2 (by omega) (by rw [t3]; omega)
    have c2 : Blk w2 w.heap.size := by
      obtain ⟨cs, t, h⟩ := b2
      exact ⟨cs, t, ((k2 _ (by omega)).trans (t4.block _ (by omega))).trans h⟩
    have c3 := ((k2 _ (by omega)).trans (t4.block _ (by omega))).trans q1
    have c4 := ((k2 _ (by omega)).trans (t4.block _ (by omega))).trans b3
    have c5 := (k2 _ (by omega)).trans t1
    clear r2 k2 t1 t2 t3 t4 q1 q3 b1 b2 b3
    go_wp2_with fail
    go_meet
    obtain ⟨f1, f2, f3⟩ := fx_made (cs := #[.map (some (w.heap.size + 3)), .slice (some ⟨w.heap.size + 5, 0, none⟩) 1 1, .map (some (w.heap.size + 6))]) r3 c2 c3 c4 c5 r1 rfl
    exact ⟨rfl, rfl, rfl, f1, f2, below_then c1 (alloc_grown _ _ (w.heap.size)) (Nat.le_refl _) (by omega), f3⟩
  case rest =>
    obtain ⟨rfl, rfl, rfl, fx, set0, bel, hsz⟩ := hcut
    obtain ⟨i0, hi, hz0, hz1, hz2⟩ := info_parts info24
    obtain ⟨N0, hN0⟩ : ∃ n, n = w.heap.size := ⟨_, rfl⟩
    rw [← hN0] at fx set0 bel hsz ⊢
    have HN0 := hide hN0
    clear hN0
    go_wp2_with (at_make; refine wpList_make_full _ rfl _ _ 45 rfl N0 24 i0 (.pointer none) 1 Yba.underlying45 hi hz0 hz1 _ _ _ _ l0 rfl rfl rfl rfl ?b2 ?b3 ?b4 ?_)
    case b2 => rw [hz2]; omega
    case b3 => unfold maxLen; omega
    case b4 => omega
    intro wA hown hgrow
    have i1 : I1 w wA N0 (N0 + 8) wA.heap.size l0 0 := ⟨bel.trans (below_none hgrow (by omega)), fx.keep0 hgrow, set0.keep hgrow (by simp) (fun b hb hB => hB.keep0 hgrow), by rw [psL_zero]; have := row_of_owns hown; simpa [toList_madeCells_one] using this, fun j hj => absurd hj (Nat.not_lt_zero _), rfl⟩
    have hgN : N0 + 8 < wA.heap.size := by have := row_of_owns hown; exact (Array.getElem?_eq_some_iff.1 this).1
    clear hown hgrow fx set0 bel hsz
    obtain ⟨N, hN⟩ : ∃ n, n = wA.heap.size := ⟨_, rfl⟩
    rw [← hN] at i1 hgN
    clear hN
    go_wp2_with fail
    go_loopw [9] (fun i wr => ∃ k : Nat, k ≤ l0 ∧ i = .int .i64 k ∧ I1 w wr N0 (N0 + 8) N l0 k) (fun i _ => l0 - (intOf i).toNat)
    case atStart => exact ⟨0, Nat.zero_le _, rfl, i1⟩
    case round =>
      obtain ⟨k, hk, rfl, J⟩ := hrel
      by_cases hlt : k < l0
      · obtain ⟨b, off, s, rfl, hc⟩ := hstr.out k hlt
        have hblt : b < w.heap.size := World.block_lt_of_cell? w ⟨b, off + k, none⟩ hc
        have hcr : wr.cell? ⟨b, off + k, none⟩ = some (.string s) := (J.bel.cell (p := ⟨b, off + k, none⟩) (by rw [HN0.out]; exact hblt)).trans hc
        have hil : (k : Int) < (l0 : Int) := by omega
        have hi0 : (0 : Int) ≤ (k : Int) := by omega
        have hfz : ∀ cs, (wr.alloc (.cells cs 28)).frozen? ⟨N0 + 8, k, none⟩ = false := fun cs => frozen_of_row _ _ _ _ _ (((alloc_grown wr (.cells cs 28) (N + k)).block _ (by have := J.size; omega) (by simp; omega)).trans J.row)
        have hcl : ∀ cs, (wr.alloc (.cells cs 28)).cell? ⟨N0 + 8, k, none⟩ = some (.pointer none) := fun cs => by
          rw [row_at (((alloc_grown wr (.cells cs 28) (N + k)).block _ (by have := J.size; omega) (by simp; omega)).trans J.row)]
          simp [psL, hlt]
        have hsz := J.size
        clear hc
        go_wp2_with fail
        go_roundw
        case rel => exact ⟨k + 1, by omega, by go_num, J.step (Nat.le_refl _) (by omega) _⟩
        case measure => simp [intOf]; omega
      · obtain rfl : k = l0 := by omega
        have V : Inv w wr N0 (N0 + 8) N k := ⟨J.bel, J.fx, J.row, J.blk, Nat.le_of_eq J.size.symm⟩
        have set0 := J.set
        have hsz := J.size
        clear i1 J
        obtain ⟨i0, hi, hz0, hz1, hz2⟩ := info_parts info4
        go_wp2_with (at_make; refine wpList_make_full _ rfl _ _ 46 rfl N0 4 i0 (.bool false) 1 Yba.underlying46 hi hz0 hz1 _ _ _ _ k rfl rfl rfl rfl ?b2 ?b3 ?b4 ?_)
        case b2 => rw [hz2]; omega
        case b3 => unfold maxLen; omega
        case b4 => omega
        intro wB hown hgrow
        have J2 : I2 w wB N0 (N0 + 8) N k (N + k) (List.replicate k false) [] := by
          refine ⟨(V.keep (grown_any hgrow (N + k)) (Nat.le_refl _) (by omega) (.inr (Nat.le_refl _))).2, set0.keep hgrow (by simp) (fun b hb hB => hB.keep0 hgrow), ?_, mk_zero N k, by simp⟩
          have := row_of_owns hown
          simpa [toList_madeCells_one] using this
        clear hown hgrow V set0 hsz hi hz0 hz1 hz2
        go_upto_if 70 with fail
        go_cut [11] (fun c wd => ∃ (ms : List Bool) (L : List Nat), c = .int .i64 L.length ∧ L.length ≤ l1 ∧ I2 w wd N0 (N0 + 8) N k (N + k) ms L)
        case first =>
          by_cases hk0 : 0 < k
          · simp only [hk0, decide_true]
            go_wp2_with fail
            go_loopw [11, 12] (fun c i wr => ∃ (m : Nat) (ms : List Bool) (L : List Nat), m ≤ l1 ∧ i = .int .i64 m ∧ c = .int .i64 L.length ∧ L.length ≤ m ∧ I2 w wr N0 (N0 + 8) N k (N + k) ms L) (fun _ i _ => l1 - (intOf i).toNat)
            case atStart => exact ⟨0, _, _, Nat.zero_le _, rfl, rfl, Nat.le_refl _, J2⟩
            case round =>
              obtain ⟨m, ms, L, hm, rfl, rfl, hL, J⟩ := hrel
              by_cases hlt : m < l1
              · obtain ⟨b, off, rfl, hc, hwf⟩ := hrep.out m hlt
                have hblt : b < w.heap.size := World.block_lt_of_cell? w ⟨b, off + m, none⟩ hc
                obtain ⟨x, hxe⟩ : ∃ x, x = z1.getD m 0 := ⟨_, rfl⟩
                rw [← hxe] at hc hwf
                clear hxe
                have hcr : wr.cell? ⟨b, off + m, none⟩ = some (.int .u8 x) := (J.inv.bel.cell (p := ⟨b, off + m, none⟩) (by rw [HN0.out]; exact hblt)).trans hc
                have hx0 : 0 ≤ x ∧ x ≤ 255 := bounds_u8 hwf
                obtain ⟨y, hy⟩ : ∃ y : Nat, y = x.toNat % k := ⟨_, rfl⟩
                have hyk : y < k := by rw [hy]; exact Nat.mod_lt _ hk0
                have hmod : x % (k : Int) = (y : Int) := by rw [hy, Int.natCast_emod, Int.toNat_of_nonneg hx0.1]
                have hyi : (y : Int) < (k : Int) := by omega
                have hy0 : (0 : Int) ≤ (y : Int) := by omega
                have hil : (m : Int) < (l1 : Int) := by omega
                have hi0 : (0 : Int) ≤ (m : Int) := by omega
                have hpar := J.param hyk
                have hcall := hide (declare J.inv.fx.o2 J.set (J.inv.blk y hyk))
                clear hc hwf hy
                go_wp2_with fail
                refine hcall.out.mono ?_
                rintro e w' ⟨rfl, hset, hgr, hsz'⟩
                have hrow : w'.heap[N + k]? = some (.cells (ms.map Value.bool).toArray 4 (0, 0)) := (hgr.block (N + k) (Array.getElem?_eq_some_iff.1 J.row).1 (by simp; omega)).trans J.row
                have hmk : w'.cell? ⟨N + k, y, none⟩ = some (.bool (ms.getD y false)) := by
                  rw [row_at hrow]
                  have hl := J.agree.1
                  simp [List.getD, hl, hyk]
                have hfz : w'.frozen? ⟨N + k, y, none⟩ = false := frozen_of_row _ _ _ _ _ hrow
                clear hcall hcr hpar hrow
                cases hmv : ms.getD y false with
                | true =>
                  rw [hmv] at hmk
                  have J' := J.seen hset hgr hyk (Nat.le_refl _) (by omega) (Nat.le_refl _) hmv
                  clear hset hgr J hmv
                  go_wp2_with fail
                  go_roundw
                  case rel => exact ⟨m + 1, ms, L, by omega, by go_num, rfl, by omega, J'⟩
                  case measure => simp [intOf]; omega
                | false =>
                  rw [hmv] at hmk
                  have J' := J.fresh hset hgr hyk (Nat.le_refl _) (by omega) (Nat.le_refl _) hmv
                  clear hset hgr J hmv
                  go_wp2_with fail
                  go_roundw
                  case rel => exact ⟨m + 1, ms.set y true, L ++ [N + y], by omega, by go_num, by simp, by simp; omega, J'⟩
                  case measure => simp [intOf]; omega
              · obtain rfl : m = l1 := by omega
                go_wp2_with fail
                go_meet
                exact ⟨ms, L, rfl, hL, J⟩
          · obtain rfl : k = 0 := by omega
            go_wp2_with fail
            go_meet
            exact ⟨_, _, rfl, Nat.zero_le _, J2⟩
        case rest =>
          obtain ⟨ms, L, rfl, hL, J⟩ := hcut
          have hcall := hide (declare_nil wc (ptr N0))
          have hlen := J.set.len
          have hlook := J.set.look J.inv.fx.pre
          have ho2 := J.inv.fx.o2
          simp only [List.length_cons, List.mem_cons, true_or, decide_true] at hlen hlook
          go_wp2_with fail
          refine hcall.out.mono ?_
          rintro e w' ⟨rfl, rfl⟩
          clear hcall
          go_wp2_with fail
          clear hlen hlook ho2
          go_loopw [17] (fun i wr => ∃ t : Nat, t ≤ k ∧ i = .int .i64 t ∧ I2 w wr N0 (N0 + 8) N k (N + k) ms L) (fun i _ => k - (intOf i).toNat)
          case atStart => exact ⟨0, Nat.zero_le _, rfl, J⟩
          case round =>
            obtain ⟨t, ht, rfl, J3⟩ := hrel
            by_cases hlt : t < k
            · have hpar := J3.param hlt
              have hmk := J3.mark hlt
              have ho2 := J3.inv.fx.o2
              have hlook : ∀ nd, (Instr.lookup 42 (.map (some (N0 + 6))) (ptr (N + t)) true).run Yba.prog (wr.drewN nd) = .ok (.tuple #[.bool (ms.getD t false), .bool (ms.getD t false)]) (wr.drewN nd) := fun nd => by
                have hs : PtrSet (wr.drewN nd) (N0 + 6) (N0 :: L) := J3.set
                have hb : Blk (wr.drewN nd) (N + t) := J3.inv.blk t hlt
                have := hs.look hb
                rwa [J3.agree.mem hlt (by omega)] at this
              obtain ⟨v, hv⟩ : ∃ v, v = ms.getD t false := ⟨_, rfl⟩
              rw [← hv] at hmk hlook
              clear hv
              have hil : (t : Int) < (k : Int) := by omega
              have hi0 : (0 : Int) ≤ (t : Int) := by omega
              go_wp2_with fail
              go_quiet (fail)
              have J4 : I2 w (wr.drewN nq) N0 (N0 + 8) N k (N + k) ms L := ⟨⟨below_drewN J3.inv.bel, J3.inv.fx.drew nq, J3.inv.row, J3.inv.blk, J3.inv.size⟩, J3.set, J3.row, J3.agree, J3.low⟩
              clear J3 hlook
              cases v
              · go_wp2_with fail
                go_roundw
                case rel => exact ⟨t + 1, by omega, by go_num, J4⟩
                case measure => simp [intOf]; omega
              · go_wp2_with fail
                go_roundw
                case rel => exact ⟨t + 1, by omega, by go_num, J4⟩
                case measure => simp [intOf]; omega
            · obtain rfl : t = k := by omega
              clear J
              have hone := run_look_one (w := wr) (by kernel_rfl) J3.inv.fx.one
              have hlen1 := run_len_one J3.inv.fx.one
              have ho0 := J3.inv.fx.o0
              have ho1 := J3.inv.fx.o1
              have hr1 := J3.inv.fx.r1
              have hr2 := J3.inv.fx.r2
              have hneq := run_neq_entry wr (N0 + 2)
              have heql := run_eql_entry wr (N0 + 2)
              go_wp2_with fail
              refine bodyPost_ret (results_tmp rfl _ _ _) rfl ⟨rfl, ?_⟩
              rw [← HN0.out]
              exact J3.inv.bel
end Go.Proofs.Ybulkaywk
