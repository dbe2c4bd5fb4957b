/-
  THE WALK OF Payload.
-/
import Derived.Test.YbulkayroFmtErr
namespace Go.Proofs.YbulkayroFmt
open Go.RowKit Go.Extern.Stop Go.Stop Go.Extern

theorem info5 : (Ybaf.prog.info? 5).map (fun i => (i.zero, i.size, i.bytes)) = some (some (.int .u8 0), 1, 1) := by kernel_rfl

theorem ret_int {k : IntKind} {a b : Int} (h : a = b) : Ending.returned (.int k a) = .returned (.int k b) := by rw [h]

set_option maxHeartbeats 400000 in
theorem decodedLen_any (n : Nat) (w : World) (hn : n ≤ 100000) : Calls Ybaf.prog 9 #[.int .i64 (n : Int)] w fun e w' => e = .returned (.int .i64 ((n / 2 : Nat) : Int)) ∧ w = w' := by
  go_enter Ybaf.func9, Ybaf.ntmps9
  go_wp2_with fail
  go_ret
  exact ⟨ret_int (by omega), rfl⟩

def PayPost (s : ByteArray) (w : World) (e : Ending) (w' : World) : Prop :=
  (s.size % 2 = 0 ∧ GoodTo (bsOf s) (s.size / 2) ∧ ∃ g, w.heap.size ≤ g ∧ e = .returned (.tuple #[.slice (some ⟨g, 0, none⟩) (s.size / 2) (s.size / 2), .nilIface]) ∧ Own .u8 5 w' w.heap.size g (s.size / 2) (s.size / 2) (prs cm (bsOf s) (s.size / 2)) ∧ Below w.heap.size w w') ∨
  (¬ (s.size % 2 = 0 ∧ GoodTo (bsOf s) (s.size / 2)) ∧ ∃ T v, e = .returned (.tuple #[.slice none 0 0, .iface T v]) ∧ Below w.heap.size w w')

set_option maxHeartbeats 1000000 in
set_option maxRecDepth 100000 in
theorem payload_any (F : Interp) (s : ByteArray) (sb : Nat) (ea : Addr) (el : ByteArray) (w : World) (hF : F.answers w.tape) (hstr : w.cell? ⟨sb, 0, none⟩ = some (.string s)) (hsz : s.size ≤ 4000)
    (hEL : w.cell? ⟨0, 0, none⟩ = some (.iface 43 (.pointer (some ea)))) (hea : w.cell? ea = some (.string el)) :
    Calls Ybaf.prog 6 #[.pointer (some ⟨sb, 0, none⟩)] w fun e w' => PayPost s w e w' := by
  obtain ⟨i0, hi, hz0, hz1, hz2⟩ := info_parts info5
  have hw0 : 0 < w.heap.size := World.block_lt_of_cell? w _ hEL
  have hsb : sb < w.heap.size := World.block_lt_of_cell? w _ hstr
  obtain ⟨k, hk⟩ : ∃ k, k = s.size / 2 := ⟨_, rfl⟩
  have HK := hide hk
  have hk2 : k ≤ 2000 := by omega
  have hcl : Hid (∀ w, Calls Ybaf.prog 9 #[.int .i64 (s.size : Int)] w fun e w' => e = .returned (.int .i64 (k : Int)) ∧ w = w') := by
    intro w
    rw [hk]
    exact decodedLen_any _ _ (by omega)
  clear hk
  go_enter Ybaf.func6, Ybaf.ntmps6
  go_wp2_with (first | (go_at_call 9; refine (hcl.out _).mono ?_; rintro e w' ⟨rfl, rfl⟩) | (at_make; refine wpList_make_full _ rfl _ _ 22 rfl w.heap.size 5 i0 (.int .u8 0) 1 Ybaf.underlying22 hi hz0 hz1 _ _ _ _ k rfl rfl rfl rfl ?b2 ?b3 ?b4 ?_))
  case b2 => rw [hz2]; omega
  case b3 => unfold maxLen; omega
  case b4 => exact Nat.le_refl _
  intro wA hownA hgA
  have hOA : Own .u8 5 wA w.heap.size w.heap.size k k (List.replicate k 0) := own_made hownA
  have hbA : Below w.heap.size w wA := (Below.refl _ _).grown hgA (Nat.le_refl _) (by simp)
  have hsA : wA.cell? ⟨sb, 0, none⟩ = some (.string s) := (hbA.cell (p := ⟨sb, 0, none⟩) hsb).trans hstr
  have hAs := hOA.hi
  clear hownA hgA
  go_wp2_with (refine wpList_bytes_of rfl 9 22 5 (.tmp 19) rfl Ybaf.underlying9 Ybaf.underlying22 Ybaf.underlying5 s rfl ?_; intro wB cB hBs hBc hbB)
  have hOB : Own .u8 5 wB w.heap.size w.heap.size k k (List.replicate k 0) := hOA.keep (hbB.block _ hAs)
  have hELB : wB.cell? ⟨0, 0, none⟩ = some (.iface 43 (.pointer (some ea))) := (hbB.cell (p := ⟨0, 0, none⟩) (show 0 < wA.heap.size by omega)).trans ((hbA.cell (p := ⟨0, 0, none⟩) hw0).trans hEL)
  have hdec := hide (decode_any (.iface 43 (.pointer (some ea))) w.heap.size w.heap.size k wA.heap.size 0 s.size cB (bsOf s) wB HK.out (by omega)
    (fun j hj => ⟨by rw [Nat.zero_add]; exact hBc.out j hj, bsOf_bd s j⟩) (by omega) hOB hELB (by omega))
  refine hdec.out.mono ?_
  rintro e wD (⟨hev, hgd, rfl, hOD, hgD⟩ | ⟨hbad, i, er, rfl, hber, hgD⟩)
  · have hbD : Below w.heap.size w wD := (hbA.trans (hbB.mono (by omega))).trans (grown_below (by omega) (Nat.le_refl _) hgD)
    go_wp2_with fail
    go_ret2
    refine .inl ⟨hev, by rw [← HK.out]; exact hgd, w.heap.size, Nat.le_refl _, ?_, ?_, hbD⟩
    · rw [← HK.out]; rfl
    · rw [← HK.out]; exact hOD
  · have hbD : Below w.heap.size w wD := (hbA.trans (hbB.mono (by omega))).trans (grown_below (by omega) (Nat.le_refl _) hgD)
    rcases hber with ⟨c, hc0, hc1, rfl⟩ | rfl
    · have hFD : F.answers (wD.alloc (Obj.cells #[Value.iface 39 (Value.int IntKind.u8 c)] 20)).tape := by
        show F.answers wD.tape
        rw [hbD.tape]; exact hF
      have hcall := hide (errorf_byte F c wD.heap.size _ hFD hc0 hc1 (by rw [cell_new _ _ _ _ _ rfl]; rfl))
      go_wp2_with fail
      refine hcall.out.mono ?_
      rintro e wE ⟨T, v, rfl, hbE⟩
      go_wp2_with fail
      go_ret2
      exact .inr ⟨by rw [← HK.out]; exact hbad, T, v, rfl, (hbD.alloc hbD.size _).trans (hbE.mono (by have := hbD.size; simp; omega))⟩
    · have hFD : F.answers (wD.alloc (Obj.cells #[Value.iface 43 (.pointer (some ea))] 20)).tape := by
        show F.answers wD.tape
        rw [hbD.tape]; exact hF
      have healt : ea.block < w.heap.size := World.block_lt_of_cell? w _ hea
      have heD : (wD.alloc (Obj.cells #[Value.iface 43 (.pointer (some ea))] 20)).cell? ea = some (.string el) := ((hbD.alloc hbD.size _).cell healt).trans hea
      have hcall := hide (errorf_len F wD.heap.size ea el _ hFD (by rw [cell_new _ _ _ _ _ rfl]; rfl) heD)
      go_wp2_with fail
      refine hcall.out.mono ?_
      rintro e wE ⟨T, v, rfl, hbE⟩
      go_wp2_with fail
      go_ret2
      exact .inr ⟨by rw [← HK.out]; exact hbad, T, v, rfl, (hbD.alloc hbD.size _).trans (hbE.mono (by have := hbD.size; simp; omega))⟩

end Go.Proofs.YbulkayroFmt
