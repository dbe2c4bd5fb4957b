/-
  SMALL WALKS AND LAWS OF THE SEAT: the two conversions between strings and bytes; zzs2497anib; zzs2497aeq.
-/
import Derived.Test.YbulkayroFmtDecode
import Derived.Lib.ConvBytes
namespace Go.Proofs.YbulkayroFmt
open Go.RowKit

/-- A string's bytes as numbers. -/
def bsOf (s : ByteArray) : List Int := s.data.toList.map fun b => (b.toNat : Int)
theorem bsOf_len (s : ByteArray) : (bsOf s).length = s.size := by simp [bsOf]
theorem bsOf_get (s : ByteArray) (j : Nat) (hj : j < s.size) : (bsOf s).getD j 0 = ((s.data.toList.getD j 0).toNat : Int) := by
  simp [bsOf, List.getD, hj]
theorem bsOf_bd (s : ByteArray) (j : Nat) : 0 ≤ (bsOf s).getD j 0 ∧ (bsOf s).getD j 0 ≤ 255 := by
  by_cases hj : j < s.size
  · rw [bsOf_get s j hj]
    have := (s.data.toList.getD j 0).toNat_lt
    omega
  · have : (bsOf s).getD j 0 = 0 := by rw [List.getD, List.getElem?_eq_none (by rw [bsOf_len]; omega)]; rfl
    omega

/-- '[]byte(s)': a new row that reads as the string's bytes. -/
theorem wpList_bytes_of {P : Program} {w : World} {ops : Array Oper} {rest : List Oper} {o : Oper} {a : Act} {Q : Exit → Act → World → Prop} (hgd : o.guard = none) (src dst e : TypeId) (x : Operand)
    (ho : o.op = .convert src dst x) (hs : P.underlying src = some .string) (hd : P.underlying dst = some (.slice e)) (he : P.underlying e = some (.int .u8)) (s : ByteArray) (hx : a.eval x = .string s)
    (hK : ∀ (w1 : World) (c : Nat), w1.heap.size = w.heap.size + 1 → Hid (∀ j, j < s.size → w1.cell? ⟨w.heap.size, j, none⟩ = some (.int .u8 ((bsOf s).getD j 0))) → Below w.heap.size w w1 → wpList P ops Q rest (a.put o.dst (.slice (some ⟨w.heap.size, 0, none⟩) s.size c)) w1) : wpList P ops Q (o :: rest) a w := by
  refine wpList_plain hgd fun K hK' => ?_
  have hrun := Lib.run_convert_string_bytes (P := P) w src dst e s hs hd he
  have hb : Below w.heap.size w (Lib.bytesWorld w e s) := ⟨rfl, rfl, rfl, by rw [Lib.bytesWorld_size]; omega, fun k hk => Lib.bytesWorld_at_old w e s k hk⟩
  unfold Oper.wp
  simp only [execOp, ho, hx, Sem.run_bind, hrun, Result.andThen_ok, Sem.run_pure]
  exact hK' _ _ (hK _ _ (Lib.bytesWorld_size w e s) (fun j hj => by rw [Lib.bytesWorld_cell w e s j hj, bsOf_get s j hj]) hb)

theorem push_bytes (ns : List Int) (h : ∀ n ∈ ns, 0 ≤ n ∧ n ≤ 255) : ∀ s : ByteArray, bsOf (ns.foldl (fun r n => r.push (UInt8.ofNat n.toNat)) s) = bsOf s ++ ns := by
  induction ns with
  | nil => intro s; simp
  | cons n ns ih =>
    intro s
    rw [List.foldl_cons, ih (fun m hm => h m (List.mem_cons_of_mem _ hm))]
    have hn := h n (List.mem_cons_self ..)
    have e : ((UInt8.ofNat n.toNat).toNat : Int) = n := by simp; omega
    simp only [bsOf, ByteArray.push, Array.toList_push, List.map_append, List.map_cons, List.map_nil, e, List.append_assoc, List.cons_append, List.nil_append]

/-- 'string(bs)', bs a slice of bytes that is not nil: a string of those bytes; the world stands. -/
theorem wpList_string_of {P : Program} {w : World} {ops : Array Oper} {rest : List Oper} {o : Oper} {a : Act} {Q : Exit → Act → World → Prop} (hgd : o.guard = none) (src dst e : TypeId) (x : Operand)
    (ho : o.op = .convert src dst x) (hs : P.underlying src = some (.slice e)) (he : P.underlying e = some (.int .u8)) (hd : P.underlying dst = some .string) (ad : Addr) (n c : Nat) (hx : a.eval x = .slice (some ad) n c) (ns : List Int) (hn : ns.length = n)
    (hc : ∀ j v, (ns.map (Value.int .u8))[j]? = some v → w.cell? (ad.add j) = some v) (hb : ∀ m ∈ ns, 0 ≤ m ∧ m ≤ 255)
    (hK : ∀ s : ByteArray, Hid (bsOf s = ns) → wpList P ops Q rest (a.put o.dst (.string s)) w) : wpList P ops Q (o :: rest) a w := by
  refine wpList_plain hgd fun K hK' => ?_
  have hl := run_loadCells_list (P := P) (w := w) ad (ns.map (Value.int .u8)) hc
  rw [List.length_map, hn] at hl
  have hrun := run_bytesToString (P := P) w ad n c ns hl
  have hcv := run_convert_bytes_string (P := P) w src dst e (some ad) n c hs he hd
  unfold Oper.wp
  simp only [execOp, ho, hx, Sem.run_bind, hcv, hrun, Result.andThen_ok, Sem.run_pure]
  exact hK' _ _ (hK _ (by show _ = _; rw [push_bytes ns hb]; simp [bsOf]))

/-- What zzs2497anib answers. -/
def nibV (c : Int) : Int := if hv c ≤ 15 then hv c else 0

theorem ret2 {a b a' b' : Value} (h1 : a = a') (h2 : b = b') : Ending.returned (.tuple #[a, b]) = .returned (.tuple #[a', b']) := by rw [h1, h2]

set_option maxHeartbeats 400000 in
theorem nib_any (c : Int) (w : World) (h0 : 0 ≤ c) (h1 : c ≤ 255) :
    Calls Ybaf.prog 8 #[.int .u8 c] w fun e w' => e = .returned (.tuple #[.int .u8 (nibV c), .bool (decide (hv c ≤ 15))]) ∧ w = w' := by
  by_cases a1 : 48 ≤ c
  · by_cases a2 : c ≤ 57
    · have e : Hid (hv c = c - 48) := by show _ = _; unfold hv; rw [if_pos ⟨a1, a2⟩]
      go_enter Ybaf.func8, Ybaf.ntmps8
      go_wp2_with fail
      go_ret2
      exact ⟨ret2 (by rw [nibV, e.out, if_pos (by omega)]; rfl) (by rw [e.out]; exact congrArg _ (decide_eq_true (by omega)).symm), rfl⟩
    · by_cases a3 : 97 ≤ c
      · by_cases a4 : c ≤ 102
        · have e : Hid (hv c = c - 97 + 10) := by show _ = _; unfold hv; rw [if_neg (by omega), if_pos ⟨a3, a4⟩]; omega
          go_enter Ybaf.func8, Ybaf.ntmps8
          go_wp2_with fail
          go_ret2
          exact ⟨ret2 (by rw [nibV, e.out, if_pos (by omega)]; rfl) (by rw [e.out]; exact congrArg _ (decide_eq_true (by omega)).symm), rfl⟩
        · have e : Hid (hv c = 255) := by show _ = _; unfold hv; rw [if_neg (by omega), if_neg (by omega), if_neg (by omega)]
          go_enter Ybaf.func8, Ybaf.ntmps8
          go_wp2_with fail
          go_ret2
          exact ⟨ret2 (by rw [nibV, e.out, if_neg (by omega)]; rfl) (by rw [e.out]; rfl), rfl⟩
      · by_cases a5 : 65 ≤ c
        · by_cases a6 : c ≤ 70
          · have e : Hid (hv c = c - 65 + 10) := by show _ = _; unfold hv; rw [if_neg (by omega), if_neg (by omega), if_pos ⟨a5, a6⟩]; omega
            go_enter Ybaf.func8, Ybaf.ntmps8
            go_wp2_with fail
            go_ret2
            exact ⟨ret2 (by rw [nibV, e.out, if_pos (by omega)]; rfl) (by rw [e.out]; exact congrArg _ (decide_eq_true (by omega)).symm), rfl⟩
          · have e : Hid (hv c = 255) := by show _ = _; unfold hv; rw [if_neg (by omega), if_neg (by omega), if_neg (by omega)]
            go_enter Ybaf.func8, Ybaf.ntmps8
            go_wp2_with fail
            go_ret2
            exact ⟨ret2 (by rw [nibV, e.out, if_neg (by omega)]; rfl) (by rw [e.out]; rfl), rfl⟩
        · have e : Hid (hv c = 255) := by show _ = _; unfold hv; rw [if_neg (by omega), if_neg (by omega), if_neg (by omega)]
          go_enter Ybaf.func8, Ybaf.ntmps8
          go_wp2_with fail
          go_ret2
          exact ⟨ret2 (by rw [nibV, e.out, if_neg (by omega)]; rfl) (by rw [e.out]; rfl), rfl⟩
  · have e : Hid (hv c = 255) := by show _ = _; unfold hv; rw [if_neg (by omega), if_neg (by omega), if_neg (by omega)]
    go_enter Ybaf.func8, Ybaf.ntmps8
    go_wp2_with fail
    go_ret2
    exact ⟨ret2 (by rw [nibV, e.out, if_neg (by omega)]; rfl) (by rw [e.out]; rfl), rfl⟩

set_option maxHeartbeats 400000 in
/-- Two slices of bytes that read alike are equal. -/
theorem eq_true (a b : Option Addr) (n c d : Nat) (xs : List Int) (w : World) (hn : n ≤ 4000)
    (ha : ∀ j, j < n → ∃ g o, a = some ⟨g, o, none⟩ ∧ w.cell? ⟨g, o + j, none⟩ = some (.int .u8 (xs.getD j 0))) (hb : ∀ j, j < n → ∃ g o, b = some ⟨g, o, none⟩ ∧ w.cell? ⟨g, o + j, none⟩ = some (.int .u8 (xs.getD j 0))) :
    Calls Ybaf.prog 7 #[.slice a n c, .slice b n d] w fun e w' => e = .returned (.bool true) ∧ Below w.heap.size w w' := by
  have HA := hide ha
  have HB := hide hb
  clear ha hb
  go_enter Ybaf.func7, Ybaf.ntmps7
  go_wp2_with fail
  go_loopw [5] (fun i wr => ∃ t : Nat, t ≤ n ∧ i = .int .i64 t ∧ Below w.heap.size w wr) (fun i _ => n - (intOf i).toNat)
  case atStart => exact ⟨0, Nat.zero_le _, rfl, Below.refl _ _⟩
  case round =>
    obtain ⟨t, ht, rfl, hbe⟩ := hrel
    by_cases hlt : t < n
    · obtain ⟨g1, o1, rfl, hc1⟩ := HA.out t hlt
      obtain ⟨g2, o2, rfl, hc2⟩ := HB.out t hlt
      obtain ⟨x, hx⟩ : ∃ x, x = xs.getD t 0 := ⟨_, rfl⟩
      rw [← hx] at hc1 hc2
      have hd1 : wr.cell? ⟨g1, o1 + t, none⟩ = some (.int .u8 x) := (hbe.cell (p := ⟨g1, o1 + t, none⟩) (World.block_lt_of_cell? w _ hc1)).trans hc1
      have hd2 : wr.cell? ⟨g2, o2 + t, none⟩ = some (.int .u8 x) := (hbe.cell (p := ⟨g2, o2 + t, none⟩) (World.block_lt_of_cell? w _ hc2)).trans hc2
      clear hx hc1 hc2
      go_wp2_with fail
      go_quiet (fail)
      go_wp2_with fail
      go_roundw
      case rel => exact ⟨t + 1, by omega, by go_num, below_drewN hbe⟩
      case measure => simp [intOf]; omega
    · go_wp2_with fail
      go_ret
      exact ⟨rfl, hbe⟩

end Go.Proofs.YbulkayroFmt
