/-
  PLAIN: WHAT lookup IS TOLD AT THE LAW's CALL; THE COUNT OF THE LAW's LAST LOOP.
-/
import Derived.Test.YbulkayteEnc
import Derived.Lib.ConvBytes
namespace Go.Proofs.Ybulkayte
open Go.RowKit

theorem below_bytes (w : World) (e : TypeId) (s : ByteArray) : Below w.heap.size w (Go.Lib.bytesWorld w e s) :=
  ⟨rfl, rfl, rfl, by rw [Go.Lib.bytesWorld_size]; omega, fun k hk => Go.Lib.bytesWorld_at_old w e s k hk⟩

theorem bytes_new (w : World) (e : TypeId) (s : ByteArray) : Go.Lib.Bytes (Go.Lib.bytesWorld w e s) w.heap.size 0 s := fun i hi => by
  rw [Nat.zero_add, Go.Lib.bytesWorld_cell w e s i hi]
  have h' : i < s.data.toList.length := by simpa using hi
  simp only [List.getD]
  rw [List.getElem?_eq_getElem h']
  rfl

theorem own_cap {w : World} {base N cv : Nat} {e : TypeId} {bv : Option Addr} {xs : List Value} (h : w.ownsRow base e 1 (.slice bv N cv) N xs) : N ≤ cv ∧ cv ≤ maxLen := by
  rcases h.2 with ⟨h1, h2⟩ | ⟨g, cap, cur, hv, _, _, h1, h2, _⟩
  · simp only [Value.slice.injEq] at h1
    obtain ⟨_, rfl, rfl⟩ := h1
    exact ⟨Nat.le_refl _, Nat.zero_le _⟩
  · simp only [Value.slice.injEq] at hv
    obtain ⟨_, _, rfl⟩ := hv
    exact ⟨h1, h2⟩

theorem look_all {wz wq W : World} {B S T U V R N cv m bb g : Nat} {x0 bp : Value} {bv : Option Addr} {K : Nat → ByteArray} {rk : Nat → Nat} {st hs rs : List Int}
    (hT : Below T wz W) (hV : Below V wq W) (hTz : T = wz.heap.size) (hST : S < T) (hUV : U < V) (hRV : R < V)
    (oB : wz.ownsRow (S + 1) 5 1 (.slice bv N cv) N ((bytesL K m).map (Value.int .u8))) (oT : Own .u32 24 wz B S m m st)
    (oM : Own .u32 24 wq U U m m hs) (oR : Own .u32 24 wq U R m m rs) (hst : st = stL K m) (hrs : ∀ j, j < m → rs.getD j 0 = (rk j : Int))
    (nd : W.heap[V]? = some (.cells #[x0, .int .i64 m, .slice (some ⟨S, 0, none⟩) m m, .slice (some ⟨U, 0, none⟩) m m, .slice (some ⟨R, 0, none⟩) m m, bp, .pointer none, .pointer none] 33 (0, 0)))
    (hleaf : 0 < m → bp = pt bb ∧ bv = some ⟨g, 0, none⟩ ∧ W.cell? ⟨bb, 0, none⟩ = some (.slice (some ⟨g, 0, none⟩) N cv) ∧ bb < W.heap.size)
    (hrl : ∀ j, j < m → rk j < m) (hN : (bytesL K m).length = N) (hK : ∀ j, j < m → (K j).size ≤ 1024) :
    ∃ bb g, Look W V bb S m m g N cv U m R m st hs rk K ∧ g < W.heap.size ∧ bb < W.heap.size := by
  have hVW : V < W.heap.size := (Array.getElem?_eq_some_iff.1 nd).1
  have cell : ∀ (j : Nat) (v : Value), #[x0, .int .i64 m, .slice (some ⟨S, 0, none⟩) m m, .slice (some ⟨U, 0, none⟩) m m, .slice (some ⟨R, 0, none⟩) m m, bp, .pointer none, .pointer none][j]? = some v → W.cell? ⟨V, j, none⟩ = some v := fun j v h => by rw [cell_of_row _ _ _ _ _ _ nd]; exact h
  have h3 := cell 3 _ rfl
  have h4 := cell 4 _ rfl
  have hr : ∀ j, j < m → W.cell? ⟨U, j, none⟩ = some (.int .u32 (hs.getD j 0)) := fun j hj => (hV.cell (p := ⟨U, j, none⟩) hUV).trans (oM.cell hj)
  have rr : ∀ j, j < m → W.cell? ⟨R, j, none⟩ = some (.int .u32 (rk j)) := fun j hj => by rw [hV.cell (p := ⟨R, j, none⟩) hRV, oR.cell hj, hrs j hj]
  by_cases hm : 0 < m
  · obtain ⟨rfl, rfl, hd, hbb⟩ := hleaf hm
    have hgT : g < T := by rw [hTz]; exact (oB.lt g rfl).2
    have row : ∀ j, j < N → W.cell? ⟨g, j, none⟩ = some (.int .u8 ((bytesL K m).getD j 0)) := fun j hj => by
      rw [hT.cell (p := ⟨g, j, none⟩) hgT]
      have hc := oB.cells (g := g) rfl j (.int .u8 ((bytesL K m).getD j 0)) (by simp [List.getD, show j < (bytesL K m).length by omega])
      simpa [Addr.add_lit] using hc
    refine ⟨bb, g, ⟨fun _ => ⟨cell 2 _ rfl, cell 5 _ rfl, hd, fun j hj => (hT.cell (p := ⟨S, j, none⟩) hST).trans (oT.cell hj)⟩, h3, h4, hr, rr, hrl, fun i hi => ⟨startOf K i, by rw [hst]; exact stL_at hi, entry_of row hN hK hi⟩⟩, ?_, hbb⟩
    have := hT.size
    omega
  · exact ⟨0, 0, ⟨fun h => absurd h hm, h3, h4, hr, rr, hrl, fun i hi => absurd hi (by omega)⟩, by omega, by omega⟩

theorem found_one {hs : List Int} {rk : Nat → Nat} {K : Nat → ByteArray} {h : Int} {q : ByteArray} {r k : Nat} (hf : Found hs rk K h q r) (hk : k < r) (e : hs.getD k 0 = h) : ¬ K (rk k) = q := fun e2 => hf.2.2 k hk ⟨e, e2⟩

end Go.Proofs.Ybulkayte
