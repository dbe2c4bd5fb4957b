/-
  A MAP KEYED BY POINTERS THAT THE CALL MADE, ITS ELEMENTS BOOLS, ALL TRUE: A SET OF ADDRESSES. ITS STORE, ITS LOOK-UP, ITS LENGTH; AND THE FIRST STORE INTO AN EMPTY MAP.
-/
import Derived.Test.YbulkaywkOwn
import Derived.LaidEqlPtr
import Derived.Maps.OwnSet
import Derived.Maps.AppendAt
namespace Go.Proofs.Ybulkaywk
open Go.RowKit Go.ChangeMaps Go.MapKept

theorem info28 : (Yba.prog.info? 28).map (fun i => decide (i.size ≠ 0)) = some true := by kernel_rfl

/-- Block b is a block of cells, none of them frozen. -/
def Blk (w : World) (b : Nat) : Prop := ∃ cs t, w.heap[b]? = some (.cells cs t (0, 0))

theorem Blk.lt {w : World} {b : Nat} (h : Blk w b) : b < w.heap.size := by
  obtain ⟨cs, t, h⟩ := h
  exact (Array.getElem?_eq_some_iff.1 h).1

abbrev ptr (b : Nat) : Value := .pointer (some ⟨b, 0, none⟩)

/-- Two pointers to params: the same one, or not. -/
theorem run_equal_ptr {w : World} {a b : Nat} (ha : Blk w a) (hb : Blk w b) : (Op.equal 24 (ptr a) (ptr b)).run Yba.prog w = .ok (a == b) w := by
  obtain ⟨ca, ta, ha⟩ := ha
  obtain ⟨cb, tb, hb⟩ := hb
  obtain ⟨j, hj, hsz⟩ : ∃ j, Yba.prog.info? 28 = some j ∧ j.size ≠ 0 := by
    have := info28
    cases h : Yba.prog.info? 28 with
    | none => rw [h] at this; simp at this
    | some j => rw [h] at this; exact ⟨j, rfl, by simpa using this⟩
  by_cases e : a = b
  · subst e
    have h : ∀ d : Nat, (Op.equalIn (d + 1) 24 (ptr a) (ptr a)).run Yba.prog w = .ok true w := fun d => by
      simp [Op.equalIn, run_underlying Yba.underlying24, sizeOf, typeInfo, hj, run_sameAddr_same]
    simp [Op.equal, Op.maxDepth, h 9999]
  · have h : ∀ d : Nat, (Op.equalIn (d + 1) 24 (ptr a) (ptr b)).run Yba.prog w = .ok false w := fun d => by
      simp [Op.equalIn, run_underlying Yba.underlying24, sizeOf, typeInfo, hj, hsz, run_sameAddr_other w (a := ⟨a, 0, none⟩) (b := ⟨b, 0, none⟩) (fun h => e (by cases h; rfl)) ha hb]
    simp [Op.equal, Op.maxDepth, h 9999, e]

/-- The entries are the keys L, each true. -/
def Ents (es : List MapEntry) (L : List Nat) : Prop := es.map (fun e => e.key) = L.map ptr ∧ ∀ e ∈ es, e.val = .bool true

theorem ents_cons {e : MapEntry} {es : List MapEntry} {b : Nat} {L : List Nat} (h : Ents (e :: es) (b :: L)) : e.key = ptr b ∧ e.val = .bool true ∧ Ents es L := by
  obtain ⟨h1, h2⟩ := h
  simp only [List.map_cons, List.cons.injEq] at h1
  exact ⟨h1.1, h2 e (by simp), h1.2, fun x hx => h2 x (by simp [hx])⟩

theorem run_asking {w : World} {p : Nat} (hp : Blk w p) : ∀ (es : List MapEntry) (L : List Nat) (i : Nat), Ents es L → (∀ b ∈ L, Blk w b) →
    (p ∉ L ∧ (Instr.findAsking 24 (ptr p) es i).run Yba.prog w = .ok none w) ∨
    (p ∈ L ∧ ∃ j e, es[j]? = some e ∧ e.key = ptr p ∧ (Instr.findAsking 24 (ptr p) es i).run Yba.prog w = .ok (some (i + j, .bool true)) w)
  | [], [], _, _, _ => .inl ⟨by simp, rfl⟩
  | [], b :: L, _, h, _ => by simp [Ents] at h
  | e :: es, [], _, h, _ => by simp [Ents] at h
  | e :: es, b :: L, i, h, hb => by
    obtain ⟨hk, hv, ht⟩ := ents_cons h
    have he := run_equal_ptr hp (hb b (by simp))
    by_cases e1 : p = b
    · subst e1
      refine .inr ⟨by simp, 0, e, by simp, hk, ?_⟩
      simp [Instr.findAsking, hk, he, hv]
    · rcases run_asking hp es L (i + 1) ht (fun x hx => hb x (by simp [hx])) with ⟨h1, h2⟩ | ⟨h1, j, e', h2, h3, h4⟩
      · refine .inl ⟨by simp [e1, h1], ?_⟩
        simp [Instr.findAsking, hk, he, e1, h2]
      · refine .inr ⟨by simp [h1], j + 1, e', by simpa using h2, h3, ?_⟩
        simp [Instr.findAsking, hk, he, e1, h4]
        omega

theorem findNow_ptr (te : TypeId) (p : Nat) : ∀ (es : List MapEntry) (L : List Nat) (i : Nat), Ents es L → Instr.findNow (.pointer te) (ptr p) es i = if es = [] then some none else none
  | [], _, _, _ => by simp [Instr.findNow]
  | e :: es, [], _, h => by simp [Ents] at h
  | e :: es, b :: L, i, h => by
    simp [Instr.findNow, Instr.sameNow]

theorem run_find {w : World} {p : Nat} (hp : Blk w p) {es : List MapEntry} {L : List Nat} (h : Ents es L) (hb : ∀ b ∈ L, Blk w b) :
    (p ∉ L ∧ (Instr.findKey 24 (ptr p) es).run Yba.prog w = .ok none w) ∨
    (p ∈ L ∧ ∃ j e, es[j]? = some e ∧ e.key = ptr p ∧ (Instr.findKey 24 (ptr p) es).run Yba.prog w = .ok (some (j, .bool true)) w) := by
  by_cases e0 : es = []
  · subst e0
    have hL : L = [] := by simpa [Ents] using h.1.symm
    subst hL
    exact .inl ⟨by simp, by simp [Instr.findKey, run_underlying Yba.underlying24, Instr.findNow]⟩
  · have hn := findNow_ptr 28 p es L 0 h
    rw [if_neg e0] at hn
    rcases run_asking hp es L 0 h hb with ⟨h1, h2⟩ | ⟨h1, j, e, h2, h3, h4⟩
    · exact .inl ⟨h1, by simp [Instr.findKey, run_underlying Yba.underlying24, hn, h2]⟩
    · exact .inr ⟨h1, j, e, h2, h3, by simp [Instr.findKey, run_underlying Yba.underlying24, hn, h4]⟩

theorem run_check (w : World) (em : Bool) (p : Nat) : (Instr.checkKey em 10000 24 (ptr p)).run Yba.prog w = .ok () w := by
  have h : ∀ d : Nat, (Instr.checkKey em (d + 1) 24 (ptr p)).run Yba.prog w = .ok () w := fun d => by simp [Instr.checkKey, run_underlying Yba.underlying24]
  exact h 9999

/-- Block B is a map: a set of params, the addresses' blocks L; each is a block of cells. -/
def PtrSet (w : World) (B : Nat) (L : List Nat) : Prop := ∃ es clock, w.heap[B]? = some (.map es clock) ∧ Ents es.toList L ∧ ∀ b ∈ L, Blk w b

theorem PtrSet.lt {w : World} {B : Nat} {L : List Nat} (h : PtrSet w B L) : B < w.heap.size := by
  obtain ⟨es, c, h, _⟩ := h
  exact (Array.getElem?_eq_some_iff.1 h).1

/-- What is asked of the model where a map's key lies. -/
theorem PtrSet.look {w : World} {B : Nat} {L : List Nat} (h : PtrSet w B L) {p : Nat} (hp : Blk w p) :
    (Instr.lookup 42 (.map (some B)) (ptr p) true).run Yba.prog w = .ok (.tuple #[.bool (decide (p ∈ L)), .bool (decide (p ∈ L))]) w := by
  obtain ⟨es, c, hB, hE, hb⟩ := h
  have hz : (zeroValue 4).run Yba.prog w = .ok (.bool false) w := by kernel_rfl
  rcases run_find hp hE hb with ⟨h1, h2⟩ | ⟨h1, j, e, h2, h3, h4⟩
  · simp [Instr.lookup, run_underlying Yba.underlying42, Go.MapKept.run_getObj_map hB, run_check, h2, hz, h1, Result.andThen]
  · simp [Instr.lookup, run_underlying Yba.underlying42, Go.MapKept.run_getObj_map hB, run_check, h4, h1, Result.andThen]

theorem PtrSet.len {w : World} {B : Nat} {L : List Nat} (h : PtrSet w B L) (ty : TypeId) : (Builtin.len_ #[42] ty #[.map (some B)]).run Yba.prog w = .ok (.int .i64 L.length) w := by
  obtain ⟨es, c, hB, hE, hb⟩ := h
  have e1 : es.size = L.length := by have := congrArg List.length hE.1; simpa using this
  simp [Builtin.len_, run_underlying Yba.underlying42, Go.MapKept.run_getObj_map hB, goInt, Result.andThen, e1]

theorem blk_set {w : World} {B b : Nat} {es : Array MapEntry} {c : Nat} (hB : w.heap[B]? = some (.map es c)) (o : Obj) (h : Blk w b) : Blk (setBlock w B o) b := by
  obtain ⟨cs, t, h⟩ := h
  refine ⟨cs, t, ?_⟩
  rw [heap_setBlock_other hB _ (by rintro rfl; rw [hB] at h; cases h), h]

theorem grown_set {w : World} {B : Nat} {es : Array MapEntry} {c : Nat} (hB : w.heap[B]? = some (.map es c)) (o : Obj) : w.grownBy (setBlock w B o) (some B) :=
  ⟨rfl, rfl, rfl, by simp [setBlock], fun i _ hi => heap_setBlock_other hB _ (fun e => hi (by rw [e]))⟩

/-- The set with one more. -/
def added (L : List Nat) (p : Nat) : List Nat := if p ∈ L then L else L ++ [p]

/-- The store. -/
theorem PtrSet.store {w : World} {B : Nat} {L : List Nat} (h : PtrSet w B L) {p : Nat} (hp : Blk w p) :
    ∃ w', (Instr.mapUpdate 42 (.map (some B)) (ptr p) (.bool true)).run Yba.prog w = .ok () w' ∧ PtrSet w' B (added L p) ∧ w.grownBy w' (some B) ∧ w'.heap.size = w.heap.size := by
  obtain ⟨es, c, hB, hE, hb⟩ := h
  rcases run_find hp hE hb with ⟨h1, h2⟩ | ⟨h1, j, e, h2, h3, h4⟩
  · refine ⟨setBlock w B (.map (es.push ⟨ptr p, .bool true, c⟩) (c + 1)), ?_, ⟨_, _, heap_setBlock_same hB _, ?_, ?_⟩, grown_set hB _, by simp [setBlock]⟩
    · simp [Instr.mapUpdate, run_underlying Yba.underlying42, Go.MapKept.run_getObj_map hB, run_check, h2, Go.MapKept.run_setObj_map _ hB, Result.andThen, setBlock]
    · simp only [added, h1, if_false, Array.toList_push]
      refine ⟨by simp [hE.1], fun x hx => ?_⟩
      rcases List.mem_append.1 hx with hx | hx
      · exact hE.2 x hx
      · simp at hx; subst hx; rfl
    · simp only [added, h1, if_false]
      intro b hb'
      rcases List.mem_append.1 hb' with hx | hx
      · exact blk_set hB _ (hb b hx)
      · simp at hx; subst hx; exact blk_set hB _ hp
  · have hj : es[j]? = some e := by simpa using h2
    refine ⟨setBlock w B (.map (es.modify j fun e => { e with key := ptr p, val := .bool true }) c), ?_, ⟨_, _, heap_setBlock_same hB _, ?_, ?_⟩, grown_set hB _, by simp [setBlock]⟩
    · have hst : (Instr.keyThatStays (ptr p) (ptr p)).run Yba.prog w = .ok (ptr p) w := by simp [Instr.keyThatStays, Instr.sameBits]
      simp [Instr.mapUpdate, run_underlying Yba.underlying42, Go.MapKept.run_getObj_map hB, run_check, h4, hj, h3, hst, Go.MapKept.run_setObj_map _ hB, Result.andThen, setBlock]
    · simp only [added, h1, if_true]
      refine ⟨?_, fun x hx => ?_⟩
      · rw [← hE.1]
        apply List.ext_getElem?
        intro i
        simp only [List.getElem?_map, Array.getElem?_toList, Array.getElem?_modify]
        by_cases e1 : j = i
        · subst e1; simp [hj, h3]
        · simp [e1]
      · obtain ⟨i, hi, rfl⟩ := List.getElem_of_mem hx
        simp only [Array.getElem_toList, Array.getElem_modify]
        split
        · rfl
        · exact hE.2 _ (by simp)
    · simp only [added, h1, if_true]
      exact fun b hb' => blk_set hB _ (hb b hb')

/-- The set stands where other blocks turn. -/
theorem PtrSet.keep {w w' : World} {B : Nat} {L : List Nat} {row : Option Nat} (h : PtrSet w B L) (hg : w.grownBy w' row) (hne : some B ≠ row) (hk : ∀ b ∈ L, Blk w b → Blk w' b) : PtrSet w' B L := by
  have hlt := h.lt
  obtain ⟨es, c, hB, hE, hb⟩ := h
  exact ⟨es, c, (hg.block B hlt hne).trans hB, hE, fun b hb' => hk b hb' (hb b hb')⟩

/-- The first store into an empty map: a string's key. -/
theorem run_first_str {w : World} {B : Nat} (hB : w.heap[B]? = some (.map #[] 0)) (s : ByteArray) (v : Value) :
    (Instr.mapUpdate 41 (.map (some B)) (.string s) v).run Yba.prog w = .ok () (setBlock w B (.map #[⟨.string s, v, 0⟩] 1)) := by
  have hc : (Instr.checkKey false 10000 9 (.string s)).run Yba.prog w = .ok () w := by
    have h : ∀ d : Nat, (Instr.checkKey false (d + 1) 9 (.string s)).run Yba.prog w = .ok () w := fun d => by simp [Instr.checkKey, run_underlying Yba.underlying9]
    exact h 9999
  simp [Instr.mapUpdate, run_underlying Yba.underlying41, Go.MapKept.run_getObj_map hB, hc, Instr.findKey, run_underlying Yba.underlying9, Instr.findNow, Go.MapKept.run_setObj_map _ hB, Result.andThen, setBlock]

theorem run_first_ptr {w : World} {B : Nat} (hB : w.heap[B]? = some (.map #[] 0)) (p : Nat) :
    (Instr.mapUpdate 42 (.map (some B)) (ptr p) (.bool true)).run Yba.prog w = .ok () (setBlock w B (.map #[⟨ptr p, .bool true, 0⟩] 1)) := by
  simp [Instr.mapUpdate, run_underlying Yba.underlying42, Go.MapKept.run_getObj_map hB, run_check, Instr.findKey, run_underlying Yba.underlying24, Instr.findNow, Go.MapKept.run_setObj_map _ hB, Result.andThen, setBlock]

/-- The look-up in the map of one entry. -/
theorem run_look_one {w : World} {B : Nat} {s : ByteArray} {v : Value} (hss : (s == s) = true) (hB : w.heap[B]? = some (.map #[⟨.string s, v, 0⟩] 1)) :
    (Instr.lookup 41 (.map (some B)) (.string s) false).run Yba.prog w = .ok v w := by
  have hc : (Instr.checkKey false 10000 9 (.string s)).run Yba.prog w = .ok () w := by
    have h : ∀ d : Nat, (Instr.checkKey false (d + 1) 9 (.string s)).run Yba.prog w = .ok () w := fun d => by simp [Instr.checkKey, run_underlying Yba.underlying9]
    exact h 9999
  simp [Instr.lookup, hss, run_underlying Yba.underlying41, Go.MapKept.run_getObj_map hB, hc, Instr.findKey, run_underlying Yba.underlying9, Instr.findNow, Instr.sameNow, Result.andThen]

theorem run_len_one {w : World} {B : Nat} {e : MapEntry} (hB : w.heap[B]? = some (.map #[e] 1)) (ty : TypeId) : (Builtin.len_ #[41] ty #[.map (some B)]).run Yba.prog w = .ok (.int .i64 1) w := by
  simp [Builtin.len_, run_underlying Yba.underlying41, Go.MapKept.run_getObj_map hB, goInt, Result.andThen]

/-- 'declareVariable' at a set. -/
theorem declare {w : World} {o B p : Nat} {L : List Nat} (ho : w.cell? ⟨o, 2, none⟩ = some (.map (some B))) (h : PtrSet w B L) (hp : Blk w p) :
    Calls Yba.prog 4 #[ptr o, ptr p] w fun e w' => e = .returned (.tuple #[]) ∧ PtrSet w' B (added L p) ∧ w.grownBy w' (some B) ∧ w'.heap.size = w.heap.size := by
  obtain ⟨w1, h1, h2, h3, h4⟩ := h.store hp
  go_enter Yba.func4, Yba.ntmps4
  go_wp2_with fail
  exact bodyPost_end (results_none rfl _ _ _) rfl ⟨rfl, h2, h3, h4⟩

theorem declare_nil (w : World) (p : Value) : Calls Yba.prog 4 #[.pointer none, p] w fun e w' => e = .returned (.tuple #[]) ∧ w' = w := by
  go_enter Yba.func4, Yba.ntmps4
  go_wp2_with fail
  exact bodyPost_end (results_none rfl _ _ _) rfl ⟨rfl, rfl⟩

end Go.Proofs.Ybulkaywk
