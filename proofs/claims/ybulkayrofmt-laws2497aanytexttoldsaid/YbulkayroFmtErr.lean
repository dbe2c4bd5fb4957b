/-
  THE WALK OF fmt.Errorf OVER AN ERROR OF hex.Decode's (the closed facts and the steps after the guide's worked Hexbad and Trailer). FOR EVERY F: what fmt writes is not looked at; that it hands back an error that is not nil is.
-/
import Derived.Test.YbulkayroFmtSmall
import Derived.Stop.CallBack
import Derived.Stop.IfaceNil
namespace Go.Proofs.YbulkayroFmt
open Go.RowKit Go.Extern.Stop Go.Stop Go.Extern

theorem call12 (args : Array Value) (w : World) : (callFunc 12 args).run Ybaf.prog w = (FmtCalls.errorf #[9, 40] #[25] args).run Ybaf.prog w :=
  run_callFunc_next Ybaf.func12 (by kernel_rfl) (by kernel_rfl) (by kernel_rfl) args w
theorem call30 (args : Array Value) (w : World) : (callFunc 30 args).run Ybaf.prog w = ((FmtStop.sprintf #[9, 40] #[9] args).run Ybaf.prog w).andThen fun v w' => .ok (.value v) w' :=
  run_callFunc_extern Ybaf.func30 (by kernel_rfl) (by kernel_rfl) (by kernel_rfl) (by kernel_rfl) args w
theorem guard (name : String) (w : World) : (FmtStop.guard name).run Ybaf.prog w = .ok () w := by kernel_rfl
theorem nextTurns : Extern.next FmtCalls.turnsRow = some (FmtCalls.begun #[] #[]) := by kernel_rfl
theorem nextReturned : Extern.next FmtCalls.returnedRow = some (FmtCalls.returned #[] #[]) := by kernel_rfl
theorem fmt0 : FmtStop.printed? ⟨#[34, 112, 97, 121, 108, 111, 97, 100, 34, 32, 105, 115, 32, 110, 111, 116, 32, 104, 101, 120, 58, 32, 37, 119]⟩ 1 = some [(0, 119, false)] := by kernel_rfl
theorem fmt0r (w : World) : (FmtDoors.printed ⟨#[34, 112, 97, 121, 108, 111, 97, 100, 34, 32, 105, 115, 32, 110, 111, 116, 32, 104, 101, 120, 58, 32, 37, 119]⟩ 1).run Ybaf.prog w = .ok [(0, 119, false)] w := by kernel_rfl
theorem fmt4 : FmtStop.printed? ⟨#[101, 110, 99, 111, 100, 105, 110, 103, 47, 104, 101, 120, 58, 32, 105, 110, 118, 97, 108, 105, 100, 32, 98, 121, 116, 101, 58, 32, 37, 35, 85]⟩ 1 = some [(0, 85, true)] := by kernel_rfl
theorem fmt4r (w : World) : (FmtDoors.printed ⟨#[101, 110, 99, 111, 100, 105, 110, 103, 47, 104, 101, 120, 58, 32, 105, 110, 118, 97, 108, 105, 100, 32, 98, 121, 116, 101, 58, 32, 37, 35, 85]⟩ 1).run Ybaf.prog w = .ok [(0, 85, true)] w := by kernel_rfl
theorem act39_119w (name : String) (x : Value) (w : World) : (FmtCalls.act name true 119 false (.iface 39 x)).run Ybaf.prog w = .ok (.call true) w := by kernel_rfl
theorem isError39 (w : World) : (FmtDoors.textMethod 39 "Error").run Ybaf.prog w = .ok true w := by kernel_rfl
theorem invokeError39 (x : Value) (w : World) : (invoke (.fn (.method "Error") #[]) #[.iface 39 x]).run Ybaf.prog w = .ok (.enter 29 #[x]) w := by kernel_rfl
theorem str39 (w : World) : (typeStr 39).run Ybaf.prog w = .ok "hex.InvalidByteError" w := by kernel_rfl
theorem act43_119w (name : String) (x : Value) (w : World) : (FmtCalls.act name true 119 false (.iface 43 x)).run Ybaf.prog w = .ok (.closed true) w := by kernel_rfl
theorem isError43 (w : World) : (FmtDoors.textMethod 43 "Error").run Ybaf.prog w = .ok true w := by kernel_rfl
def shape21 : List UInt8 := [4, 5, 0, 0, 0, 0, 0, 0, 0, 105, 110, 116, 51, 50]
theorem act21_85s (name : String) (x : Value) (w : World) : (FmtCalls.act name false 85 true (.iface 21 x)).run Ybaf.prog w = .ok (.closed false) w := by kernel_rfl
theorem op21_85s (name : String) (x : Int) (w : World) : (FmtStop.operand name false 85 true (.iface 21 (.int .i32 x))).run Ybaf.prog w = .ok (shape21, Go.Extern.Stop.digits 8 (x % 2 ^ 64).toNat) w := by kernel_rfl
theorem ptr42 (w : World) : (FmtStop.ptrTo "fmt.wrapError").run Ybaf.prog w = .ok 42 w := by kernel_rfl
theorem elem42 (w : World) : (elemOf 42).run Ybaf.prog w = .ok 65 w := by kernel_rfl
theorem isError42 (w : World) : (FmtDoors.textMethod 42 "Error").run Ybaf.prog w = .ok true w := by kernel_rfl
theorem opPlain43_119w (name : String) (a : Addr) (s : ByteArray) (w : World) (hc : w.cell? a = some (.string s)) :
    ∃ sh, (FmtStop.operand name true 119 false (.iface 43 (.pointer (some a)))).run Ybaf.prog w = .ok (sh, s.data.toList) w := by
  have h1 : (typeStr 43).run Ybaf.prog w = .ok Ybaf.t43.str w := by kernel_rfl
  have d2 : Ybaf.t43.desc = .pointer 45 := rfl
  have d3 : Ybaf.t45.desc = .named "errors.errorString" 44 := rfl
  exact ⟨_, by simp [FmtStop.operand, h1, d2, d3, run_load, hc]; rfl⟩

attribute [local go_sem] call12 call30 guard fmt0 fmt0r fmt4 fmt4r act39_119w isError39 str39 act43_119w isError43 act21_85s op21_85s ptr42 elem42 isError42

set_option maxHeartbeats 800000 in
theorem error29 (F : Interp) (c : Int) (w : World) (hF : F.answers w.tape) (h0 : 0 ≤ c) (h1 : c ≤ 255) :
    Calls Ybaf.prog 29 #[.int .u8 c] w fun e w' => ∃ s, e = .returned (.string s) ∧ w' = (w.alloc (.cells #[.iface 21 (.int .i32 c)] 20)).drew := by
  have hF' := answers_open hF
  go_enter Ybaf.func29, Ybaf.ntmps29
  go_wp2
  go_ret
  exact ⟨_, rfl, rfl⟩

set_option maxHeartbeats 1600000 in
theorem errorf_byte (F : Interp) (c : Int) (vb : Nat) (w : World) (hF : F.answers w.tape) (h0 : 0 ≤ c) (h1 : c ≤ 255) (hv : w.cell? ⟨vb, 0, none⟩ = some (.iface 39 (.int .u8 c))) :
    Calls Ybaf.prog 11 #[.string ⟨#[34, 112, 97, 121, 108, 111, 97, 100, 34, 32, 105, 115, 32, 110, 111, 116, 32, 104, 101, 120, 58, 32, 37, 119]⟩, .slice (some ⟨vb, 0, none⟩) 1 1] w fun e w' => ∃ T v, e = .returned (.iface T v) ∧ Below w.heap.size w w' := by
  have hF' := answers_open hF
  go_enter Ybaf.func11, Ybaf.ntmps11
  go_wp2
  apply rows_call nextTurns
  case hr =>
    go_simp
    exact ⟨⟨rfl, rfl, rfl⟩, rfl⟩
  case hi => exact invokeError39 _ _
  case hc =>
    refine (error29 F c _ (by exact hF) h0 h1).mono fun e w₃ ⟨s, he, hx⟩ => ?_
    subst he; subst hx
    have hlt : vb < w.heap.size := World.block_lt_of_cell? w ⟨vb, 0, none⟩ hv
    apply rows_value nextReturned
    case hr =>
      go_simp
      exact ⟨rfl, rfl⟩
    case h =>
      go_wp2
      go_ret
      exact ⟨⟨_, _, rfl⟩, ((((Below.refl _ w).alloc (Nat.le_refl _) _).alloc (by simp) _).drew).drew⟩

set_option maxHeartbeats 1600000 in
theorem errorf_len (F : Interp) (vb : Nat) (a : Addr) (s : ByteArray) (w : World) (hF : F.answers w.tape) (hv : w.cell? ⟨vb, 0, none⟩ = some (.iface 43 (.pointer (some a)))) (hs : w.cell? a = some (.string s)) :
    Calls Ybaf.prog 11 #[.string ⟨#[34, 112, 97, 121, 108, 111, 97, 100, 34, 32, 105, 115, 32, 110, 111, 116, 32, 104, 101, 120, 58, 32, 37, 119]⟩, .slice (some ⟨vb, 0, none⟩) 1 1] w fun e w' => ∃ T v, e = .returned (.iface T v) ∧ Below w.heap.size w w' := by
  have hF' := answers_open hF
  obtain ⟨sh, hop⟩ := opPlain43_119w "fmt.errorf" a s w hs
  go_enter Ybaf.func11, Ybaf.ntmps11
  go_wp2
  apply rows_value nextTurns
  case hr =>
    go_simp
    exact ⟨rfl, rfl⟩
  case h =>
    go_wp2
    go_ret
    exact ⟨_, _, rfl, ((Below.refl _ w).alloc (Nat.le_refl _) _).drew⟩

end Go.Proofs.YbulkayroFmt
