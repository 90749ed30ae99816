/-
  The closed facts on fmt's stop at this dump, and the two calls of fmt.Errorf.
-/
import Derived.Test.YbulkbujwFmtMar
import Derived.Stop.CallBack
import Derived.Stop.IfaceNil
import Derived.Stop.FmtLaws
import GoSem.ClaimData
namespace Go.Proofs.YbulkbujwFmt
open Go.RowKit Go.Extern.Stop Go.Stop Go.Extern

theorem call41 (args : Array Value) (w : World) : (callFunc 41 args).run Ybaf.prog w = (FmtCalls.errorf #[9, 90] #[28] args).run Ybaf.prog w :=
  run_callFunc_next Ybaf.func41 (by kernel_rfl) (by kernel_rfl) (by kernel_rfl) args w
theorem guard (name : String) (w : World) : (FmtStop.guard name).run Ybaf.prog w = .ok () w := by kernel_rfl
theorem nextTurns : Extern.next FmtCalls.turnsRow = some (FmtCalls.begun #[] #[]) := by kernel_rfl
theorem nextReturned : Extern.next FmtCalls.returnedRow = some (FmtCalls.returned #[] #[]) := by kernel_rfl
/- the format of (*Builder).addVector, the format of encode -/
theorem fmt0 : FmtStop.printed? ⟨#[119, 105, 114, 101, 58, 32, 37, 100, 32, 98, 121, 116, 101, 115, 32, 100, 111, 32, 110, 111, 116, 32, 102, 105, 116, 32, 97, 32, 37, 100, 45, 98, 121, 116, 101, 32, 108, 101, 110, 103, 116, 104, 32, 112, 114, 101, 102, 105, 120]⟩ 2 = some [(0, 100, false), (1, 100, false)] := by kernel_rfl
theorem fmt0r (w : World) : (FmtDoors.printed ⟨#[119, 105, 114, 101, 58, 32, 37, 100, 32, 98, 121, 116, 101, 115, 32, 100, 111, 32, 110, 111, 116, 32, 102, 105, 116, 32, 97, 32, 37, 100, 45, 98, 121, 116, 101, 32, 108, 101, 110, 103, 116, 104, 32, 112, 114, 101, 102, 105, 120]⟩ 2).run Ybaf.prog w = .ok [(0, 100, false), (1, 100, false)] w := by kernel_rfl
theorem fmt1 : FmtStop.printed? ⟨#[101, 110, 99, 111, 100, 105, 110, 103, 32, 37, 118, 58, 32, 37, 119]⟩ 2 = some [(0, 118, false), (1, 119, false)] := by kernel_rfl
theorem fmt1r (w : World) : (FmtDoors.printed ⟨#[101, 110, 99, 111, 100, 105, 110, 103, 32, 37, 118, 58, 32, 37, 119]⟩ 2).run Ybaf.prog w = .ok [(0, 118, false), (1, 119, false)] w := by kernel_rfl
def shape3 : List UInt8 := [5, 3, 0, 0, 0, 0, 0, 0, 0, 105, 110, 116]
theorem act3_100w (name : String) (x : Value) (w : World) : (FmtCalls.act name true 100 false (.iface 3 x)).run Ybaf.prog w = .ok (.closed true) w := by kernel_rfl
theorem op3_100w (name : String) (x : Int) (w : World) : (FmtStop.operand name true 100 false (.iface 3 (.int .i64 x))).run Ybaf.prog w = .ok (shape3, Go.Extern.Stop.digits 8 (x % 2 ^ 64).toNat) w := by kernel_rfl
theorem act60_118w (name : String) (x : Value) (w : World) : (FmtCalls.act name true 118 false (.iface 60 x)).run Ybaf.prog w = .ok (.call false) w := by kernel_rfl
theorem isString60 (w : World) : (FmtDoors.textMethod 60 "String").run Ybaf.prog w = .ok true w := by kernel_rfl
theorem invokeString60 (x : Value) (w : World) : (invoke (.fn (.method "String") #[]) #[.iface 60 x]).run Ybaf.prog w = .ok (.enter 65 #[x]) w := by kernel_rfl
theorem ptr99 (w : World) : (FmtStop.ptrTo "errors.errorString").run Ybaf.prog w = .ok 99 w := by kernel_rfl
theorem elem99 (w : World) : (elemOf 99).run Ybaf.prog w = .ok 101 w := by kernel_rfl
theorem ptr98 (w : World) : (FmtStop.ptrTo "fmt.wrapError").run Ybaf.prog w = .ok 98 w := by kernel_rfl
theorem elem98 (w : World) : (elemOf 98).run Ybaf.prog w = .ok 130 w := by kernel_rfl
theorem isError99 (w : World) : (FmtDoors.textMethod 99 "Error").run Ybaf.prog w = .ok true w := by kernel_rfl
theorem act99_119w (name : String) (x : Value) (w : World) : (FmtCalls.act name true 119 false (.iface 99 x)).run Ybaf.prog w = .ok (.closed true) w := by kernel_rfl
theorem str99 : ∃ n : String, ∀ w : World, (typeStr 99).run Ybaf.prog w = .ok n w := ⟨(Ybaf.prog.typeName? 3 99).getD "", fun w => by kernel_rfl⟩
theorem str60 (w : World) : (typeStr 60).run Ybaf.prog w = .ok "handshake.MessageType" w := by kernel_rfl
/-- An error of errors.New's make as an operand under the verb w: it reads as its type's name and its text, out of memory. -/
theorem op99_119w : ∃ r : List UInt8, ∀ (name : String) (a : Addr) (s : ByteArray) (w : World), w.cell? a = some (.string s) →
    (FmtStop.operand name true 119 false (.iface 99 (.pointer (some a)))).run Ybaf.prog w = .ok (r, s.data.toList) w := by
  obtain ⟨n, h1⟩ := str99
  refine ⟨14 :: FmtStop.pack n.toUTF8.data.toList, fun name a s w hc => ?_⟩
  have d2 : Ybaf.t99.desc = .pointer 101 := rfl
  have d3 : Ybaf.t101.desc = .named "errors.errorString" 100 := rfl
  simp [FmtStop.operand, h1, d2, d3, run_load, hc]

attribute [local go_sem] call41 guard fmt0 fmt0r fmt1 fmt1r act3_100w op3_100w act60_118w isString60 ptr99 elem99 ptr98 elem98 isError99 act99_119w

/-- A new error of errors.New's make. -/
structure NewErr (v : Value) (w w' : World) : Prop where
  err : ∃ E s, v = .iface 99 (.pointer (some ⟨E, 0, none⟩)) ∧ w.heap.size ≤ E ∧ w'.cell? ⟨E, 0, none⟩ = some (.string s)
  below : Below w.heap.size w w'

theorem new_err (w : World) (s : ByteArray) : NewErr (.iface 99 (.pointer (some ⟨w.heap.size, 0, none⟩))) w (w.alloc (.cells #[.string s] 101)).drew :=
  ⟨⟨w.heap.size, s, rfl, Nat.le_refl _, by simp⟩, ((Below.refl _ _).alloc (Nat.le_refl _) _).drew⟩

set_option maxHeartbeats 1000000 in
set_option maxRecDepth 100000 in
theorem errorf_wire (F : Interp) (B : Nat) (n k : Int) (w : World) (hF : F.answers w.tape) (h0 : w.cell? ⟨B, 0, none⟩ = some (.iface 3 (.int .i64 n))) (h1 : w.cell? ⟨B, 1, none⟩ = some (.iface 3 (.int .i64 k))) :
    Calls Ybaf.prog 37 #[.string ⟨#[119, 105, 114, 101, 58, 32, 37, 100, 32, 98, 121, 116, 101, 115, 32, 100, 111, 32, 110, 111, 116, 32, 102, 105, 116, 32, 97, 32, 37, 100, 45, 98, 121, 116, 101, 32, 108, 101, 110, 103, 116, 104, 32, 112, 114, 101, 102, 105, 120]⟩, .slice (some ⟨B, 0, none⟩) 2 2] w fun e w' => ∃ v, e = .returned v ∧ NewErr v w w' := by
  have hF' := answers_open hF
  go_enter Ybaf.func37, Ybaf.ntmps37
  go_wp2
  apply rows_value nextTurns
  case hr =>
    go_simp
    exact ⟨rfl, rfl⟩
  case h =>
    go_wp2
    go_ret
    exact ⟨_, rfl, new_err _ _⟩

/-- An error that wraps another. -/
def WrapErr (e : Ending) (w w' : World) : Prop := ∃ x, e = .returned (.iface 98 x) ∧ Below w.heap.size w w'

set_option maxHeartbeats 1000000 in
/-- (MessageType).String of a CertificateVerify. -/
theorem string65 (w : World) : Calls Ybaf.prog 65 #[.int .u8 15] w fun e w' => e = .returned (.string ⟨#[99, 101, 114, 116, 105, 102, 105, 99, 97, 116, 101, 95, 118, 101, 114, 105, 102, 121]⟩) ∧ w' = w := by
  go_enter Ybaf.func65, Ybaf.ntmps65
  go_wp2
  go_ret
  exact ⟨rfl, rfl⟩

set_option maxHeartbeats 1000000 in
set_option maxRecDepth 100000 in
theorem errorf_enc (F : Interp) (B E : Nat) (s : ByteArray) (w : World) (hF : F.answers w.tape) (h0 : w.cell? ⟨B, 0, none⟩ = some (.iface 60 (.int .u8 15))) (h1 : w.cell? ⟨B, 1, none⟩ = some (.iface 99 (.pointer (some ⟨E, 0, none⟩)))) (h2 : w.cell? ⟨E, 0, none⟩ = some (.string s)) :
    Calls Ybaf.prog 37 #[.string ⟨#[101, 110, 99, 111, 100, 105, 110, 103, 32, 37, 118, 58, 32, 37, 119]⟩, .slice (some ⟨B, 0, none⟩) 2 2] w fun e w' => WrapErr e w w' := by
  have hF' := answers_open hF
  obtain ⟨r, hop⟩ := op99_119w
  have hop' := fun name => hop name ⟨E, 0, none⟩ s w h2
  have h60 := str60
  clear hop
  go_enter Ybaf.func37, Ybaf.ntmps37
  go_wp2
  apply rows_call nextTurns
  case hr =>
    go_simp
    exact ⟨⟨rfl, rfl, rfl⟩, rfl⟩
  case hi => exact invokeString60 _ _
  case hc =>
    refine (string65 _).mono fun e w₃ ⟨he, hx⟩ => ?_
    subst he; subst hx
    apply rows_value nextReturned
    case hr =>
      go_simp
      exact ⟨rfl, rfl⟩
    case h =>
      go_wp2
      go_ret
      exact ⟨_, rfl, ((Below.refl _ _).alloc (Nat.le_refl _) _).drew⟩
end Go.Proofs.YbulkbujwFmt
