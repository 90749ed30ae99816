/-
  fmt.Sprintf's stop at this dump, and (*parser).expectSymbol.
-/
import Derived.Test.YbulkbukyFmtFail
import Derived.Stop.CallBack
import Derived.Stop.IfaceNil
import Derived.Stop.FmtLaws
import GoSem.ClaimData
namespace Go.Proofs.YbulkbukyFmt
open Go.RowKit Go.Extern.Stop Go.Stop Go.Extern

theorem call19 (args : Array Value) (w : World) : (callFunc 19 args).run Ybaf.prog w = ((FmtStop.sprintf #[9, 139] #[9] args).run Ybaf.prog w).andThen fun v w' => .ok (.value v) w' :=
  run_callFunc_extern Ybaf.func19 (by kernel_rfl) (by kernel_rfl) (by kernel_rfl) (by kernel_rfl) args w
theorem guard (name : String) (w : World) : (FmtStop.guard name).run Ybaf.prog w = .ok () w := by kernel_rfl
theorem fmt0 : FmtStop.printed? ⟨#[101, 120, 112, 101, 99, 116, 101, 100, 32, 37, 113]⟩ 1 = some [(0, 113, false)] := by kernel_rfl
theorem fmt0r (w : World) : (FmtDoors.printed ⟨#[101, 120, 112, 101, 99, 116, 101, 100, 32, 37, 113]⟩ 1).run Ybaf.prog w = .ok [(0, 113, false)] w := by kernel_rfl
def shape9 : List UInt8 := [12, 6, 0, 0, 0, 0, 0, 0, 0, 115, 116, 114, 105, 110, 103]
theorem op9_113 (name : String) (x : ByteArray) (w : World) : (FmtStop.operand name false 113 false (.iface 9 (.string x))).run Ybaf.prog w = .ok (shape9, FmtStop.pack x.data.toList) w := by kernel_rfl

attribute [local go_sem] call19 guard fmt0 fmt0r op9_113

set_option maxHeartbeats 1000000 in
theorem expect_yes (B T n c : Nat) (src : ByteArray) (i : Nat) (tx : ByteArray) (tp : Nat) (w : World) (hP : Ps B T n c src i w) (hT : Tok T i 5 tx tp w) (hi : i < n) (hn : n ≤ 8) :
    Calls Ybaf.prog 13 #[.pointer (some ⟨B, 0, none⟩), .string tx] w fun e w' => e = .returned .nilIface ∧ Ps B T n c src (i + 1) w' ∧ Kp B w w' := by
  have HC := hid (accept_yes B T n c src i tx tp w hP hT hi hn)
  clear hP hT
  go_enter Ybaf.func13, Ybaf.ntmps13
  go_wp2_with (go_at_call 15; refine HC.out.mono ?_)
  rintro e W1 ⟨rfl, h1, h2⟩
  have H1 := hid h1
  have H2 := hid h2
  clear h1 h2
  go_wp2
  go_ret
  exact ⟨rfl, H1.out, H2.out⟩

set_option maxHeartbeats 1000000 in
set_option maxRecDepth 100000 in
theorem expect_no (F : Interp) (B T n c : Nat) (src : ByteArray) (i : Nat) (kd : Int) (tx : ByteArray) (tp : Nat) (w : World) (hF : F.answers w.tape) (hP : Ps B T n c src i w) (hT : Tok T i kd tx tp w) (hi : i < n) (hn : n ≤ 8)
    (hno : (kd == 5 && (tx.toList == (⟨#[41]⟩ : ByteArray).toList)) = false) (ho : tp ≤ src.size) (hm : src.size ≤ 4096) (ha : ∀ c ∈ src.data.toList, c.toNat < 128) :
    Calls Ybaf.prog 13 #[.pointer (some ⟨B, 0, none⟩), .string ⟨#[41]⟩] w fun e w' => ∃ msg, Failed tp (nearB src tp) msg w e w' := by
  have HC := hid (accept_no B T n c src i kd tx ⟨#[41]⟩ tp w hP hT hi hn hno)
  have HX := hid (fun (msg : ByteArray) (W : World) (hb : Below w.heap.size w W) => fail_any B T n c src msg i kd tx tp W (hP.below hb) (hT.below hb) hi hn ho hm ha)
  clear hP hT ha hno
  go_enter Ybaf.func13, Ybaf.ntmps13
  go_wp2_with (go_at_call 15; refine HC.out.mono ?_)
  rintro e W1 ⟨rfl, hb1⟩
  have hF1 : F.answers W1.tape := by rw [hb1.tape]; exact hF
  have hF' := answers_open hF1
  have Hb := hid hb1
  clear hb1 hF hF1
  go_wp2_with (go_at_call 18; refine (HX.out _ _ ?_).mono ?_)
  · exact (Hb.out.alloc Hb.out.size _).drew
  rintro e W2 ⟨N, hN, rfl, hE, hb2⟩
  have HE := hid hE
  have Hb2 := hid hb2
  clear hE hb2
  go_wp2
  go_ret
  have hs : w.heap.size ≤ (W1.alloc (.cells #[.iface 9 (.string ⟨#[41]⟩)] 20)).drew.heap.size := ((Hb.out.alloc Hb.out.size _).drew).size
  exact ⟨_, N, Nat.le_trans hs hN, rfl, HE.out, ((Hb.out.alloc Hb.out.size _).drew).trans (Hb2.out.mono hs)⟩
end Go.Proofs.YbulkbukyFmt
