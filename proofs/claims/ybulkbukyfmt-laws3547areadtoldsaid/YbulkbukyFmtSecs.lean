/-
  (*parser).unsigned, seconds and sleep.
-/
import Derived.Test.YbulkbukyFmtExpect
import Derived.Test.YbulkbukyFmtUint
namespace Go.Proofs.YbulkbukyFmt
open Go.RowKit

theorem Errs.below {w w' : World} (h : Errs w) (hb : Below w.heap.size w w') : Errs w' := by
  obtain ⟨⟨a, b, h1⟩, c, d, h2⟩ := h
  exact ⟨⟨a, b, (hb.cell (p := ⟨0, 0, none⟩) (lt_of_cell h1)).trans h1⟩, c, d, (hb.cell (p := ⟨1, 0, none⟩) (lt_of_cell h2)).trans h2⟩
theorem Errs.kp {w w' : World} {B : Nat} (h : Errs w) (hb : Kp B w w') (hB : 2 ≤ B) : Errs w' := by
  obtain ⟨⟨a, b, h1⟩, c, d, h2⟩ := h
  exact ⟨⟨a, b, (hb.cell (p := ⟨0, 0, none⟩) (lt_of_cell h1) (by show 0 ≠ B; omega)).trans h1⟩, c, d, (hb.cell (p := ⟨1, 0, none⟩) (lt_of_cell h2) (by show 1 ≠ B; omega)).trans h2⟩

/-- A value and a SyntaxError. -/
def FailedT (z : Value) (off : Nat) (near msg : ByteArray) (w : World) (e : Ending) (w' : World) : Prop :=
  ∃ N, w.heap.size ≤ N ∧ e = .returned (.tuple #[z, .iface 49 (.pointer (some ⟨N, 0, none⟩))]) ∧ Err N off near msg w' ∧ Below w.heap.size w w'

set_option maxHeartbeats 1000000 in
set_option maxRecDepth 100000 in
theorem unsigned_kind (B T n c : Nat) (src m1 m2 : ByteArray) (i : Nat) (kd : Int) (tx : ByteArray) (tp : Nat) (w : World) (hP : Ps B T n c src i w) (hT : Tok T i kd tx tp w) (hi : i < n) (hn : n ≤ 8)
    (hk : kd ≠ 3) (ho : tp ≤ src.size) (hm : src.size ≤ 4096) (ha : ∀ c ∈ src.data.toList, c.toNat < 128) :
    Calls Ybaf.prog 16 #[.pointer (some ⟨B, 0, none⟩), .int .i64 63, .string m1, .string m2] w fun e w' => FailedT (.int .u64 0) tp (nearB src tp) m1 w e w' := by
  have HC := hid (peek_any B T n c src i kd tx tp w hP hT hi hn)
  have HX := hid (fun (msg : ByteArray) (W : World) (hb : Below w.heap.size w W) => fail_any B T n c src msg i kd tx tp W (hP.below hb) (hT.below hb) hi hn ho hm ha)
  have hkb : (kd == 3) = false := by simpa using hk
  clear hP hT ha hk
  go_enter Ybaf.func16, Ybaf.ntmps16
  go_wp2_with (go_at_call 21; refine HC.out.mono ?_)
  rintro e W1 ⟨rfl, hb1⟩
  have Hb := hid hb1
  clear hb1
  go_wp2_with (go_at_call 18; refine (HX.out _ _ ?_).mono ?_)
  · exact Hb.out.alloc Hb.out.size _
  rintro e W2 ⟨N, hN, rfl, hE, hb2⟩
  have HE := hid hE
  have Hb2 := hid hb2
  clear hE hb2
  go_wp2
  go_ret2
  exact ⟨N, Nat.le_trans (Hb.out.alloc Hb.out.size _).size hN, rfl, HE.out, (Hb.out.alloc Hb.out.size _).trans (Hb2.out.mono (Hb.out.alloc Hb.out.size _).size)⟩

set_option maxHeartbeats 1000000 in
set_option maxRecDepth 100000 in
theorem unsigned_bad (B T n c : Nat) (src m1 m2 : ByteArray) (i : Nat) (tx : ByteArray) (tp : Nat) (w : World) (hP : Ps B T n c src i w) (hT : Tok T i 3 tx tp w) (hi : i < n) (hn : n ≤ 8)
    (hx : tx.size ≤ 4096) (hbad : ∀ u, Lib.parseUintB 63 tx.data.toList ≠ .ok u) (hE : Errs w) (ho : tp ≤ src.size) (hm : src.size ≤ 4096) (ha : ∀ c ∈ src.data.toList, c.toNat < 128) :
    Calls Ybaf.prog 16 #[.pointer (some ⟨B, 0, none⟩), .int .i64 63, .string m1, .string m2] w fun e w' => FailedT (.int .u64 0) tp (nearB src tp) m2 w e w' := by
  have HC := hid (peek_any B T n c src i 3 tx tp w hP hT hi hn)
  have HX := hid (fun (msg : ByteArray) (W : World) (hb : Below w.heap.size w W) => fail_any B T n c src msg i 3 tx tp W (hP.below hb) (hT.below hb) hi hn ho hm ha)
  have HU := hid (fun (W : World) (hb : Below w.heap.size w W) => parse_err tx hx hbad W (hE.below hb))
  clear hP hT ha hbad hE
  go_enter Ybaf.func16, Ybaf.ntmps16
  go_wp2_with (go_at_call 21; refine HC.out.mono ?_)
  rintro e W1 ⟨rfl, hb1⟩
  have Hb := hid hb1
  clear hb1
  go_wp2_with (go_at_call 22; refine (HU.out _ ?_).mono ?_)
  · exact Hb.out.alloc Hb.out.size _
  rintro e W2 ⟨v, M, rfl, hb2⟩
  have Hb2 := hid ((Hb.out.alloc Hb.out.size _).trans (hb2.mono (Hb.out.alloc Hb.out.size _).size))
  clear hb2
  go_wp2_with (go_at_call 18; refine (HX.out _ _ ?_).mono ?_)
  · exact Hb2.out
  rintro e W3 ⟨N, hN, rfl, hE, hb3⟩
  have HE := hid hE
  have Hb3 := hid hb3
  clear hE hb3
  go_wp2
  go_ret2
  exact ⟨N, Nat.le_trans Hb2.out.size hN, rfl, HE.out, Hb2.out.trans (Hb3.out.mono Hb2.out.size)⟩

set_option maxHeartbeats 1000000 in
set_option maxRecDepth 100000 in
theorem unsigned_ok (B T n c : Nat) (src m1 m2 : ByteArray) (i : Nat) (tx : ByteArray) (tp u : Nat) (w : World) (hP : Ps B T n c src i w) (hT : Tok T i 3 tx tp w) (hi : i < n) (hn : n ≤ 8)
    (hx : tx.size ≤ 4096) (hok : Lib.parseUintB 63 tx.data.toList = .ok u) :
    Calls Ybaf.prog 16 #[.pointer (some ⟨B, 0, none⟩), .int .i64 63, .string m1, .string m2] w fun e w' => e = .returned (.tuple #[.int .u64 u, .nilIface]) ∧ Ps B T n c src (i + 1) w' ∧ Kp B w w' := by
  have HC := hid (peek_any B T n c src i 3 tx tp w hP hT hi hn)
  have HX := hid (fun (W : World) (hb : Below w.heap.size w W) => next_any B T n c src i 3 tx tp W (hP.below hb) (hT.below hb) hi hn (by decide))
  have HU := hid (fun (W : World) => parse_ok tx hx u hok W)
  clear hP hT hok
  go_enter Ybaf.func16, Ybaf.ntmps16
  go_wp2_with (go_at_call 21; refine HC.out.mono ?_)
  rintro e W1 ⟨rfl, hb1⟩
  have Hb := hid hb1
  clear hb1
  go_wp2_with (go_at_call 22; refine (HU.out _).mono ?_)
  rintro e W2 ⟨rfl, hb2⟩
  have Hb2 := hid ((Hb.out.alloc Hb.out.size _).trans (hb2.mono (Hb.out.alloc Hb.out.size _).size))
  clear hb2
  go_wp2_with (go_at_call 11; refine (HX.out _ ?_).mono ?_)
  · exact Hb2.out
  rintro e W3 ⟨rfl, h3, h4⟩
  have H3 := hid h3
  have H4 := hid h4
  clear h3 h4
  go_wp2
  go_ret2
  exact ⟨rfl, H3.out, (Kp.of_below Hb2.out).trans H4.out⟩

/-- The two messages of (*parser).seconds. -/
def msgKind : ByteArray := ⟨#[101, 120, 112, 101, 99, 116, 101, 100, 32, 97, 32, 119, 104, 111, 108, 101, 32, 110, 117, 109, 98, 101, 114, 32, 111, 102, 32, 115, 101, 99, 111, 110, 100, 115]⟩
def msgBig : ByteArray := ⟨#[97, 32, 110, 117, 109, 98, 101, 114, 32, 111, 102, 32, 115, 101, 99, 111, 110, 100, 115, 32, 98, 101, 121, 111, 110, 100, 32, 54, 52, 32, 98, 105, 116, 115, 32, 105, 115, 32, 110, 111, 116, 32, 115, 117, 112, 112, 111, 114, 116, 101, 100]⟩
theorem msgKind_eq : (⟨#[101, 120, 112, 101, 99, 116, 101, 100, 32, 97, 32, 119, 104, 111, 108, 101, 32, 110, 117, 109, 98, 101, 114, 32, 111, 102, 32, 115, 101, 99, 111, 110, 100, 115]⟩ : ByteArray) = msgKind := rfl
theorem msgBig_eq : (⟨#[97, 32, 110, 117, 109, 98, 101, 114, 32, 111, 102, 32, 115, 101, 99, 111, 110, 100, 115, 32, 98, 101, 121, 111, 110, 100, 32, 54, 52, 32, 98, 105, 116, 115, 32, 105, 115, 32, 110, 111, 116, 32, 115, 117, 112, 112, 111, 114, 116, 101, 100]⟩ : ByteArray) = msgBig := rfl

set_option maxHeartbeats 1000000 in
set_option maxRecDepth 100000 in
theorem seconds_fail (B : Nat) (off : Nat) (near msg : ByteArray) (w : World)
    (hU : Calls Ybaf.prog 16 #[.pointer (some ⟨B, 0, none⟩), .int .i64 63, .string msgKind, .string msgBig] w fun e w' => FailedT (.int .u64 0) off near msg w e w') :
    Calls Ybaf.prog 12 #[.pointer (some ⟨B, 0, none⟩)] w fun e w' => FailedT (.int .i64 0) off near msg w e w' := by
  have HU := hid hU
  clear hU
  go_enter Ybaf.func12, Ybaf.ntmps12
  go_wp2_with (go_at_call 16; refine HU.out.mono ?_)
  rintro e W1 ⟨N, hN, rfl, hE, hb⟩
  have HE := hid hE
  have Hb := hid hb
  clear hE hb
  go_wp2
  go_ret2
  exact ⟨N, hN, rfl, HE.out, Hb.out⟩

set_option maxHeartbeats 1000000 in
set_option maxRecDepth 100000 in
theorem seconds_ok (B : Nat) (u : Nat) (hu : u ≤ 9223372036854775807) (w : World) (R : World → Prop)
    (hU : Calls Ybaf.prog 16 #[.pointer (some ⟨B, 0, none⟩), .int .i64 63, .string msgKind, .string msgBig] w fun e w' => e = .returned (.tuple #[.int .u64 u, .nilIface]) ∧ R w') :
    Calls Ybaf.prog 12 #[.pointer (some ⟨B, 0, none⟩)] w fun e w' => e = .returned (.tuple #[.int .i64 u, .nilIface]) ∧ R w' := by
  have HU := hid hU
  have hw : IntKind.i64.wrap (u : Int) = u := by
    rw [IntKind.wrap_i64]
    omega
  clear hU hu
  go_enter Ybaf.func12, Ybaf.ntmps12
  go_wp2_with (go_at_call 16; refine HU.out.mono ?_)
  rintro e W1 ⟨rfl, hR⟩
  have HR := hid hR
  clear hR
  go_wp2
  go_ret2
  exact ⟨rfl, HR.out⟩
end Go.Proofs.YbulkbukyFmt
