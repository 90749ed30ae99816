/-
  (*parser).sleep.
-/
import Derived.Test.YbulkbukyFmtSecs
namespace Go.Proofs.YbulkbukyFmt
open Go.RowKit

/-- What stands ahead of p.sleep(): the parser at place 1, its first three tokens. -/
structure Ready (B T n c : Nat) (src : ByteArray) (w : World) : Prop where
  ps : Ps B T n c src 1 w
  t1 : Tok T 1 1 ⟨#[83, 76, 69, 69, 80]⟩ 7 w
  t2 : Tok T 2 5 ⟨#[40]⟩ 12 w
  n4 : 4 ≤ n
  n8 : n ≤ 8
  ne : T ≠ B

/-- Behind p.sleep(): no statement and an error; the place is 3. -/
def SleepErr (B T n c : Nat) (src : ByteArray) (off : Nat) (msg : ByteArray) (w : World) (e : Ending) (w' : World) : Prop :=
  ∃ N, e = .returned (.tuple #[.nilIface, .iface 49 (.pointer (some ⟨N, 0, none⟩))]) ∧ Err N off (nearB src off) msg w' ∧ Ps B T n c src 3 w' ∧ Kp B w w'

set_option maxHeartbeats 1000000 in
set_option maxRecDepth 100000 in
theorem sleep_err (B T n c : Nat) (src : ByteArray) (off : Nat) (msg : ByteArray) (w : World) (hR : Ready B T n c src w)
    (hS : ∀ W, Ps B T n c src 3 W → Kp B w W → Calls Ybaf.prog 12 #[.pointer (some ⟨B, 0, none⟩)] W fun e w' => FailedT (.int .i64 0) off (nearB src off) msg W e w') :
    Calls Ybaf.prog 5 #[.pointer (some ⟨B, 0, none⟩)] w fun e w' => SleepErr B T n c src off msg w e w' := by
  have H1 := hid (next_any B T n c src 1 1 _ 7 w hR.ps hR.t1 (by have := hR.n4; omega) hR.n8 (by decide))
  have H2 := hid (fun (W : World) (hp : Ps B T n c src 2 W) (hk : Kp B w W) => next_any B T n c src 2 5 _ 12 W hp (hk.tok hR.t2 hR.ne) (by have := hR.n4; omega) hR.n8 (by decide))
  have HS := hid hS
  clear hR hS
  go_enter Ybaf.func5, Ybaf.ntmps5
  go_wp2_with (go_at_call 11; refine H1.out.mono ?_)
  rintro e W1 ⟨rfl, hp1, hk1⟩
  have HP1 := hid hp1
  have HK1 := hid hk1
  clear hp1 hk1
  go_wp2_with (go_at_call 11; refine (H2.out _ HP1.out HK1.out).mono ?_)
  rintro e W2 ⟨rfl, hp2, hk2⟩
  have HP2 := hid hp2
  have HK2 := hid (HK1.out.trans hk2)
  clear hp2 hk2
  go_wp2_with (go_at_call 12; refine (HS.out _ HP2.out HK2.out).mono ?_)
  rintro e W3 ⟨N, hN, rfl, hE, hb⟩
  have HE := hid hE
  have Hb := hid hb
  clear hE hb
  go_wp2
  go_ret2
  exact ⟨N, rfl, HE.out, HP2.out.below Hb.out, HK2.out.trans (Kp.of_below Hb.out)⟩

/-- Behind p.sleep(): a *Sleep of u seconds and no error; the place is 5. -/
def SleepOk (B T n c : Nat) (src : ByteArray) (u : Nat) (w : World) (e : Ending) (w' : World) : Prop :=
  ∃ S, e = .returned (.tuple #[.iface 39 (.pointer (some ⟨S, 0, none⟩)), .nilIface]) ∧ w'.cell? ⟨S, 0, none⟩ = some (.int .i64 u) ∧ Ps B T n c src 5 w' ∧ Kp B w w'

/-- Behind p.sleep(): a *Sleep of u seconds and an error at the token behind the number; the place is 4. -/
def SleepBut (B T n c : Nat) (src : ByteArray) (u off : Nat) (w : World) (e : Ending) (w' : World) : Prop :=
  ∃ S N msg, e = .returned (.tuple #[.iface 39 (.pointer (some ⟨S, 0, none⟩)), .iface 49 (.pointer (some ⟨N, 0, none⟩))]) ∧ w'.cell? ⟨S, 0, none⟩ = some (.int .i64 u) ∧ Err N off (nearB src off) msg w' ∧ Ps B T n c src 4 w' ∧ Kp B w w'

set_option maxHeartbeats 1000000 in
set_option maxRecDepth 100000 in
theorem sleep_ok (B T n c : Nat) (src : ByteArray) (u : Nat) (w : World) (hR : Ready B T n c src w)
    (hS : ∀ W, Ps B T n c src 3 W → Kp B w W → Calls Ybaf.prog 12 #[.pointer (some ⟨B, 0, none⟩)] W fun e w' => e = .returned (.tuple #[.int .i64 u, .nilIface]) ∧ Ps B T n c src 4 w' ∧ Kp B W w')
    (hX : ∀ W, Ps B T n c src 4 W → Kp B w W → Calls Ybaf.prog 13 #[.pointer (some ⟨B, 0, none⟩), .string ⟨#[41]⟩] W fun e w' => e = .returned .nilIface ∧ Ps B T n c src 5 w' ∧ Kp B W w') :
    Calls Ybaf.prog 5 #[.pointer (some ⟨B, 0, none⟩)] w fun e w' => SleepOk B T n c src u w e w' := by
  have H1 := hid (next_any B T n c src 1 1 _ 7 w hR.ps hR.t1 (by have := hR.n4; omega) hR.n8 (by decide))
  have H2 := hid (fun (W : World) (hp : Ps B T n c src 2 W) (hk : Kp B w W) => next_any B T n c src 2 5 _ 12 W hp (hk.tok hR.t2 hR.ne) (by have := hR.n4; omega) hR.n8 (by decide))
  have HS := hid hS
  have HX := hid hX
  clear hR hS hX
  go_enter Ybaf.func5, Ybaf.ntmps5
  go_wp2_with (go_at_call 11; refine H1.out.mono ?_)
  rintro e W1 ⟨rfl, hp1, hk1⟩
  have HP1 := hid hp1
  have HK1 := hid hk1
  clear hp1 hk1
  go_wp2_with (go_at_call 11; refine (H2.out _ HP1.out HK1.out).mono ?_)
  rintro e W2 ⟨rfl, hp2, hk2⟩
  have HP2 := hid hp2
  have HK2 := hid (HK1.out.trans hk2)
  clear hp2 hk2
  go_wp2_with (go_at_call 12; refine (HS.out _ HP2.out HK2.out).mono ?_)
  rintro e W3 ⟨rfl, hp3, hk3⟩
  have HP3 := hid hp3
  have HK3 := hid (HK2.out.trans hk3)
  have hB : B < W3.heap.size := lt_of_cell hp3.src
  have HW := hid (Kp.of_below (B := B) ((Below.refl W3.heap.size W3).alloc (Nat.le_refl _) (.cells #[.int .i64 u] 42)))
  have hc : (W3.alloc (.cells #[.int .i64 u] 42)).cell? ⟨W3.heap.size, 0, none⟩ = some (.int .i64 u) := by simp
  have HC := hid hc
  have HQ := hid (hp3.below ((Below.refl W3.heap.size W3).alloc (Nat.le_refl _) (.cells #[.int .i64 u] 42)))
  clear hp3 hk3 hc
  go_wp2_with (go_at_call 13; refine (HX.out _ HQ.out (HK3.out.trans HW.out)).mono ?_)
  rintro e W4 ⟨rfl, hp4, hk4⟩
  have HP4 := hid hp4
  have HK4 := hid hk4
  clear hp4 hk4
  go_wp2
  go_ret2
  refine ⟨W3.heap.size, rfl, ?_, HP4.out, (HK3.out.trans HW.out).trans HK4.out⟩
  exact (HK4.out.cell (p := ⟨W3.heap.size, 0, none⟩) (lt_of_cell HC.out) (by show W3.heap.size ≠ B; omega)).trans HC.out

set_option maxHeartbeats 1000000 in
set_option maxRecDepth 100000 in
theorem sleep_but (B T n c : Nat) (src : ByteArray) (u off : Nat) (w : World) (hR : Ready B T n c src w)
    (hS : ∀ W, Ps B T n c src 3 W → Kp B w W → Calls Ybaf.prog 12 #[.pointer (some ⟨B, 0, none⟩)] W fun e w' => e = .returned (.tuple #[.int .i64 u, .nilIface]) ∧ Ps B T n c src 4 w' ∧ Kp B W w')
    (hX : ∀ W, Ps B T n c src 4 W → Kp B w W → Calls Ybaf.prog 13 #[.pointer (some ⟨B, 0, none⟩), .string ⟨#[41]⟩] W fun e w' => ∃ msg, Failed off (nearB src off) msg W e w') :
    Calls Ybaf.prog 5 #[.pointer (some ⟨B, 0, none⟩)] w fun e w' => SleepBut B T n c src u off w e w' := by
  have H1 := hid (next_any B T n c src 1 1 _ 7 w hR.ps hR.t1 (by have := hR.n4; omega) hR.n8 (by decide))
  have H2 := hid (fun (W : World) (hp : Ps B T n c src 2 W) (hk : Kp B w W) => next_any B T n c src 2 5 _ 12 W hp (hk.tok hR.t2 hR.ne) (by have := hR.n4; omega) hR.n8 (by decide))
  have HS := hid hS
  have HX := hid hX
  clear hR hS hX
  go_enter Ybaf.func5, Ybaf.ntmps5
  go_wp2_with (go_at_call 11; refine H1.out.mono ?_)
  rintro e W1 ⟨rfl, hp1, hk1⟩
  have HP1 := hid hp1
  have HK1 := hid hk1
  clear hp1 hk1
  go_wp2_with (go_at_call 11; refine (H2.out _ HP1.out HK1.out).mono ?_)
  rintro e W2 ⟨rfl, hp2, hk2⟩
  have HP2 := hid hp2
  have HK2 := hid (HK1.out.trans hk2)
  clear hp2 hk2
  go_wp2_with (go_at_call 12; refine (HS.out _ HP2.out HK2.out).mono ?_)
  rintro e W3 ⟨rfl, hp3, hk3⟩
  have HP3 := hid hp3
  have HK3 := hid (HK2.out.trans hk3)
  have hB : B < W3.heap.size := lt_of_cell hp3.src
  have HW := hid (Kp.of_below (B := B) ((Below.refl W3.heap.size W3).alloc (Nat.le_refl _) (.cells #[.int .i64 u] 42)))
  have hc : (W3.alloc (.cells #[.int .i64 u] 42)).cell? ⟨W3.heap.size, 0, none⟩ = some (.int .i64 u) := by simp
  have HC := hid hc
  have HQ := hid (hp3.below ((Below.refl W3.heap.size W3).alloc (Nat.le_refl _) (.cells #[.int .i64 u] 42)))
  clear hp3 hk3 hc
  go_wp2_with (go_at_call 13; refine (HX.out _ HQ.out (HK3.out.trans HW.out)).mono ?_)
  rintro e W4 ⟨msg, N, hN, rfl, hE, hb4⟩
  have HE := hid hE
  have HB4 := hid hb4
  clear hE hb4
  go_wp2
  go_ret2
  refine ⟨W3.heap.size, N, msg, rfl, ?_, HE.out, HQ.out.below HB4.out, (HK3.out.trans HW.out).trans (Kp.of_below HB4.out)⟩
  exact (HB4.out.cell (p := ⟨W3.heap.size, 0, none⟩) (lt_of_cell HC.out)).trans HC.out
end Go.Proofs.YbulkbukyFmt
