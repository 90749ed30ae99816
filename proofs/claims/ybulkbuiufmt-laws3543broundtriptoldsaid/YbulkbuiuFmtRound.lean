/-
  The walk of LawS3543BRoundTrip.
-/
import Derived.Test.YbulkbuiuFmtDecode
import Derived.Test.YbulkbuiuFmtPlain2
import Derived.Lib.Walk
import Derived.Lib.VarintMem
import Derived.Lib.Slices
import Derived.OwnWalk
namespace Go.Proofs.YbulkbuiuFmt
open Go.RowKit

set_option maxHeartbeats 8000000 in
set_option maxRecDepth 100000 in
/-- zzs3543bencode: the varint of x, in a row of the call's own. -/
theorem encode_at (x : Nat) (hx : x < 18446744073709551616) (w : World) :
    Calls Ybaf.prog 9 #[.int .u64 x] w fun e w' => ∃ v', e = .returned v' ∧ w'.ownsRow w.heap.size 5 1 v' (Lib.uvarint x).length (Lib.byteCells (Lib.uvarint x)) ∧ Below w.heap.size w w' := by
  obtain ⟨i0, hi, hz0, hz1, hz2⟩ := info_parts info5
  have hlen := Lib.uvarint_length64 hx
  obtain ⟨B, hB⟩ : ∃ B, B = w.heap.size := ⟨_, rfl⟩
  rw [← hB]
  have HB : Hid (B = w.heap.size) := hB
  clear hB
  go_enter Ybaf.func9, Ybaf.ntmps9
  go_wp2
  go_loopw [0, 3] (fun vx vb wr => ∃ (y : Nat) (pre : List UInt8), vx = .int .u64 y ∧ y ≤ x ∧ Lib.uvarint x = pre ++ Lib.uvarint y ∧ wr.ownsRow B 5 1 vb pre.length (Lib.byteCells pre) ∧ Below B w wr)
    (fun vx _ _ => (intOf vx).toNat)
  case atStart => exact ⟨x, [], rfl, Nat.le_refl _, rfl, World.ownsRow_nil _ _ _ _, Below.refl _ _⟩
  case round =>
    obtain ⟨y, pre, rfl, hy, hsplit, hown1, hnx⟩ := hrel
    have hbs : B ≤ wr.heap.size := by have := hnx.size; have := HB.out; omega
    have hpl : pre.length + (Lib.uvarint y).length ≤ 10 := by
      have h2 := congrArg List.length hsplit
      rw [List.length_append] at h2
      omega
    have hyp := Lib.uvarint_pos y
    by_cases h128 : 128 ≤ y
    · have hor : bits .or .u8 ((y : Int) % 256) 128 = ((y % 128 + 128 : Nat) : Int) := by
        rw [Lib.u8_or128_any _ (by omega) (by omega)]
        omega
      go_wp2_with (at_builtin; refine wpList_append_own _ rfl _ _ 22 rfl B 5 i0 (.int .u8 0) 1 1 Ybaf.underlying22 hi hz0 hz1 hz2 rfl (by decide) _ _ _ rfl (hown1.alloc _) ⟨wr.heap.size, 0, none⟩ 1 1 [Value.int .u8 ((y % 128 + 128 : Nat) : Int)] rfl rfl ?c1 ?c2 ?c3 ?c4 ?c5 ?_)
      case c1 =>
        intro j u hj
        match j, hj with
        | 0, hj => simp at hj; subst hj; simp [Addr.add]
      case c2 => intro u hu; simp at hu; subst hu; rfl
      case c3 => unfold maxLen; omega
      case c4 => omega
      case c5 => simp; omega
      intro v' w1 hown' hgrow _
      have hnx1 : Below B w w1 := (hnx.alloc hbs _).grown hgrow (by simp; omega) (fun k hk => (hown1.lt k hk).1)
      go_wp2
      go_roundw
      case rel =>
        refine ⟨y / 128, pre ++ [(y % 128 + 128).toUInt8], by go_num, by omega, by rw [hsplit, Lib.uvarint_big h128]; simp, ?_, hnx1⟩
        have ec : ((y % 128 + 128 : Nat) : Int) = (y : Int) % 128 + 128 := by omega
        rw [Lib.byteCells_snoc pre (by omega), List.length_append, List.length_singleton, ec]
        exact hown'
      case measure => simp [intOf]; omega
    · have hsm : Lib.uvarint y = [y.toUInt8] := Lib.uvarint_small (by omega)
      go_wp2_with (at_builtin; refine wpList_append_own _ rfl _ _ 22 rfl B 5 i0 (.int .u8 0) 1 1 Ybaf.underlying22 hi hz0 hz1 hz2 rfl (by decide) _ _ _ rfl (hown1.alloc _) ⟨wr.heap.size, 0, none⟩ 1 1 [Value.int .u8 (y : Int)] rfl rfl ?c1 ?c2 ?c3 ?c4 ?c5 ?_)
      case c1 =>
        intro j u hj
        match j, hj with
        | 0, hj => simp at hj; subst hj; simp [Addr.add]
      case c2 => intro u hu; simp at hu; subst hu; rfl
      case c3 => unfold maxLen; omega
      case c4 => omega
      case c5 => simp; omega
      intro v' w1 hown' hgrow _
      have hnx1 : Below B w w1 := (hnx.alloc hbs _).grown hgrow (by simp; omega) (fun k hk => (hown1.lt k hk).1)
      go_wp2
      go_ret
      refine ⟨v', rfl, ?_, hnx1⟩
      rw [hsplit, hsm, Lib.byteCells_snoc pre (by omega), List.length_append, List.length_singleton]
      exact hown'

set_option maxHeartbeats 400000 in
theorem round_great (x : Int) (p : Option Addr) (n c : Nat) (w : World) (hn : 1024 < n) :
    Calls Ybaf.prog 4 #[.int .u64 x, .slice p n c] w fun e w' => e = .returned (.bool true) ∧ Below w.heap.size w w' := by
  have hn' : (1024 : Int) < (n : Int) := by omega
  go_enter Ybaf.func4, Ybaf.ntmps4
  go_wp2
  go_ret
  exact ⟨rfl, Below.refl _ _⟩

theorem cellsL_eq (l : List UInt8) : Lib.byteCells l = cellsL l := rfl

set_option maxHeartbeats 1000000 in
theorem round_small (x : Nat) (hx : x < 18446744073709551616) (p : Option Addr) (n c : Nat) (l : List UInt8) (w : World) (hl : l.length = n) (hn : n ≤ 1024) (hL : Lies w p l) (hp : l ≠ [] → ∀ a, p = some a → a.block < w.heap.size) :
    Calls Ybaf.prog 4 #[.int .u64 x, .slice p n c] w fun e w' => e = .returned (.bool true) ∧ Below w.heap.size w w' := by
  have hn' : (n : Int) ≤ 1024 := by omega
  have HL := hid hL
  have HP := hid hp
  clear hL hp
  go_enter Ybaf.func4, Ybaf.ntmps4
  go_wp2_with fail
  refine (encode_at x hx w).mono ?_
  rintro e w1 ⟨v', rfl, hown, hb1⟩
  obtain ⟨m, b, hk, hd, hb, hz⟩ := round_plain x hx l
  have h10 := Lib.uvarint_length64 hx
  obtain ⟨p', c', w2, hrun, C⟩ := run_copy (c := c) 22 (k := Lib.uvarint x) (cellsL_eq _ ▸ hown) hb1 hb1.size (HL.out.below hb1 HP.out) hl (by omega)
  have hlen : (Lib.uvarint x ++ l).length = m + 1 + n := by rw [List.length_append]; omega
  rw [hk] at hrun C
  obtain ⟨g, o, rfl, hc⟩ := C.lies.some (by omega)
  have hg : g < w2.heap.size := C.lt ⟨g, o, none⟩ rfl
  have HR := hid hrun
  have H6 : Hid (Calls Ybaf.prog 6 #[.pointer (some ⟨w2.heap.size, 0, none⟩)] (w2.alloc (.cells #[.slice (some ⟨g, o, none⟩) (m + 1 + n) c', .nilIface] 28)) fun e w' => e = .returned (.int .u64 x) ∧ ∃ q c'', After w2.heap.size (m + 1 + n) m (Lib.uvarint x ++ l) q c'' (w2.alloc (.cells #[.slice (some ⟨g, o, none⟩) (m + 1 + n) c', .nilIface] 28)) w') :=
    uint_after w2.heap.size g o (m + 1 + n) c' x m (Lib.uvarint x ++ l) b _ hlen C.room (by omega) (by simp) hg (by simp) (by simp) (by simp) (fun j hj => (World.cell?_of_block (w := w2) (Below.heap_alloc _ _ _ hg)).trans (hc j hj)) hd (by omega) hb hz
  have HW : Hid (∀ x w3, Below w2.heap.size (w2.alloc x) w3 → Below w.heap.size w w3) := fun x w3 A => (C.below.alloc C.below.size _).trans (A.mono C.below.size)
  have HT : Hid ((Lib.uvarint x ++ l).drop (m + 1) = l) := by
    show (Lib.uvarint x ++ l).drop (m + 1) = l
    rw [← hk]
    exact List.drop_left
  clear hown hb1 hk hd hb hz hrun C hlen hc
  go_wp2_with (at_builtin; refine Lib.wpList_append_run_sl _ rfl _ _ 22 rfl _ _ rfl rfl HR.out ?_)
  refine H6.out.mono ?_
  rintro e w3 ⟨rfl, q, c'', A⟩
  have a0 := A.cell0
  rw [Nat.add_sub_cancel_left] at a0
  have a1 := A.cell1
  have hb := HW.out _ _ A.below
  have HB := hid hb
  have hq := A.lies
  rw [HT.out] at hq
  have HQ := hid (equal_same q p n c'' c l w3 hl hq (HL.out.below hb HP.out))
  clear A hb hq
  go_wp2_with (go_at_call 7; refine HQ.out.mono ?_; rintro e w' ⟨rfl, rfl⟩)
  go_ret
  exact ⟨rfl, HB.out⟩

/-- LawS3543BRoundTrip returns true, and writes nothing that was there. -/
theorem round_any (x : Nat) (hx : x < 18446744073709551616) (p : Option Addr) (n c : Nat) (l : List UInt8) (w : World) (hl : l.length = n) (hL : Lies w p l) (hp : l ≠ [] → ∀ a, p = some a → a.block < w.heap.size) :
    Calls Ybaf.prog 4 #[.int .u64 x, .slice p n c] w fun e w' => e = .returned (.bool true) ∧ Below w.heap.size w w' := by
  by_cases hn : 1024 < n
  · exact round_great x p n c w hn
  · exact round_small x hx p n c l w hl (by omega) hL hp
end Go.Proofs.YbulkbuiuFmt
