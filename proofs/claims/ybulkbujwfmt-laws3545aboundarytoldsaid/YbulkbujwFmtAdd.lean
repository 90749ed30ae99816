/-
  AddUint8, AddBytes, AddUint16.
-/
import Derived.Test.YbulkbujwFmtBase
namespace Go.Proofs.YbulkbujwFmt
open Go.RowKit

set_option maxHeartbeats 400000 in
set_option maxRecDepth 100000 in
theorem add8 (D : Nat) (p : Option Addr) (c : Nat) (l : List UInt8) (b : UInt8) (w : World) (h : Bld D p c l w) (hlen : l.length ≤ 1000000) :
    Calls Ybaf.prog 31 #[.pointer (some ⟨D, 0, none⟩), .int .u8 b.toNat] w fun e w' => e = .returned (.tuple #[]) ∧ Step D (l ++ [b]) w w' := by
  obtain ⟨p', c', w1, hr, d0, g0, HS⟩ := h.grow (d := 1) (w2 := w.alloc (.cells #[.int .u8 b.toNat] 5)) ((Below.refl _ w).alloc h.lt _) (lies_new w [b]) rfl (by simp; omega) (h.own.alloc _)
  have HR := hid hr
  have hD := h.lt
  have c0 := h.buf
  clear hr h
  go_enter Ybaf.func31, Ybaf.ntmps31
  go_wp2_with (at_builtin; refine Lib.wpList_append_run_sl _ rfl _ _ 23 rfl _ _ rfl rfl HR.out ?_)
  go_end0
  exact ⟨rfl, HS.out⟩

set_option maxHeartbeats 400000 in
set_option maxRecDepth 100000 in
theorem addBytes (D : Nat) (p q : Option Addr) (c d n : Nat) (l k : List UInt8) (w : World) (h : Bld D p c l w) (hlen : l.length + n ≤ 1000000) (hL : Lies w q k) (hk : k.length = n) :
    Calls Ybaf.prog 18 #[.pointer (some ⟨D, 0, none⟩), .slice q n d] w fun e w' => e = .returned (.tuple #[]) ∧ Step D (l ++ k) w w' := by
  obtain ⟨p', c', w1, hr, d0, g0, HS⟩ := h.grow (d := d) (w2 := w) (Below.refl _ w) hL hk (by omega) h.own
  have HR := hid hr
  have hD := h.lt
  have c0 := h.buf
  clear hr h
  go_enter Ybaf.func18, Ybaf.ntmps18
  go_wp2_with (at_builtin; refine Lib.wpList_append_run_sl _ rfl _ _ 23 rfl _ _ rfl rfl HR.out ?_)
  go_end0
  exact ⟨rfl, HS.out⟩

def be2 (x : Nat) : List UInt8 := [UInt8.ofNat (x / 256), UInt8.ofNat x]
def be3 (x : Nat) : List UInt8 := [UInt8.ofNat (x / 65536), UInt8.ofNat (x / 256), UInt8.ofNat x]

theorem ofNat_toNat (x : Nat) : (UInt8.ofNat x).toNat = x % 256 := by simp

theorem be2_cells (x : Nat) (hx : x < 65536) : cellsL (be2 x) = [Value.int .u8 ((x : Int) / 256), Value.int .u8 ((x : Int) % 256)] := by
  have e1 : (((UInt8.ofNat (x / 256)).toNat : Nat) : Int) = (x : Int) / 256 := by rw [ofNat_toNat]; omega
  have e2 : (((UInt8.ofNat x).toNat : Nat) : Int) = (x : Int) % 256 := by rw [ofNat_toNat]; omega
  simp only [cellsL, be2, List.map_cons, List.map_nil, e1, e2]

set_option maxHeartbeats 400000 in
set_option maxRecDepth 100000 in
theorem add16 (D : Nat) (p : Option Addr) (c : Nat) (l : List UInt8) (x : Nat) (hx : x < 65536) (w : World) (h : Bld D p c l w) (hlen : l.length ≤ 1000000) :
    Calls Ybaf.prog 15 #[.pointer (some ⟨D, 0, none⟩), .int .u16 x] w fun e w' => e = .returned (.tuple #[]) ∧ Step D (l ++ be2 x) w w' := by
  obtain ⟨p', c', w1, hr, d0, g0, HS⟩ := h.grow (d := 2) (w2 := w.alloc (.cells (cellsL (be2 x)).toArray 5)) ((Below.refl _ w).alloc h.lt _) (lies_new w (be2 x)) rfl (by simp [be2]; omega) (h.own.alloc _)
  rw [be2_cells x hx] at hr
  have HR := hid hr
  have hD := h.lt
  have c0 := h.buf
  clear hr h
  go_enter Ybaf.func15, Ybaf.ntmps15
  go_wp2_with (at_builtin; refine Lib.wpList_append_run_sl _ rfl _ _ 23 rfl _ _ rfl rfl HR.out ?_)
  go_end0
  exact ⟨rfl, HS.out⟩
end Go.Proofs.YbulkbujwFmt
