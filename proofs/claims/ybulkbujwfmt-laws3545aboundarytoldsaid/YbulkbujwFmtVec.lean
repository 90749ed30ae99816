/-
  (*Builder).addVector, two or three length bytes: the contents fit.
-/
import Derived.Test.YbulkbujwFmtAdd
import Derived.RegionTactic
import Derived.BigRegion
namespace Go.Proofs.YbulkbujwFmt
open Go.RowKit

def zeros (j : Nat) : List UInt8 := List.replicate j 0

theorem Bld.drew {D : Nat} {p : Option Addr} {c : Nat} {l : List UInt8} {w : World} (h : Bld D p c l w) : Bld D p c l w.drew :=
  ⟨by simpa using h.buf, by simpa using h.err, by simpa using h.f0, by simpa using h.f1, h.own, h.lt⟩

theorem Bld.at {D : Nat} {p : Option Addr} {c : Nat} {l : List UInt8} {w : World} (h : Bld D p c l w) (hl : 0 < l.length) : ∃ g, p = some ⟨g, 0, none⟩ ∧ D < g := by
  obtain ⟨g, cap, e, h1, _⟩ := h.own.form hl
  cases e
  exact ⟨g, rfl, h1⟩

theorem Bld.cell {D g c : Nat} {l : List UInt8} {w : World} (h : Bld D (some ⟨g, 0, none⟩) c l w) (i : Nat) (hi : i < l.length) : ∃ x, w.cell? ⟨g, i, none⟩ = some (.int .u8 x) := by
  refine ⟨(l[i]).toNat, ?_⟩
  rw [h.own.cellAt i (by omega)]
  simp [cellsL, List.getElem?_eq_getElem hi]

/-- A byte of the Builder is written over. -/
theorem Bld.put {D g c : Nat} {l : List UInt8} {w : World} (h : Bld D (some ⟨g, 0, none⟩) c l w) (hg : D < g) (i : Nat) (b : UInt8) : Bld D (some ⟨g, 0, none⟩) c (l.set i b) (w.setCell ⟨g, i, none⟩ (.int .u8 b.toNat)) := by
  have ne : ∀ x, (w.setCell ⟨g, i, none⟩ (.int .u8 b.toNat)).cell? ⟨D, x, none⟩ = w.cell? ⟨D, x, none⟩ := fun x =>
    World.cell?_of_block (w := w) (Below.heap_setCell _ _ _ _ (by show D ≠ g; omega))
  have nf : ∀ x, (w.setCell ⟨g, i, none⟩ (.int .u8 b.toNat)).frozen? ⟨D, x, none⟩ = w.frozen? ⟨D, x, none⟩ := fun x =>
    World.frozen?_of_block (w := w) (Below.heap_setCell _ _ _ _ (by show D ≠ g; omega))
  have e : (l.set i b).length = l.length := by simp
  refine ⟨by rw [ne, e]; exact h.buf, by rw [ne]; exact h.err, by rw [nf]; exact h.f0, by rw [nf]; exact h.f1, ?_, by simpa [World.setCell] using h.lt⟩
  have := (h.own.stored i (.int .u8 b.toNat)).1
  rw [e]
  have e2 : cellsL (l.set i b) = (cellsL l).set i (.int .u8 b.toNat) := by simp [cellsL, List.map_set]
  rw [e2]
  exact this

/-- The length bytes, filled one by one, the greatest first. -/
def fill (a : List UInt8) (s n k : Nat) : Nat → List UInt8
  | 0 => a
  | j + 1 => (fill a s n k j).set (s + j) (UInt8.ofNat (n / 256 ^ (k - 1 - j)))

theorem fill_length (a : List UInt8) (s n k : Nat) : ∀ j, (fill a s n k j).length = a.length
  | 0 => rfl
  | j + 1 => by simp [fill, fill_length a s n k j]

theorem put_byte {k : IntKind} {x : Int} {n : Nat} (h : x = ((n % 256 : Nat) : Int)) : Value.int k x = Value.int k ((UInt8.ofNat n).toNat : Nat) := by
  rw [ofNat_toNat, h]

theorem set_at (l : List UInt8) (x y : UInt8) (r : List UInt8) : (l ++ x :: r).set l.length y = l ++ y :: r := by
  simp
theorem set_at' (l : List UInt8) (x y : UInt8) (r : List UInt8) (i : Nat) (h : i = l.length) : (l ++ x :: r).set i y = l ++ y :: r := by
  subst h; simp

theorem fill_be2 (l body : List UInt8) (n : Nat) : fill (l ++ zeros 2 ++ body) l.length n 2 2 = l ++ be2 n ++ body := by
  have e : l ++ zeros 2 ++ body = l ++ 0 :: 0 :: body := by simp [zeros, List.replicate_succ]
  simp only [fill, e, Nat.add_zero, set_at]
  rw [show l ++ UInt8.ofNat (n / 256 ^ (2 - 1 - 0)) :: 0 :: body = (l ++ [UInt8.ofNat (n / 256 ^ (2 - 1 - 0))]) ++ 0 :: body by simp]
  rw [set_at' _ _ _ _ (l.length + 1) (by simp)]
  simp [be2]

theorem fill_be3 (l body : List UInt8) (n : Nat) : fill (l ++ zeros 3 ++ body) l.length n 3 3 = l ++ be3 n ++ body := by
  have e : l ++ zeros 3 ++ body = l ++ 0 :: 0 :: 0 :: body := by simp [zeros, List.replicate_succ]
  simp only [fill, e, Nat.add_zero, set_at]
  rw [show l ++ UInt8.ofNat (n / 256 ^ (3 - 1 - 0)) :: 0 :: 0 :: body = (l ++ [UInt8.ofNat (n / 256 ^ (3 - 1 - 0))]) ++ 0 :: 0 :: body by simp]
  rw [set_at' _ _ _ _ (l.length + 1) (by simp)]
  rw [show (l ++ [UInt8.ofNat (n / 256 ^ (3 - 1 - 0))]) ++ UInt8.ofNat (n / 256 ^ (3 - 1 - 1)) :: 0 :: body = (l ++ [UInt8.ofNat (n / 256 ^ (3 - 1 - 0)), UInt8.ofNat (n / 256 ^ (3 - 1 - 1))]) ++ 0 :: body by simp]
  rw [set_at' _ _ _ _ (l.length + 2) (by simp)]
  simp [be3]

set_option maxHeartbeats 1000000 in
set_option maxRecDepth 100000 in
theorem vec2 (D M : Nat) (p : Option Addr) (c : Nat) (l body : List UInt8) (w : World) (h : Bld D p c l w) (hlen : l.length + body.length ≤ 900000) (hfit : body.length < 65536)
    (HF : Hid (∀ (p : Option Addr) (c : Nat) (l' : List UInt8) (w' : World), Bld D p c l' w' → Below D w w' → l'.length ≤ l.length + 2 → Calls Ybaf.prog 17 #[.pointer (some ⟨D, 0, none⟩), .pointer (some ⟨M, 0, none⟩)] w' fun e w'' => e = .returned (.tuple #[]) ∧ Step D (l' ++ body) w' w'')) :
    Calls Ybaf.prog 33 #[.pointer (some ⟨D, 0, none⟩), .int .i64 2, .func (.func 17) #[] #[.pointer (some ⟨M, 0, none⟩)]] w fun e w' => e = .returned (.tuple #[]) ∧ Step D (l ++ be2 body.length ++ body) w w' := by
  have c0 := h.buf
  have HS := hid (show Step D (l ++ zeros 0) w w from ⟨p, c, by simpa [zeros] using h, Below.refl _ _⟩)
  clear h
  go_enter Ybaf.func33, Ybaf.ntmps33
  go_wp2
  go_loopw [15] (fun i wr => ∃ j : Nat, j ≤ 2 ∧ i = .int .i64 j ∧ Hid (Step D (l ++ zeros j) w wr)) (fun i _ => 2 - (intOf i).toNat)
  case atStart => exact ⟨0, by omega, rfl, HS⟩
  case round =>
    clear c0 HS
    obtain ⟨j, hj, rfl, hS⟩ := hrel
    obtain ⟨p1, c1, hB, hbel⟩ := hS.out
    clear hS
    by_cases hlt : j < 2
    · obtain ⟨p', c', w1, hr, d0, g0, HS⟩ := hB.grow (d := 1) (w2 := wr.alloc (.cells #[.int .u8 0] 5)) ((Below.refl _ wr).alloc hB.lt _) (lies_new wr [0]) rfl (by simp [zeros]; omega) (hB.own.alloc _)
      have HR := hid hr
      have hD := hB.lt
      have c0 := hB.buf
      have HN := hid (show Step D (l ++ zeros (j + 1)) w (w1.setCell ⟨D, 0, none⟩ (.slice p' ((l ++ zeros j).length + 1) c')) from by
        obtain ⟨p2, c2, h2, h3⟩ := HS.out
        refine ⟨p2, c2, ?_, hbel.trans h3⟩
        have e : l ++ zeros (j + 1) = l ++ zeros j ++ [0] := by simp [zeros, List.replicate_succ']
        rw [e]
        exact h2)
      clear hr hB hbel HS
      generalize (l ++ zeros j).length = N at HR d0 c0 HN
      go_wp2_with (at_builtin; refine Lib.wpList_append_run_sl _ rfl _ _ 23 rfl _ _ rfl rfl HR.out ?_)
      go_roundw
      case rel => exact ⟨j + 1, by omega, by go_num, HN⟩
      case measure => simp [intOf]; omega
    · have hj2 : j = 2 := by omega
      subst hj2
      have hln : (l ++ zeros 2).length ≤ l.length + 2 := by simp [zeros]
      have HC := hid (HF.out p1 c1 (l ++ zeros 2) wr hB hbel hln)
      have HBel := hid hbel
      clear hB hbel
      go_wp2_with fail
      refine HC.out.mono ?_
      rintro e w2 ⟨rfl, p2, c2, hB2, hbel2⟩
      have hb2 := HBel.out.trans hbel2
      have b0 := hB2.buf
      have b1 := hB2.err
      have hN : (l ++ zeros 2 ++ body).length = l.length + 2 + body.length := by simp [zeros]; omega
      rw [hN] at b0
      obtain ⟨g, rfl, hg⟩ := hB2.at (by omega)
      have HS0 := hid (show Bld D (some ⟨g, 0, none⟩) c2 (fill (l ++ zeros 2 ++ body) l.length body.length 2 0) w2 ∧ Below D w w2 from ⟨hB2, hb2⟩)
      have HN := hid hN
      clear hB2 hb2 hbel2 HBel HC HF hln hN
      go_wp2
      go_loopw [59] (fun i wr => ∃ j : Nat, j ≤ 2 ∧ i = .int .i64 j ∧ Hid (Bld D (some ⟨g, 0, none⟩) c2 (fill (l ++ zeros 2 ++ body) l.length body.length 2 j) wr ∧ Below D w wr)) (fun i _ => 2 - (intOf i).toNat)
      case atStart => exact ⟨0, by omega, rfl, HS0⟩
      case round =>
        clear b0 b1 HS0
        obtain ⟨j, hj, rfl, hS⟩ := hrel
        obtain ⟨hB3, hb3⟩ := hS.out
        have d0 := hB3.buf
        rw [fill_length, HN.out] at d0
        by_cases hlt : j < 2
        · obtain ⟨x, hx⟩ := hB3.cell (l.length + j) (by rw [fill_length, HN.out]; omega)
          have hf := hB3.own.frozenAt (l.length + j)
          have HP := hid (show ∀ b : UInt8, b = UInt8.ofNat (body.length / 256 ^ (2 - 1 - j)) → Bld D (some ⟨g, 0, none⟩) c2 (fill (l ++ zeros 2 ++ body) l.length body.length 2 (j + 1)) ((wr.setCell ⟨g, l.length + j, none⟩ (.int .u8 b.toNat)).drew) ∧ Below D w ((wr.setCell ⟨g, l.length + j, none⟩ (.int .u8 b.toNat)).drew) from fun b hb => by
            subst hb
            exact ⟨(hB3.put hg _ _).drew, (hb3.setCell (p := ⟨g, l.length + j, none⟩) (by show D ≤ g; omega) _).drew⟩)
          clear hB3 hb3 hS
          have hjs : j = 0 ∨ j = 1 := by omega
          rcases hjs with rfl | rfl
          · simp only [Nat.add_zero] at hx hf HP
            go_wp2
            go_region
            go_wp2
            go_roundw
            case rel =>
              refine ⟨1, by omega, by go_num, ?_⟩
              have hv : Value.int .u8 (((l.length : Int) + 2 + (body.length : Int) - (l.length : Int) - 2) / 256) = Value.int .u8 ((UInt8.ofNat (body.length / 256 ^ (2 - 1 - 0))).toNat : Nat) := put_byte (by simp only [Nat.reduceSub, Nat.reducePow]; omega)
              rw [hv]
              exact HP.out _ rfl
            case measure => simp [intOf]
          · go_wp2
            go_region
            go_wp2
            go_roundw
            case rel =>
              refine ⟨2, by omega, by go_num, ?_⟩
              have hv : Value.int .u8 (((l.length : Int) + 2 + (body.length : Int) - (l.length : Int) - 2) % 256) = Value.int .u8 ((UInt8.ofNat (body.length / 256 ^ (2 - 1 - 1))).toNat : Nat) := put_byte (by simp only [Nat.reduceSub, Nat.reducePow]; omega)
              rw [hv]
              exact HP.out _ rfl
            case measure => simp [intOf]
        · have hj2 : j = 2 := by omega
          subst hj2
          have HQ := hid (show Step D (l ++ be2 body.length ++ body) w wr from ⟨_, _, by
            have := hB3
            rw [fill_be2] at this
            exact this, hb3⟩)
          clear hB3 hb3 hS
          go_wp2
          go_end0
          exact ⟨rfl, HQ.out⟩
set_option maxHeartbeats 1000000 in
set_option maxRecDepth 100000 in
theorem vec3 (D M : Nat) (p : Option Addr) (c : Nat) (l body : List UInt8) (w : World) (h : Bld D p c l w) (hlen : l.length + body.length ≤ 900000) (hfit : body.length < 16777216)
    (HF : Hid (∀ (p : Option Addr) (c : Nat) (l' : List UInt8) (w' : World), Bld D p c l' w' → Below D w w' → l'.length ≤ l.length + 3 → Calls Ybaf.prog 14 #[.pointer (some ⟨D, 0, none⟩), .pointer (some ⟨M, 0, none⟩)] w' fun e w'' => e = .returned (.tuple #[]) ∧ Step D (l' ++ body) w' w'')) :
    Calls Ybaf.prog 33 #[.pointer (some ⟨D, 0, none⟩), .int .i64 3, .func (.func 14) #[] #[.pointer (some ⟨M, 0, none⟩)]] w fun e w' => e = .returned (.tuple #[]) ∧ Step D (l ++ be3 body.length ++ body) w w' := by
  have c0 := h.buf
  have HS := hid (show Step D (l ++ zeros 0) w w from ⟨p, c, by simpa [zeros] using h, Below.refl _ _⟩)
  clear h
  go_enter Ybaf.func33, Ybaf.ntmps33
  go_wp2
  go_loopw [15] (fun i wr => ∃ j : Nat, j ≤ 3 ∧ i = .int .i64 j ∧ Hid (Step D (l ++ zeros j) w wr)) (fun i _ => 3 - (intOf i).toNat)
  case atStart => exact ⟨0, by omega, rfl, HS⟩
  case round =>
    clear c0 HS
    obtain ⟨j, hj, rfl, hS⟩ := hrel
    obtain ⟨p1, c1, hB, hbel⟩ := hS.out
    clear hS
    by_cases hlt : j < 3
    · obtain ⟨p', c', w1, hr, d0, g0, HS⟩ := hB.grow (d := 1) (w2 := wr.alloc (.cells #[.int .u8 0] 5)) ((Below.refl _ wr).alloc hB.lt _) (lies_new wr [0]) rfl (by simp [zeros]; omega) (hB.own.alloc _)
      have HR := hid hr
      have hD := hB.lt
      have c0 := hB.buf
      have HN := hid (show Step D (l ++ zeros (j + 1)) w (w1.setCell ⟨D, 0, none⟩ (.slice p' ((l ++ zeros j).length + 1) c')) from by
        obtain ⟨p2, c2, h2, h3⟩ := HS.out
        refine ⟨p2, c2, ?_, hbel.trans h3⟩
        have e : l ++ zeros (j + 1) = l ++ zeros j ++ [0] := by simp [zeros, List.replicate_succ']
        rw [e]
        exact h2)
      clear hr hB hbel HS
      generalize (l ++ zeros j).length = N at HR d0 c0 HN
      go_wp2_with (at_builtin; refine Lib.wpList_append_run_sl _ rfl _ _ 23 rfl _ _ rfl rfl HR.out ?_)
      go_roundw
      case rel => exact ⟨j + 1, by omega, by go_num, HN⟩
      case measure => simp [intOf]; omega
    · have hj2 : j = 3 := by omega
      subst hj2
      have hln : (l ++ zeros 3).length ≤ l.length + 3 := by simp [zeros]
      have HC := hid (HF.out p1 c1 (l ++ zeros 3) wr hB hbel hln)
      have HBel := hid hbel
      clear hB hbel
      go_wp2_with fail
      refine HC.out.mono ?_
      rintro e w2 ⟨rfl, p2, c2, hB2, hbel2⟩
      have hb2 := HBel.out.trans hbel2
      have b0 := hB2.buf
      have b1 := hB2.err
      have hN : (l ++ zeros 3 ++ body).length = l.length + 3 + body.length := by simp [zeros]; omega
      rw [hN] at b0
      obtain ⟨g, rfl, hg⟩ := hB2.at (by omega)
      have HS0 := hid (show Bld D (some ⟨g, 0, none⟩) c2 (fill (l ++ zeros 3 ++ body) l.length body.length 3 0) w2 ∧ Below D w w2 from ⟨hB2, hb2⟩)
      have HN := hid hN
      clear hB2 hb2 hbel2 HBel HC HF hln hN
      go_wp2
      go_loopw [59] (fun i wr => ∃ j : Nat, j ≤ 3 ∧ i = .int .i64 j ∧ Hid (Bld D (some ⟨g, 0, none⟩) c2 (fill (l ++ zeros 3 ++ body) l.length body.length 3 j) wr ∧ Below D w wr)) (fun i _ => 3 - (intOf i).toNat)
      case atStart => exact ⟨0, by omega, rfl, HS0⟩
      case round =>
        clear b0 b1 HS0
        obtain ⟨j, hj, rfl, hS⟩ := hrel
        obtain ⟨hB3, hb3⟩ := hS.out
        have d0 := hB3.buf
        rw [fill_length, HN.out] at d0
        by_cases hlt : j < 3
        · obtain ⟨x, hx⟩ := hB3.cell (l.length + j) (by rw [fill_length, HN.out]; omega)
          have hf := hB3.own.frozenAt (l.length + j)
          have HP := hid (show ∀ b : UInt8, b = UInt8.ofNat (body.length / 256 ^ (3 - 1 - j)) → Bld D (some ⟨g, 0, none⟩) c2 (fill (l ++ zeros 3 ++ body) l.length body.length 3 (j + 1)) ((wr.setCell ⟨g, l.length + j, none⟩ (.int .u8 b.toNat)).drew) ∧ Below D w ((wr.setCell ⟨g, l.length + j, none⟩ (.int .u8 b.toNat)).drew) from fun b hb => by
            subst hb
            exact ⟨(hB3.put hg _ _).drew, (hb3.setCell (p := ⟨g, l.length + j, none⟩) (by show D ≤ g; omega) _).drew⟩)
          clear hB3 hb3 hS
          have hjs : j = 0 ∨ j = 1 ∨ j = 2 := by omega
          rcases hjs with rfl | rfl | rfl
          · simp only [Nat.add_zero] at hx hf HP
            go_wp2
            go_region
            go_wp2
            go_roundw
            case rel =>
              refine ⟨1, by omega, by go_num, ?_⟩
              have hv : Value.int .u8 (((l.length : Int) + 3 + (body.length : Int) - (l.length : Int) - 3) / 65536) = Value.int .u8 ((UInt8.ofNat (body.length / 256 ^ (3 - 1 - 0))).toNat : Nat) := put_byte (by simp only [Nat.reduceSub, Nat.reducePow]; omega)
              rw [hv]
              exact HP.out _ rfl
            case measure => simp [intOf]
          · go_wp2
            go_region
            go_wp2
            go_roundw
            case rel =>
              refine ⟨2, by omega, by go_num, ?_⟩
              have hv : Value.int .u8 (((l.length : Int) + 3 + (body.length : Int) - (l.length : Int) - 3) / 256 % 256) = Value.int .u8 ((UInt8.ofNat (body.length / 256 ^ (3 - 1 - 1))).toNat : Nat) := put_byte (by simp only [Nat.reduceSub, Nat.reducePow]; omega)
              rw [hv]
              exact HP.out _ rfl
            case measure => simp [intOf]
          · go_wp2
            go_region
            go_wp2
            go_roundw
            case rel =>
              refine ⟨3, by omega, by go_num, ?_⟩
              have hv : Value.int .u8 (((l.length : Int) + 3 + (body.length : Int) - (l.length : Int) - 3) % 256) = Value.int .u8 ((UInt8.ofNat (body.length / 256 ^ (3 - 1 - 2))).toNat : Nat) := put_byte (by simp only [Nat.reduceSub, Nat.reducePow]; omega)
              rw [hv]
              exact HP.out _ rfl
            case measure => simp [intOf]
        · have hj2 : j = 3 := by omega
          subst hj2
          have HQ := hid (show Step D (l ++ be3 body.length ++ body) w wr from ⟨_, _, by
            have := hB3
            rw [fill_be3] at this
            exact this, hb3⟩)
          clear hB3 hb3 hS
          go_wp2
          go_end0
          exact ⟨rfl, HQ.out⟩
end Go.Proofs.YbulkbujwFmt
