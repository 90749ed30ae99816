/-
  internal/strconv.ParseUint(s, 10, 63), turned from the shelf's walk at 32 bits: the cutoff may be met here, so it has a case of its own. Then the public strconv.ParseUint(s, 10, 63).
-/
import Derived.Shelf.Pu.Lays
import Derived.Shelf.Pu.Lower
import Derived.Shelf.Pu.ParseUintEmpty
import Derived.Shelf.Pu.ToError
import Derived.Shelf.Pu.ToErrorRange
import Derived.Lib.AtoiErrMem
import Derived.Test.YbulkbukyFmtShelf
import Derived.Lib.Strings
import Derived.Lib.Walk
import Derived.Lib.ConvBytes
import Derived.Lib.ParseIntBMem
import Derived.Lib.Hide
import Derived.Laws.Strings3
import Derived.Laws.Closers25
import Derived.Laws.Closers25b
import Derived.WalkKit
import Derived.BigCall
import Derived.BigGuard
namespace Go.Proofs.YbulkbukyFmt
open Go.Shelf Go.RowKit
variable {P : Program} {ρ : Ren}


set_option maxHeartbeats 32000000 in
set_option maxRecDepth 100000 in
/-- internal/strconv.ParseUint(s, 10, 63), s NOT EMPTY: 'Lib.parseUintM 9223372036854775807 0' OF ITS BYTES: the number; or (0, ErrSyntax); or (the greatest number of 63 bits, ErrRange). The world behind the call: the one new row that '[]byte(s)' lays. -/
theorem internalParseUint_63 (L : LaysPu.n16 P ρ) (t : ByteArray) (hne : t.size ≠ 0) (hmax : t.size ≤ 9223372036854775806) (w : World) :
    Calls P (ρ.f 16) #[.string t, .int .i64 10, .int .i64 63] w fun e w' => e = .returned (Lib.uintTupleM (ρ.t 34) 9223372036854775807 (Lib.parseUintM 9223372036854775807 0 t.data.toList)) ∧ w' = Lib.bytesWorld w (ρ.t 5) t := by
  have mixed := L.mixed
  have t9 := L.t9; have a9 := L.a9; have z9 := L.z9; have v9 := L.v9
  have t3 := L.t3; have a3 := L.a3; have z3 := L.z3; have v3 := L.v3
  have t22 := L.t22; have a22 := L.a22; have z22 := L.z22; have v22 := L.v22
  have t24 := L.t24; have a24 := L.a24; have z24 := L.z24; have v24 := L.v24
  have t4 := L.t4; have a4 := L.a4; have z4 := L.z4; have v4 := L.v4
  have t34 := L.t34; have a34 := L.a34; have z34 := L.z34; have v34 := L.v34
  have t5 := L.t5; have a5 := L.a5; have z5 := L.z5; have v5 := L.v5
  have t36 := L.t36; have a36 := L.a36; have z36 := L.z36; have v36 := L.v36
  have t37 := L.t37; have a37 := L.a37; have z37 := L.z37; have v37 := L.v37
  have t0 := L.t0; have a0 := L.a0; have z0 := L.z0; have v0 := L.v0
  have e19 : ∀ args w, (callFunc (ρ.f 19) args).run P w = .ok (.enter (ρ.f 19) args) w := enters_of L.f19 (by kernel_rfl) rfl
  have hemp : t.toList.isEmpty = false := by
    rw [← decide_eq_emptyBytes]
    exact decide_eq_false (fun h => hne (by rw [h]; rfl))
  have hcv := Lib.run_convert_string_bytes (P := P) w (ρ.t 9) (ρ.t 37) (ρ.t 5) t (u := .string) L.t9 L.t37 L.t5
  have hB : ∀ j, j < t.size → (Lib.bytesWorld w (ρ.t 5) t).cell? ⟨w.heap.size, j, none⟩ = some (.int .u8 (t.data.toList.getD j 0).toNat) := fun j hj => Lib.bytesWorld_cell w (ρ.t 5) t j hj
  obtain ⟨W1, hW1⟩ : ∃ W1, W1 = Lib.bytesWorld w (ρ.t 5) t := ⟨_, rfl⟩
  rw [← hW1] at hcv hB ⊢
  clear hW1
  obtain ⟨bs, hL⟩ : ∃ bs, bs = t.data.toList := ⟨_, rfl⟩
  have hLn : bs.length = t.size := by rw [hL, Lib.size_eq]
  rw [← hL] at hB ⊢
  clear hL
  -- 'maxVal := uint64(1)<<uint(bitSize) - 1': its value, for the walk to take
  have hmv : IntKind.u64.wrap (IntKind.u64.wrap 9223372036854775808 - 1) = 9223372036854775807 := by
    rw [IntKind.wrap_u64, IntKind.wrap_u64]
    decide
  go_enter L.f16, BodyPu.n16_ntmps ρ
  go_wp2
  go_loop [12, 13, 101] (fun vu vn vi => ∃ (k acc : Nat) (a : Int), vu = .bool false ∧ vn = .int .u64 a ∧ vi = .int .i64 k ∧ k ≤ t.size ∧ Hid (a = (acc : Int) ∧ acc ≤ 9223372036854775807 ∧ Lib.parseUintM 9223372036854775807 0 bs = Lib.parseUintM 9223372036854775807 acc (bs.drop k)))
    (fun _ _ vi => t.size - (intOf vi).toNat)
  case atStart => exact ⟨0, 0, 0, rfl, rfl, rfl, by omega, rfl, by omega, rfl⟩
  case round =>
    obtain ⟨k, acc, a, rfl, rfl, rfl, hk, hh⟩ := hrel
    obtain ⟨ha, hacc, hdec⟩ := hh.out
    clear hh
    have a0 : 0 ≤ a := by omega
    have a1 : a ≤ 9223372036854775807 := by omega
    by_cases hkn : k < t.size
    · have hc := hB k hkn
      have hdrop : bs.drop k = bs[k]'(by omega) :: bs.drop (k + 1) := List.drop_eq_getElem_cons (by omega)
      have hget : bs.getD k 0 = bs[k]'(by omega) := by simp [List.getD, List.getElem?_eq_getElem (show k < bs.length by omega)]
      rw [hdrop] at hdec
      rw [hget] at hc
      generalize bs[k]'(by omega) = c at hc hdec
      have hc256 : c.toNat < 256 := c.toNat_lt
      clear hB hdrop hget
      by_cases hdig : 48 ≤ c.toNat ∧ c.toNat ≤ 57
      · obtain ⟨hd0, hd1⟩ := hdig
        by_cases hcut : 1844674407370955162 ≤ acc
        · -- acc * 10 OVERFLOWS
          have hF : Lib.parseUintM 9223372036854775807 acc (c :: bs.drop (k + 1)) = .range := by simp [Lib.parseUintM, hd0, hd1, hcut]
          rw [hF] at hdec
          have icut : 1844674407370955162 ≤ a := by omega
          clear hcut hacc hF ha
          go_wp2
          go_ret2
          exact ⟨rfl, rfl⟩
        have icut : a < 1844674407370955162 := by omega
        by_cases hov : 9223372036854775807 < acc * 10 + (c.toNat - 48)
        · -- OVER THE SIZE
          have hF : Lib.parseUintM 9223372036854775807 acc (c :: bs.drop (k + 1)) = .range := by simp [Lib.parseUintM, hd0, hd1, hcut, hov]
          rw [hF] at hdec
          have iov : 9223372036854775807 < a * 10 + ((c.toNat : Int) - 48) := by omega
          clear hcut hacc hF hov ha
          by_cases hbig : 18446744073709551616 ≤ a * 10 + ((c.toNat : Int) - 48)
          · have hwr : IntKind.u64.wrap (a * 10 + ((c.toNat : Int) - 48)) = a * 10 + ((c.toNat : Int) - 48) - 18446744073709551616 := by
              rw [IntKind.wrap_u64]
              omega
            clear iov
            go_wp2
            go_ret2
            exact ⟨rfl, rfl⟩
          · have hsm : a * 10 + ((c.toNat : Int) - 48) < 18446744073709551616 := by omega
            clear hbig
            go_wp2
            go_ret2
            exact ⟨rfl, rfl⟩
        · have hF : Lib.parseUintM 9223372036854775807 acc (c :: bs.drop (k + 1)) = Lib.parseUintM 9223372036854775807 (acc * 10 + (c.toNat - 48)) (bs.drop (k + 1)) := by simp [Lib.parseUintM, hd0, hd1, hcut, hov]
          have HN : Hid (a * 10 + ((c.toNat : Int) - 48) = ((acc * 10 + (c.toNat - 48) : Nat) : Int) ∧ acc * 10 + (c.toNat - 48) ≤ 9223372036854775807 ∧ Lib.parseUintM 9223372036854775807 0 bs = Lib.parseUintM 9223372036854775807 (acc * 10 + (c.toNat - 48)) (bs.drop (k + 1))) := Lib.hid ⟨by omega, by omega, hdec.trans hF⟩
          have iov : a * 10 + ((c.toNat : Int) - 48) ≤ 9223372036854775807 := by omega
          clear hcut hacc hF hov hdec ha
          go_wp2
          refine ⟨⟨k + 1, acc * 10 + (c.toNat - 48), a * 10 + ((c.toNat : Int) - 48), rfl, (by first | rfl | (congr 1; omega)), (by first | rfl | (congr 1; omega)), by omega, HN⟩, by simp [intOf]; omega⟩
      · -- NO DIGIT: whatever way the text goes: (0, ErrSyntax)
        have hF : Lib.parseUintM 9223372036854775807 acc (c :: bs.drop (k + 1)) = Lib.parseUintM 9223372036854775807 0 [0] := by simp [Lib.parseUintM, hdig]
        rw [hF] at hdec
        clear hacc hF ha
        have hv0 := bits_lo_u8 .or (c.toNat : Int) 32
        have hv1 := bits_hi_u8 .or (c.toNat : Int) 32
        have hu0 := bits_lo_u8 .or 95 32       -- at '_' the walk writes the byte out
        have hu1 := bits_hi_u8 .or 95 32
        go_wp2_with (go_at_fn (ρ.f 19); refine (AnyPu.internal_strconv_lower { L with } _ _).mono ?_; rintro e w' ⟨rfl, rfl⟩)
        all_goals go_ret2
        all_goals first | exact ⟨rfl, rfl⟩ | exact ⟨by rw [hdec]; rfl, rfl⟩
    · -- THE BYTES ARE AT AN END
      have hkk : k = t.size := by omega
      subst hkk
      have hF : Lib.parseUintM 9223372036854775807 acc (bs.drop t.size) = .ok acc := by rw [List.drop_eq_nil_of_le (by omega)]; rfl
      rw [hF] at hdec
      subst ha
      clear hacc hF a0 a1
      go_wp2
      go_ret2
      exact ⟨rfl, rfl⟩


/-- internal/strconv.ParseUint(s, 10, 63) at every string. -/
theorem internalParseUint_at63 (L : LaysPu.n16 P ρ) (t : ByteArray) (hmax : t.size ≤ 9223372036854775806) (w : World) :
    Calls P (ρ.f 16) #[.string t, .int .i64 10, .int .i64 63] w fun e w' => e = .returned (Lib.uintTupleM (ρ.t 34) 9223372036854775807 (Lib.parseUintB 63 t.data.toList)) ∧ Below w.heap.size w w' := by
  have eM : (2 : Nat) ^ 63 - 1 = 9223372036854775807 := by decide
  by_cases h0 : t.size = 0
  · have ht : t = ⟨#[]⟩ := by
      apply ByteArray.ext
      exact Array.eq_empty_of_size_eq_zero h0
    subst ht
    exact (AnyPu.internal_strconv_ParseUint_empty { L with } 10 63 w).mono fun e w' ⟨he, hw⟩ => ⟨he, by rw [hw]; exact Below.refl _ _⟩
  · have hne : t.data.toList ≠ [] := fun h => h0 (by rw [Lib.size_eq, h]; rfl)
    refine (internalParseUint_63 { L with } t h0 hmax w).mono fun e w' ⟨he, hw⟩ => ⟨?_, by rw [hw]; exact Lib.bytesWorld_below _ _ _⟩
    rw [he, Lib.parseUintB, if_neg hne, eM]

set_option maxHeartbeats 4000000 in
set_option maxRecDepth 100000 in
theorem parseUint63_ok (L : LaysPu.n14 P ρ) (s : ByteArray) (hmax : s.size ≤ 9223372036854775806) (u : Nat) (h : Lib.parseUintB 63 s.data.toList = .ok u) (w : World) :
    Calls P (ρ.f 14) #[.string s, .int .i64 10, .int .i64 63] w fun e w' => e = .returned (.tuple #[.int .u64 u, .nilIface]) ∧ Below w.heap.size w w' := by
  have mixed := L.mixed
  have t9 := L.t9; have a9 := L.a9; have z9 := L.z9; have v9 := L.v9
  have t3 := L.t3; have a3 := L.a3; have z3 := L.z3; have v3 := L.v3
  have t22 := L.t22; have a22 := L.a22; have z22 := L.z22; have v22 := L.v22
  have t24 := L.t24; have a24 := L.a24; have z24 := L.z24; have v24 := L.v24
  have t25 := L.t25; have a25 := L.a25; have z25 := L.z25; have v25 := L.v25
  have t4 := L.t4; have a4 := L.a4; have z4 := L.z4; have v4 := L.v4
  have e16 : ∀ args w, (callFunc (ρ.f 16) args).run P w = .ok (.enter (ρ.f 16) args) w := enters_of L.f16 (by kernel_rfl) rfl
  have hI := internalParseUint_at63 { L with } s hmax w
  rw [h] at hI
  have hI : Calls P (ρ.f 16) #[.string s, .int .i64 10, .int .i64 63] w fun e w' => e = .returned (.tuple #[.int .u64 u, .nilIface]) ∧ Below w.heap.size w w' := hI
  clear h
  go_enter L.f14, BodyPu.n14_ntmps ρ
  go_wp2_with (go_at_fn (ρ.f 16); refine hI.mono ?_; rintro e W1 ⟨rfl, hW⟩)
  go_wp2
  go_ret2
  exact ⟨rfl, hW⟩

set_option maxHeartbeats 4000000 in
set_option maxRecDepth 100000 in
theorem parseUint63_form (L : LaysPu.n14 P ρ) (s : ByteArray) (hlim : s.size ≤ 281474976710656) (h : Lib.parseUintB 63 s.data.toList = Lib.parseUintB 63 []) (ev : Value) (w : World) (hv : w.cell? ⟨(ρ.g 0), 0, none⟩ = some ev) (hev : ev = .nilIface ∨ ∃ te pe, ev = .iface te pe) :
    Calls P (ρ.f 14) #[.string s, .int .i64 10, .int .i64 63] w fun e w' => ∃ v N, e = .returned (.tuple #[.int .u64 v, .iface (ρ.t 39) (.pointer (some ⟨N, 0, none⟩))]) ∧ Below w.heap.size w w' := by
  have mixed := L.mixed
  have t9 := L.t9; have a9 := L.a9; have z9 := L.z9; have v9 := L.v9
  have t3 := L.t3; have a3 := L.a3; have z3 := L.z3; have v3 := L.v3
  have t22 := L.t22; have a22 := L.a22; have z22 := L.z22; have v22 := L.v22
  have t24 := L.t24; have a24 := L.a24; have z24 := L.z24; have v24 := L.v24
  have t25 := L.t25; have a25 := L.a25; have z25 := L.z25; have v25 := L.v25
  have t4 := L.t4; have a4 := L.a4; have z4 := L.z4; have v4 := L.v4
  have e16 : ∀ args w, (callFunc (ρ.f 16) args).run P w = .ok (.enter (ρ.f 16) args) w := enters_of L.f16 (by kernel_rfl) rfl
  have e17 : ∀ args w, (callFunc (ρ.f 17) args).run P w = .ok (.enter (ρ.f 17) args) w := enters_of L.f17 (by kernel_rfl) rfl
  have hG : (ρ.g 0) < w.heap.size := Lib.lt_of_cell hv
  have hI := internalParseUint_at63 { L with } s (by omega) w
  rw [h] at hI
  have hI : Calls P (ρ.f 16) #[.string s, .int .i64 10, .int .i64 63] w fun e w' => e = .returned (.tuple #[.int .u64 0, .iface (ρ.t 34) (.int .i64 2)]) ∧ Below w.heap.size w w' := hI
  clear h
  go_enter L.f14, BodyPu.n14_ntmps ρ
  go_wp2_with (go_at_fn (ρ.f 16); refine hI.mono ?_)
  rintro e W1 ⟨rfl, hb1⟩
  have hv1 : W1.cell? ⟨(ρ.g 0), 0, none⟩ = some ev := (hb1.cell (show (⟨(ρ.g 0), 0, none⟩ : Addr).block < w.heap.size from hG)).trans hv
  go_wp2_with (go_at_fn (ρ.f 17); refine (AnyPu.strconv_toError_syntax { L with } ⟨#[80, 97, 114, 115, 101, 85, 105, 110, 116]⟩ s 10 63 ev _ hlim ?_ hev).mono ?_)
  · exact hv1
  rintro e W2 ⟨N, rfl, h1, h2, h3⟩
  go_wp2
  go_ret2
  exact ⟨_, N, rfl, hb1.trans (h3.mono hb1.size)⟩

set_option maxHeartbeats 4000000 in
set_option maxRecDepth 100000 in
theorem parseUint63_range (L : LaysPu.n14 P ρ) (s : ByteArray) (hlim : s.size ≤ 281474976710656) (h : Lib.parseUintB 63 s.data.toList = .range) (ev : Value) (w : World) (hv : w.cell? ⟨(ρ.g 1), 0, none⟩ = some ev) (hev : ev = .nilIface ∨ ∃ te pe, ev = .iface te pe) :
    Calls P (ρ.f 14) #[.string s, .int .i64 10, .int .i64 63] w fun e w' => ∃ v N, e = .returned (.tuple #[.int .u64 v, .iface (ρ.t 39) (.pointer (some ⟨N, 0, none⟩))]) ∧ Below w.heap.size w w' := by
  have mixed := L.mixed
  have t9 := L.t9; have a9 := L.a9; have z9 := L.z9; have v9 := L.v9
  have t3 := L.t3; have a3 := L.a3; have z3 := L.z3; have v3 := L.v3
  have t22 := L.t22; have a22 := L.a22; have z22 := L.z22; have v22 := L.v22
  have t24 := L.t24; have a24 := L.a24; have z24 := L.z24; have v24 := L.v24
  have t25 := L.t25; have a25 := L.a25; have z25 := L.z25; have v25 := L.v25
  have t4 := L.t4; have a4 := L.a4; have z4 := L.z4; have v4 := L.v4
  have e16 : ∀ args w, (callFunc (ρ.f 16) args).run P w = .ok (.enter (ρ.f 16) args) w := enters_of L.f16 (by kernel_rfl) rfl
  have e17 : ∀ args w, (callFunc (ρ.f 17) args).run P w = .ok (.enter (ρ.f 17) args) w := enters_of L.f17 (by kernel_rfl) rfl
  have hG : (ρ.g 1) < w.heap.size := Lib.lt_of_cell hv
  have hI := internalParseUint_at63 { L with } s (by omega) w
  rw [h] at hI
  have hI : Calls P (ρ.f 16) #[.string s, .int .i64 10, .int .i64 63] w fun e w' => e = .returned (.tuple #[.int .u64 9223372036854775807, .iface (ρ.t 34) (.int .i64 1)]) ∧ Below w.heap.size w w' := hI
  clear h
  go_enter L.f14, BodyPu.n14_ntmps ρ
  go_wp2_with (go_at_fn (ρ.f 16); refine hI.mono ?_)
  rintro e W1 ⟨rfl, hb1⟩
  have hv1 : W1.cell? ⟨(ρ.g 1), 0, none⟩ = some ev := (hb1.cell (show (⟨(ρ.g 1), 0, none⟩ : Addr).block < w.heap.size from hG)).trans hv
  go_wp2_with (go_at_fn (ρ.f 17); refine (AnyPu.strconv_toError_range { L with } ⟨#[80, 97, 114, 115, 101, 85, 105, 110, 116]⟩ s 10 63 ev _ hlim ?_ hev).mono ?_)
  · exact hv1
  rintro e W2 ⟨N, rfl, h1, h2, h3⟩
  go_wp2
  go_ret2
  exact ⟨_, N, rfl, hb1.trans (h3.mono hb1.size)⟩

/-- At the program: a number. -/
theorem parse_ok (s : ByteArray) (hmax : s.size ≤ 4096) (u : Nat) (h : Lib.parseUintB 63 s.data.toList = .ok u) (w : World) :
    Calls Ybaf.prog 22 #[.string s, .int .i64 10, .int .i64 63] w fun e w' => e = .returned (.tuple #[.int .u64 u, .nilIface]) ∧ Below w.heap.size w w' :=
  parseUint63_ok Ybaf.laysPu14 s (by omega) u h w

/-- The two variables hold an error each. -/
structure Errs (w : World) : Prop where
  syn : ∃ te pe, w.cell? ⟨0, 0, none⟩ = some (.iface te pe)
  ran : ∃ te pe, w.cell? ⟨1, 0, none⟩ = some (.iface te pe)

/-- At the program: no number of 63 bits. -/
theorem parse_err (s : ByteArray) (hmax : s.size ≤ 4096) (h : ∀ u, Lib.parseUintB 63 s.data.toList ≠ .ok u) (w : World) (hE : Errs w) :
    Calls Ybaf.prog 22 #[.string s, .int .i64 10, .int .i64 63] w fun e w' => ∃ v N, e = .returned (.tuple #[.int .u64 v, .iface 76 (.pointer (some ⟨N, 0, none⟩))]) ∧ Below w.heap.size w w' := by
  rcases hx : Lib.parseUintB 63 s.data.toList with u | _ | _
  · exact absurd hx (h u)
  · obtain ⟨te, pe, hc⟩ := hE.syn
    exact parseUint63_form Ybaf.laysPu14 s (by omega) (hx.trans rfl) _ w hc (Or.inr ⟨te, pe, rfl⟩)
  · obtain ⟨te, pe, hc⟩ := hE.ran
    exact parseUint63_range Ybaf.laysPu14 s (by omega) hx _ w hc (Or.inr ⟨te, pe, rfl⟩)

end Go.Proofs.YbulkbukyFmt
