/-
  LawS3547ARead: a third token that is no number.
-/
import Derived.Test.YbulkbukyFmtShare
namespace Go.Proofs.YbulkbukyFmt
open Go.RowKit

set_option maxHeartbeats 4000000 in
set_option maxRecDepth 100000 in
theorem law_3 (p : Option Addr) (n c k m : Nat) (l : List UInt8) (hk4 : (k : Int) % 4 = 3) (hn : n ≤ 1024) (w : World) (hl : l.length = n) (hL : Lies w p l) :
    Calls Ybaf.prog 3 #[.slice p n c, .int .u8 k, .int .u8 m] w fun e w' => e = .returned (.bool true) ∧ Below w.heap.size w w' := by
  have hmk := made_u8 n hn
  have hn' : (n : Int) ≤ 1024 := by omega
  have HL := hid hL
  have HW := hid (fill_start w l n hl)
  clear hL
  go_enter Ybaf.func3, Ybaf.ntmps3
  go_wp2
  go_loopw [32] (fun i wr => ∃ j : Nat, j ≤ n ∧ i = .int .i64 j ∧ Hid (Fill w l j wr)) (fun i _ => n - (intOf i).toNat)
  case atStart => exact ⟨0, by omega, rfl, HW.out⟩
  case round =>
    obtain ⟨j, hj, rfl, hI⟩ := hrel
    by_cases hjn : j < n
    · have hjl : j < l.length := by omega
      obtain ⟨g, o, rfl, hc⟩ := HL.out.byte hI.out.below j hjl
      have h0 := hI.out.rest j (Nat.le_refl _) hjl
      have hf := hI.out.froz j
      have HN := hid (hI.out.step hjl)
      have hb : (l[j]).toNat < 256 := (l[j]).toNat_lt
      generalize (l[j]).toNat = z at hc HN hb
      clear HW
      go_wp2
      go_roundw
      case rel => exact ⟨j + 1, by omega, by go_num, HN⟩
      case measure => simp [intOf]; omega
    · have hjn : j = n := by omega
      subst hjn
      subst hl
      have htx := hI.out.text
      have HB := hid hI.out.below
      clear HL HW hmk
      obtain ⟨T1, c1, w1, hr1, ht1, hb1⟩ := (toks0 wr).app' 4 (wr.heap.size + 1) rfl (alloc_size _ _).symm (by omega) (by omega) 0 ⟨#[]⟩ 13
      have HR1 := hid hr1
      have HT1 := hid ht1
      have HB1 := hid hb1
      clear hr1 ht1 hb1
      obtain ⟨T, cc, hS⟩ := slp_kind HT1.out (by omega) (by omega) headB 0 ⟨#[]⟩ 13 ([]) rfl (by decide) (by decide) (by decide) (by decide)
      have HS := hid hS
      clear hS
      go_wp2_with (at_builtin; first | refine Lib.wpList_append_run_sl _ rfl (.tmp 59) (.tmp 62) 26 rfl _ _ rfl rfl HR1.out ?_)
      refine HS.out.mono ?_
      rintro e wz ⟨N, rfl, hE, hP, hK⟩
      have hpos := hP.pos
      have HX := hid (err_same N headB msgKind 13 wz hE (by decide) (by decide))
      have HK := hid hK
      clear hE hP hK
      go_wp2_with (go_at_call 6; refine HX.out.mono ?_)
      rintro e wy ⟨rfl, ky, rfl⟩
      go_wp2
      go_ret
      exact ⟨rfl, fin HB.out HB1.out HK.out ky⟩

set_option maxHeartbeats 4000000 in
set_option maxRecDepth 100000 in
theorem law_1_0 (p : Option Addr) (n c k m : Nat) (l : List UInt8) (hk4 : (k : Int) % 4 = 1) (hm3 : (m : Int) % 3 = 0) (hn : n ≤ 1024) (w : World) (hl : l.length = n) (hL : Lies w p l) :
    Calls Ybaf.prog 3 #[.slice p n c, .int .u8 k, .int .u8 m] w fun e w' => e = .returned (.bool true) ∧ Below w.heap.size w w' := by
  have hmk := made_u8 n hn
  have hn' : (n : Int) ≤ 1024 := by omega
  have HL := hid hL
  have HW := hid (fill_start w l n hl)
  clear hL
  go_enter Ybaf.func3, Ybaf.ntmps3
  go_wp2
  go_loopw [32] (fun i wr => ∃ j : Nat, j ≤ n ∧ i = .int .i64 j ∧ Hid (Fill w l j wr)) (fun i _ => n - (intOf i).toNat)
  case atStart => exact ⟨0, by omega, rfl, HW.out⟩
  case round =>
    obtain ⟨j, hj, rfl, hI⟩ := hrel
    by_cases hjn : j < n
    · have hjl : j < l.length := by omega
      obtain ⟨g, o, rfl, hc⟩ := HL.out.byte hI.out.below j hjl
      have h0 := hI.out.rest j (Nat.le_refl _) hjl
      have hf := hI.out.froz j
      have HN := hid (hI.out.step hjl)
      have hb : (l[j]).toNat < 256 := (l[j]).toNat_lt
      generalize (l[j]).toNat = z at hc HN hb
      clear HW
      go_wp2
      go_roundw
      case rel => exact ⟨j + 1, by omega, by go_num, HN⟩
      case measure => simp [intOf]; omega
    · have hjn : j = n := by omega
      subst hjn
      subst hl
      have htx := hI.out.text
      have HB := hid hI.out.below
      clear HL HW hmk
      obtain ⟨T1, c1, w1, hr1, ht1, hb1⟩ := (toks0 wr).app' 4 (wr.heap.size + 1) rfl (alloc_size _ _).symm (by omega) (by omega) 1 ⟨#[120]⟩ 13
      have HR1 := hid hr1
      have HT1 := hid ht1
      have HB1 := hid hb1
      clear hr1 ht1 hb1
      obtain ⟨T2, c2, w2, hr2, ht2, hb2⟩ := HT1.out.app' 5 w1.heap.size rfl rfl (by omega) (by omega) 5 ⟨#[41]⟩ 14
      have HR2 := hid hr2
      have HT2 := hid ht2
      have HB2 := hid (HB1.out.trans hb2)
      clear hr2 ht2 hb2
      obtain ⟨T3, c3, w3, hr3, ht3, hb3⟩ := HT2.out.app' 6 w2.heap.size rfl rfl (by omega) (by omega) 0 ⟨#[]⟩ 15
      have HR3 := hid hr3
      have HT3 := hid ht3
      have HB3 := hid (HB2.out.trans hb3)
      clear hr3 ht3 hb3
      obtain ⟨T, cc, hS⟩ := slp_kind HT3.out (by omega) (by omega) (⟨#[83, 69, 76, 69, 67, 84, 32, 83, 76, 69, 69, 80, 40, 120, 41]⟩ : ByteArray) 1 ⟨#[120]⟩ 13 (tokc 5 ⟨#[41]⟩ 14 ++ tokc 0 ⟨#[]⟩ 15) rfl (by decide) (by decide) (by decide) (by decide)
      have HS := hid hS
      clear hS
      go_wp2_with (at_builtin; first | refine Lib.wpList_append_run_sl _ rfl (.tmp 77) (.tmp 80) 26 rfl _ _ rfl rfl HR1.out ?_ | refine Lib.wpList_append_run_sl _ rfl (.tmp 100) (.tmp 103) 26 rfl _ _ rfl rfl HR2.out ?_ | refine Lib.wpList_append_run_sl _ rfl (.tmp 116) (.tmp 120) 26 rfl _ _ rfl rfl HR3.out ?_)
      refine HS.out.mono ?_
      rintro e wz ⟨N, rfl, hE, hP, hK⟩
      have hpos := hP.pos
      have HX := hid (err_same N (⟨#[83, 69, 76, 69, 67, 84, 32, 83, 76, 69, 69, 80, 40, 120, 41]⟩ : ByteArray) msgKind 13 wz hE (by decide) (by decide))
      have HK := hid hK
      clear hE hP hK
      go_wp2_with (go_at_call 6; refine HX.out.mono ?_)
      rintro e wy ⟨rfl, ky, rfl⟩
      go_wp2
      go_ret
      exact ⟨rfl, fin HB.out HB3.out HK.out ky⟩

set_option maxHeartbeats 4000000 in
set_option maxRecDepth 100000 in
theorem law_1_1 (p : Option Addr) (n c k m : Nat) (l : List UInt8) (hk4 : (k : Int) % 4 = 1) (hm3 : (m : Int) % 3 = 1) (hn : n ≤ 1024) (w : World) (hl : l.length = n) (hL : Lies w p l) :
    Calls Ybaf.prog 3 #[.slice p n c, .int .u8 k, .int .u8 m] w fun e w' => e = .returned (.bool true) ∧ Below w.heap.size w w' := by
  have hmk := made_u8 n hn
  have hn' : (n : Int) ≤ 1024 := by omega
  have HL := hid hL
  have HW := hid (fill_start w l n hl)
  clear hL
  go_enter Ybaf.func3, Ybaf.ntmps3
  go_wp2
  go_loopw [32] (fun i wr => ∃ j : Nat, j ≤ n ∧ i = .int .i64 j ∧ Hid (Fill w l j wr)) (fun i _ => n - (intOf i).toNat)
  case atStart => exact ⟨0, by omega, rfl, HW.out⟩
  case round =>
    obtain ⟨j, hj, rfl, hI⟩ := hrel
    by_cases hjn : j < n
    · have hjl : j < l.length := by omega
      obtain ⟨g, o, rfl, hc⟩ := HL.out.byte hI.out.below j hjl
      have h0 := hI.out.rest j (Nat.le_refl _) hjl
      have hf := hI.out.froz j
      have HN := hid (hI.out.step hjl)
      have hb : (l[j]).toNat < 256 := (l[j]).toNat_lt
      generalize (l[j]).toNat = z at hc HN hb
      clear HW
      go_wp2
      go_roundw
      case rel => exact ⟨j + 1, by omega, by go_num, HN⟩
      case measure => simp [intOf]; omega
    · have hjn : j = n := by omega
      subst hjn
      subst hl
      have htx := hI.out.text
      have HB := hid hI.out.below
      clear HL HW hmk
      obtain ⟨T1, c1, w1, hr1, ht1, hb1⟩ := (toks0 wr).app' 4 (wr.heap.size + 1) rfl (alloc_size _ _).symm (by omega) (by omega) 1 ⟨#[120]⟩ 13
      have HR1 := hid hr1
      have HT1 := hid ht1
      have HB1 := hid hb1
      clear hr1 ht1 hb1
      obtain ⟨T2, c2, w2, hr2, ht2, hb2⟩ := HT1.out.app' 5 w1.heap.size rfl rfl (by omega) (by omega) 5 ⟨#[44]⟩ 14
      have HR2 := hid hr2
      have HT2 := hid ht2
      have HB2 := hid (HB1.out.trans hb2)
      clear hr2 ht2 hb2
      obtain ⟨T3, c3, w3, hr3, ht3, hb3⟩ := HT2.out.app' 6 w2.heap.size rfl rfl (by omega) (by omega) 0 ⟨#[]⟩ 15
      have HR3 := hid hr3
      have HT3 := hid ht3
      have HB3 := hid (HB2.out.trans hb3)
      clear hr3 ht3 hb3
      obtain ⟨T, cc, hS⟩ := slp_kind HT3.out (by omega) (by omega) (⟨#[83, 69, 76, 69, 67, 84, 32, 83, 76, 69, 69, 80, 40, 120, 44]⟩ : ByteArray) 1 ⟨#[120]⟩ 13 (tokc 5 ⟨#[44]⟩ 14 ++ tokc 0 ⟨#[]⟩ 15) rfl (by decide) (by decide) (by decide) (by decide)
      have HS := hid hS
      clear hS
      go_wp2_with (at_builtin; first | refine Lib.wpList_append_run_sl _ rfl (.tmp 77) (.tmp 80) 26 rfl _ _ rfl rfl HR1.out ?_ | refine Lib.wpList_append_run_sl _ rfl (.tmp 109) (.tmp 112) 26 rfl _ _ rfl rfl HR2.out ?_ | refine Lib.wpList_append_run_sl _ rfl (.tmp 116) (.tmp 120) 26 rfl _ _ rfl rfl HR3.out ?_)
      refine HS.out.mono ?_
      rintro e wz ⟨N, rfl, hE, hP, hK⟩
      have hpos := hP.pos
      have HX := hid (err_same N (⟨#[83, 69, 76, 69, 67, 84, 32, 83, 76, 69, 69, 80, 40, 120, 44]⟩ : ByteArray) msgKind 13 wz hE (by decide) (by decide))
      have HK := hid hK
      clear hE hP hK
      go_wp2_with (go_at_call 6; refine HX.out.mono ?_)
      rintro e wy ⟨rfl, ky, rfl⟩
      go_wp2
      go_ret
      exact ⟨rfl, fin HB.out HB3.out HK.out ky⟩

set_option maxHeartbeats 4000000 in
set_option maxRecDepth 100000 in
theorem law_1_2 (p : Option Addr) (n c k m : Nat) (l : List UInt8) (hk4 : (k : Int) % 4 = 1) (hm3 : (m : Int) % 3 = 2) (hn : n ≤ 1024) (w : World) (hl : l.length = n) (hL : Lies w p l) :
    Calls Ybaf.prog 3 #[.slice p n c, .int .u8 k, .int .u8 m] w fun e w' => e = .returned (.bool true) ∧ Below w.heap.size w w' := by
  have hmk := made_u8 n hn
  have hn' : (n : Int) ≤ 1024 := by omega
  have HL := hid hL
  have HW := hid (fill_start w l n hl)
  clear hL
  go_enter Ybaf.func3, Ybaf.ntmps3
  go_wp2
  go_loopw [32] (fun i wr => ∃ j : Nat, j ≤ n ∧ i = .int .i64 j ∧ Hid (Fill w l j wr)) (fun i _ => n - (intOf i).toNat)
  case atStart => exact ⟨0, by omega, rfl, HW.out⟩
  case round =>
    obtain ⟨j, hj, rfl, hI⟩ := hrel
    by_cases hjn : j < n
    · have hjl : j < l.length := by omega
      obtain ⟨g, o, rfl, hc⟩ := HL.out.byte hI.out.below j hjl
      have h0 := hI.out.rest j (Nat.le_refl _) hjl
      have hf := hI.out.froz j
      have HN := hid (hI.out.step hjl)
      have hb : (l[j]).toNat < 256 := (l[j]).toNat_lt
      generalize (l[j]).toNat = z at hc HN hb
      clear HW
      go_wp2
      go_roundw
      case rel => exact ⟨j + 1, by omega, by go_num, HN⟩
      case measure => simp [intOf]; omega
    · have hjn : j = n := by omega
      subst hjn
      subst hl
      have htx := hI.out.text
      have HB := hid hI.out.below
      clear HL HW hmk
      obtain ⟨T1, c1, w1, hr1, ht1, hb1⟩ := (toks0 wr).app' 4 (wr.heap.size + 1) rfl (alloc_size _ _).symm (by omega) (by omega) 1 ⟨#[120]⟩ 13
      have HR1 := hid hr1
      have HT1 := hid ht1
      have HB1 := hid hb1
      clear hr1 ht1 hb1
      obtain ⟨T2, c2, w2, hr2, ht2, hb2⟩ := HT1.out.app' 5 w1.heap.size rfl rfl (by omega) (by omega) 0 ⟨#[]⟩ 14
      have HR2 := hid hr2
      have HT2 := hid ht2
      have HB2 := hid (HB1.out.trans hb2)
      clear hr2 ht2 hb2
      obtain ⟨T, cc, hS⟩ := slp_kind HT2.out (by omega) (by omega) (⟨#[83, 69, 76, 69, 67, 84, 32, 83, 76, 69, 69, 80, 40, 120]⟩ : ByteArray) 1 ⟨#[120]⟩ 13 (tokc 0 ⟨#[]⟩ 14) rfl (by decide) (by decide) (by decide) (by decide)
      have HS := hid hS
      clear hS
      go_wp2_with (at_builtin; first | refine Lib.wpList_append_run_sl _ rfl (.tmp 77) (.tmp 80) 26 rfl _ _ rfl rfl HR1.out ?_ | refine Lib.wpList_append_run_sl _ rfl (.tmp 116) (.tmp 120) 26 rfl _ _ rfl rfl HR2.out ?_)
      refine HS.out.mono ?_
      rintro e wz ⟨N, rfl, hE, hP, hK⟩
      have hpos := hP.pos
      have HX := hid (err_same N (⟨#[83, 69, 76, 69, 67, 84, 32, 83, 76, 69, 69, 80, 40, 120]⟩ : ByteArray) msgKind 13 wz hE (by decide) (by decide))
      have HK := hid hK
      clear hE hP hK
      go_wp2_with (go_at_call 6; refine HX.out.mono ?_)
      rintro e wy ⟨rfl, ky, rfl⟩
      go_wp2
      go_ret
      exact ⟨rfl, fin HB.out HB2.out HK.out ky⟩

set_option maxHeartbeats 4000000 in
set_option maxRecDepth 100000 in
theorem law_2_0 (p : Option Addr) (n c k m : Nat) (l : List UInt8) (hk4 : (k : Int) % 4 = 2) (hm3 : (m : Int) % 3 = 0) (hn : n ≤ 1024) (w : World) (hl : l.length = n) (hL : Lies w p l) :
    Calls Ybaf.prog 3 #[.slice p n c, .int .u8 k, .int .u8 m] w fun e w' => e = .returned (.bool true) ∧ Below w.heap.size w w' := by
  have hmk := made_u8 n hn
  have hn' : (n : Int) ≤ 1024 := by omega
  have HL := hid hL
  have HW := hid (fill_start w l n hl)
  clear hL
  go_enter Ybaf.func3, Ybaf.ntmps3
  go_wp2
  go_loopw [32] (fun i wr => ∃ j : Nat, j ≤ n ∧ i = .int .i64 j ∧ Hid (Fill w l j wr)) (fun i _ => n - (intOf i).toNat)
  case atStart => exact ⟨0, by omega, rfl, HW.out⟩
  case round =>
    obtain ⟨j, hj, rfl, hI⟩ := hrel
    by_cases hjn : j < n
    · have hjl : j < l.length := by omega
      obtain ⟨g, o, rfl, hc⟩ := HL.out.byte hI.out.below j hjl
      have h0 := hI.out.rest j (Nat.le_refl _) hjl
      have hf := hI.out.froz j
      have HN := hid (hI.out.step hjl)
      have hb : (l[j]).toNat < 256 := (l[j]).toNat_lt
      generalize (l[j]).toNat = z at hc HN hb
      clear HW
      go_wp2
      go_roundw
      case rel => exact ⟨j + 1, by omega, by go_num, HN⟩
      case measure => simp [intOf]; omega
    · have hjn : j = n := by omega
      subst hjn
      subst hl
      have htx := hI.out.text
      have HB := hid hI.out.below
      clear HL HW hmk
      obtain ⟨T1, c1, w1, hr1, ht1, hb1⟩ := (toks0 wr).app' 4 (wr.heap.size + 1) rfl (alloc_size _ _).symm (by omega) (by omega) 5 ⟨#[41]⟩ 13
      have HR1 := hid hr1
      have HT1 := hid ht1
      have HB1 := hid hb1
      clear hr1 ht1 hb1
      obtain ⟨T2, c2, w2, hr2, ht2, hb2⟩ := HT1.out.app' 5 w1.heap.size rfl rfl (by omega) (by omega) 5 ⟨#[41]⟩ 14
      have HR2 := hid hr2
      have HT2 := hid ht2
      have HB2 := hid (HB1.out.trans hb2)
      clear hr2 ht2 hb2
      obtain ⟨T3, c3, w3, hr3, ht3, hb3⟩ := HT2.out.app' 6 w2.heap.size rfl rfl (by omega) (by omega) 0 ⟨#[]⟩ 15
      have HR3 := hid hr3
      have HT3 := hid ht3
      have HB3 := hid (HB2.out.trans hb3)
      clear hr3 ht3 hb3
      obtain ⟨T, cc, hS⟩ := slp_kind HT3.out (by omega) (by omega) (⟨#[83, 69, 76, 69, 67, 84, 32, 83, 76, 69, 69, 80, 40, 41, 41]⟩ : ByteArray) 5 ⟨#[41]⟩ 13 (tokc 5 ⟨#[41]⟩ 14 ++ tokc 0 ⟨#[]⟩ 15) rfl (by decide) (by decide) (by decide) (by decide)
      have HS := hid hS
      clear hS
      go_wp2_with (at_builtin; first | refine Lib.wpList_append_run_sl _ rfl (.tmp 86) (.tmp 89) 26 rfl _ _ rfl rfl HR1.out ?_ | refine Lib.wpList_append_run_sl _ rfl (.tmp 100) (.tmp 103) 26 rfl _ _ rfl rfl HR2.out ?_ | refine Lib.wpList_append_run_sl _ rfl (.tmp 116) (.tmp 120) 26 rfl _ _ rfl rfl HR3.out ?_)
      refine HS.out.mono ?_
      rintro e wz ⟨N, rfl, hE, hP, hK⟩
      have hpos := hP.pos
      have HX := hid (err_same N (⟨#[83, 69, 76, 69, 67, 84, 32, 83, 76, 69, 69, 80, 40, 41, 41]⟩ : ByteArray) msgKind 13 wz hE (by decide) (by decide))
      have HK := hid hK
      clear hE hP hK
      go_wp2_with (go_at_call 6; refine HX.out.mono ?_)
      rintro e wy ⟨rfl, ky, rfl⟩
      go_wp2
      go_ret
      exact ⟨rfl, fin HB.out HB3.out HK.out ky⟩

set_option maxHeartbeats 4000000 in
set_option maxRecDepth 100000 in
theorem law_2_1 (p : Option Addr) (n c k m : Nat) (l : List UInt8) (hk4 : (k : Int) % 4 = 2) (hm3 : (m : Int) % 3 = 1) (hn : n ≤ 1024) (w : World) (hl : l.length = n) (hL : Lies w p l) :
    Calls Ybaf.prog 3 #[.slice p n c, .int .u8 k, .int .u8 m] w fun e w' => e = .returned (.bool true) ∧ Below w.heap.size w w' := by
  have hmk := made_u8 n hn
  have hn' : (n : Int) ≤ 1024 := by omega
  have HL := hid hL
  have HW := hid (fill_start w l n hl)
  clear hL
  go_enter Ybaf.func3, Ybaf.ntmps3
  go_wp2
  go_loopw [32] (fun i wr => ∃ j : Nat, j ≤ n ∧ i = .int .i64 j ∧ Hid (Fill w l j wr)) (fun i _ => n - (intOf i).toNat)
  case atStart => exact ⟨0, by omega, rfl, HW.out⟩
  case round =>
    obtain ⟨j, hj, rfl, hI⟩ := hrel
    by_cases hjn : j < n
    · have hjl : j < l.length := by omega
      obtain ⟨g, o, rfl, hc⟩ := HL.out.byte hI.out.below j hjl
      have h0 := hI.out.rest j (Nat.le_refl _) hjl
      have hf := hI.out.froz j
      have HN := hid (hI.out.step hjl)
      have hb : (l[j]).toNat < 256 := (l[j]).toNat_lt
      generalize (l[j]).toNat = z at hc HN hb
      clear HW
      go_wp2
      go_roundw
      case rel => exact ⟨j + 1, by omega, by go_num, HN⟩
      case measure => simp [intOf]; omega
    · have hjn : j = n := by omega
      subst hjn
      subst hl
      have htx := hI.out.text
      have HB := hid hI.out.below
      clear HL HW hmk
      obtain ⟨T1, c1, w1, hr1, ht1, hb1⟩ := (toks0 wr).app' 4 (wr.heap.size + 1) rfl (alloc_size _ _).symm (by omega) (by omega) 5 ⟨#[41]⟩ 13
      have HR1 := hid hr1
      have HT1 := hid ht1
      have HB1 := hid hb1
      clear hr1 ht1 hb1
      obtain ⟨T2, c2, w2, hr2, ht2, hb2⟩ := HT1.out.app' 5 w1.heap.size rfl rfl (by omega) (by omega) 5 ⟨#[44]⟩ 14
      have HR2 := hid hr2
      have HT2 := hid ht2
      have HB2 := hid (HB1.out.trans hb2)
      clear hr2 ht2 hb2
      obtain ⟨T3, c3, w3, hr3, ht3, hb3⟩ := HT2.out.app' 6 w2.heap.size rfl rfl (by omega) (by omega) 0 ⟨#[]⟩ 15
      have HR3 := hid hr3
      have HT3 := hid ht3
      have HB3 := hid (HB2.out.trans hb3)
      clear hr3 ht3 hb3
      obtain ⟨T, cc, hS⟩ := slp_kind HT3.out (by omega) (by omega) (⟨#[83, 69, 76, 69, 67, 84, 32, 83, 76, 69, 69, 80, 40, 41, 44]⟩ : ByteArray) 5 ⟨#[41]⟩ 13 (tokc 5 ⟨#[44]⟩ 14 ++ tokc 0 ⟨#[]⟩ 15) rfl (by decide) (by decide) (by decide) (by decide)
      have HS := hid hS
      clear hS
      go_wp2_with (at_builtin; first | refine Lib.wpList_append_run_sl _ rfl (.tmp 86) (.tmp 89) 26 rfl _ _ rfl rfl HR1.out ?_ | refine Lib.wpList_append_run_sl _ rfl (.tmp 109) (.tmp 112) 26 rfl _ _ rfl rfl HR2.out ?_ | refine Lib.wpList_append_run_sl _ rfl (.tmp 116) (.tmp 120) 26 rfl _ _ rfl rfl HR3.out ?_)
      refine HS.out.mono ?_
      rintro e wz ⟨N, rfl, hE, hP, hK⟩
      have hpos := hP.pos
      have HX := hid (err_same N (⟨#[83, 69, 76, 69, 67, 84, 32, 83, 76, 69, 69, 80, 40, 41, 44]⟩ : ByteArray) msgKind 13 wz hE (by decide) (by decide))
      have HK := hid hK
      clear hE hP hK
      go_wp2_with (go_at_call 6; refine HX.out.mono ?_)
      rintro e wy ⟨rfl, ky, rfl⟩
      go_wp2
      go_ret
      exact ⟨rfl, fin HB.out HB3.out HK.out ky⟩

set_option maxHeartbeats 4000000 in
set_option maxRecDepth 100000 in
theorem law_2_2 (p : Option Addr) (n c k m : Nat) (l : List UInt8) (hk4 : (k : Int) % 4 = 2) (hm3 : (m : Int) % 3 = 2) (hn : n ≤ 1024) (w : World) (hl : l.length = n) (hL : Lies w p l) :
    Calls Ybaf.prog 3 #[.slice p n c, .int .u8 k, .int .u8 m] w fun e w' => e = .returned (.bool true) ∧ Below w.heap.size w w' := by
  have hmk := made_u8 n hn
  have hn' : (n : Int) ≤ 1024 := by omega
  have HL := hid hL
  have HW := hid (fill_start w l n hl)
  clear hL
  go_enter Ybaf.func3, Ybaf.ntmps3
  go_wp2
  go_loopw [32] (fun i wr => ∃ j : Nat, j ≤ n ∧ i = .int .i64 j ∧ Hid (Fill w l j wr)) (fun i _ => n - (intOf i).toNat)
  case atStart => exact ⟨0, by omega, rfl, HW.out⟩
  case round =>
    obtain ⟨j, hj, rfl, hI⟩ := hrel
    by_cases hjn : j < n
    · have hjl : j < l.length := by omega
      obtain ⟨g, o, rfl, hc⟩ := HL.out.byte hI.out.below j hjl
      have h0 := hI.out.rest j (Nat.le_refl _) hjl
      have hf := hI.out.froz j
      have HN := hid (hI.out.step hjl)
      have hb : (l[j]).toNat < 256 := (l[j]).toNat_lt
      generalize (l[j]).toNat = z at hc HN hb
      clear HW
      go_wp2
      go_roundw
      case rel => exact ⟨j + 1, by omega, by go_num, HN⟩
      case measure => simp [intOf]; omega
    · have hjn : j = n := by omega
      subst hjn
      subst hl
      have htx := hI.out.text
      have HB := hid hI.out.below
      clear HL HW hmk
      obtain ⟨T1, c1, w1, hr1, ht1, hb1⟩ := (toks0 wr).app' 4 (wr.heap.size + 1) rfl (alloc_size _ _).symm (by omega) (by omega) 5 ⟨#[41]⟩ 13
      have HR1 := hid hr1
      have HT1 := hid ht1
      have HB1 := hid hb1
      clear hr1 ht1 hb1
      obtain ⟨T2, c2, w2, hr2, ht2, hb2⟩ := HT1.out.app' 5 w1.heap.size rfl rfl (by omega) (by omega) 0 ⟨#[]⟩ 14
      have HR2 := hid hr2
      have HT2 := hid ht2
      have HB2 := hid (HB1.out.trans hb2)
      clear hr2 ht2 hb2
      obtain ⟨T, cc, hS⟩ := slp_kind HT2.out (by omega) (by omega) (⟨#[83, 69, 76, 69, 67, 84, 32, 83, 76, 69, 69, 80, 40, 41]⟩ : ByteArray) 5 ⟨#[41]⟩ 13 (tokc 0 ⟨#[]⟩ 14) rfl (by decide) (by decide) (by decide) (by decide)
      have HS := hid hS
      clear hS
      go_wp2_with (at_builtin; first | refine Lib.wpList_append_run_sl _ rfl (.tmp 86) (.tmp 89) 26 rfl _ _ rfl rfl HR1.out ?_ | refine Lib.wpList_append_run_sl _ rfl (.tmp 116) (.tmp 120) 26 rfl _ _ rfl rfl HR2.out ?_)
      refine HS.out.mono ?_
      rintro e wz ⟨N, rfl, hE, hP, hK⟩
      have hpos := hP.pos
      have HX := hid (err_same N (⟨#[83, 69, 76, 69, 67, 84, 32, 83, 76, 69, 69, 80, 40, 41]⟩ : ByteArray) msgKind 13 wz hE (by decide) (by decide))
      have HK := hid hK
      clear hE hP hK
      go_wp2_with (go_at_call 6; refine HX.out.mono ?_)
      rintro e wy ⟨rfl, ky, rfl⟩
      go_wp2
      go_ret
      exact ⟨rfl, fin HB.out HB2.out HK.out ky⟩

end Go.Proofs.YbulkbukyFmt
