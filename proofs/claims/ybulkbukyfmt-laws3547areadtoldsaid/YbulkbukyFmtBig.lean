/-
  LawS3547ARead: a third token of digits.
-/
import Derived.Test.YbulkbukyFmtShare2
namespace Go.Proofs.YbulkbukyFmt
open Go.RowKit

set_option maxHeartbeats 4000000 in
set_option maxRecDepth 100000 in
theorem law_big_0 (p : Option Addr) (n c k m : Nat) (l : List UInt8) (hk4 : (k : Int) % 4 = 0) (hm3 : (m : Int) % 3 = 0) (hn : n ≤ 1024) (w : World) (hl : l.length = n) (hL : Lies w p l) (hE : Errs w) (hbad : ∀ u, Lib.parseUintB 63 (digits l).data.toList ≠ .ok u) :
    Calls Ybaf.prog 3 #[.slice p n c, .int .u8 k, .int .u8 m] w fun e w' => e = .returned (.bool true) ∧ Below w.heap.size w w' := by
  have hmk := made_u8 n hn
  have hn' : (n : Int) ≤ 1024 := by omega
  have HL := hid hL
  have HW := hid (fill_start w l n hl)
  have HE := hid hE
  have HBad := hid hbad
  clear hE hbad
  clear hL
  go_enter Ybaf.func3, Ybaf.ntmps3
  go_wp2
  go_loopw [32] (fun i wr => ∃ j : Nat, j ≤ n ∧ i = .int .i64 j ∧ Hid (Fill w l j wr)) (fun i _ => n - (intOf i).toNat)
  case atStart => exact ⟨0, by omega, rfl, HW.out⟩
  case round =>
    obtain ⟨j, hj, rfl, hI⟩ := hrel
    by_cases hjn : j < n
    · have hjl : j < l.length := by omega
      obtain ⟨g, o, rfl, hc⟩ := HL.out.byte hI.out.below j hjl
      have h0 := hI.out.rest j (Nat.le_refl _) hjl
      have hf := hI.out.froz j
      have HN := hid (hI.out.step hjl)
      have hb : (l[j]).toNat < 256 := (l[j]).toNat_lt
      generalize (l[j]).toNat = z at hc HN hb
      clear HW
      go_wp2
      go_roundw
      case rel => exact ⟨j + 1, by omega, by go_num, HN⟩
      case measure => simp [intOf]; omega
    · have hjn : j = n := by omega
      subst hjn
      subst hl
      have htx := hI.out.text
      have HB := hid hI.out.below
      clear HL HW hmk
      have hds := digits_size l
      obtain ⟨q, hq⟩ : ∃ q : Nat, q = 13 + l.length := ⟨_, rfl⟩
      obtain ⟨q2, hq2⟩ : ∃ q2 : Nat, q2 = q + 1 := ⟨_, rfl⟩
      have hqi : (13 : Int) + (l.length : Int) = (q : Int) := by omega
      have hqj : (q : Int) + 1 = (q2 : Int) := by omega
      obtain ⟨T1, c1, w1, hr1, ht1, hb1⟩ := (toks0 wr).app' 4 (wr.heap.size + 1) rfl (alloc_size _ _).symm (by omega) (by omega) 3 (digits l) 13
      have HR1 := hid hr1
      have HT1 := hid ht1
      have HB1 := hid hb1
      clear hr1 ht1 hb1
      obtain ⟨T2, c2, w2, hr2, ht2, hb2⟩ := HT1.out.app' 5 w1.heap.size rfl rfl (by omega) (by omega) 5 ⟨#[41]⟩ q
      have HR2 := hid hr2
      have HT2 := hid ht2
      have HB2 := hid (HB1.out.trans hb2)
      clear hr2 ht2 hb2
      obtain ⟨T3, c3, w3, hr3, ht3, hb3⟩ := HT2.out.app' 6 w2.heap.size rfl rfl (by omega) (by omega) 0 ⟨#[]⟩ q2
      have HR3 := hid hr3
      have HT3 := hid ht3
      have HB3 := hid (HB2.out.trans hb3)
      clear hr3 ht3 hb3
      have hsz : (srcB l ++ ⟨#[41]⟩).size ≤ 4096 := by rw [src1_size]; omega
      have hsz3 : 13 ≤ (srcB l ++ ⟨#[41]⟩).size := by rw [src1_size]; omega
      obtain ⟨T, cc, hS⟩ := slp_big HT3.out (by omega) (by omega) (srcB l ++ ⟨#[41]⟩) (digits l) 13 (tokc 5 ⟨#[41]⟩ q ++ tokc 0 ⟨#[]⟩ q2) rfl (by rw [digits_size]; omega) HBad.out (HE.out.below (bel HB.out HB3.out)) (Nat.le_trans (errs_two HE.out) (bel HB.out HB3.out).size) hsz3 hsz (ascii_src1 l 41 (by decide))
      have HS := hid hS
      have HV := hid (fun W : World => value_bad l hn HBad.out W)
      have HZ := hid hsz
      have HZ3 := hid hsz3
      clear hS hsz hsz3 hq hq2
      go_wp2_with (at_builtin; first | refine Lib.wpList_append_run_sl _ rfl (.tmp 66) (.tmp 70) 26 rfl _ _ rfl rfl HR1.out ?_ | refine Lib.wpList_append_run_sl _ rfl (.tmp 100) (.tmp 103) 26 rfl _ _ rfl rfl HR2.out ?_ | refine Lib.wpList_append_run_sl _ rfl (.tmp 116) (.tmp 120) 26 rfl _ _ rfl rfl HR3.out ?_)
      refine HS.out.mono ?_
      rintro e wz ⟨N, rfl, hE, hP, hK⟩
      have hpos := hP.pos
      have HX := hid (err_same N (srcB l ++ ⟨#[41]⟩) msgBig 13 wz hE HZ3.out HZ.out)
      have HK := hid hK
      clear hE hP hK
      go_wp2_with (go_at_call 7; refine (HV.out _).mono ?_)
      rintro e wx ⟨rfl, rfl⟩
      go_wp2_with (go_at_call 6; refine HX.out.mono ?_)
      rintro e wy ⟨rfl, ky, rfl⟩
      go_wp2
      go_ret
      exact ⟨rfl, fin HB.out HB3.out HK.out ky⟩

set_option maxHeartbeats 4000000 in
set_option maxRecDepth 100000 in
theorem law_big_1 (p : Option Addr) (n c k m : Nat) (l : List UInt8) (hk4 : (k : Int) % 4 = 0) (hm3 : (m : Int) % 3 = 1) (hn : n ≤ 1024) (w : World) (hl : l.length = n) (hL : Lies w p l) (hE : Errs w) (hbad : ∀ u, Lib.parseUintB 63 (digits l).data.toList ≠ .ok u) :
    Calls Ybaf.prog 3 #[.slice p n c, .int .u8 k, .int .u8 m] w fun e w' => e = .returned (.bool true) ∧ Below w.heap.size w w' := by
  have hmk := made_u8 n hn
  have hn' : (n : Int) ≤ 1024 := by omega
  have HL := hid hL
  have HW := hid (fill_start w l n hl)
  have HE := hid hE
  have HBad := hid hbad
  clear hE hbad
  clear hL
  go_enter Ybaf.func3, Ybaf.ntmps3
  go_wp2
  go_loopw [32] (fun i wr => ∃ j : Nat, j ≤ n ∧ i = .int .i64 j ∧ Hid (Fill w l j wr)) (fun i _ => n - (intOf i).toNat)
  case atStart => exact ⟨0, by omega, rfl, HW.out⟩
  case round =>
    obtain ⟨j, hj, rfl, hI⟩ := hrel
    by_cases hjn : j < n
    · have hjl : j < l.length := by omega
      obtain ⟨g, o, rfl, hc⟩ := HL.out.byte hI.out.below j hjl
      have h0 := hI.out.rest j (Nat.le_refl _) hjl
      have hf := hI.out.froz j
      have HN := hid (hI.out.step hjl)
      have hb : (l[j]).toNat < 256 := (l[j]).toNat_lt
      generalize (l[j]).toNat = z at hc HN hb
      clear HW
      go_wp2
      go_roundw
      case rel => exact ⟨j + 1, by omega, by go_num, HN⟩
      case measure => simp [intOf]; omega
    · have hjn : j = n := by omega
      subst hjn
      subst hl
      have htx := hI.out.text
      have HB := hid hI.out.below
      clear HL HW hmk
      have hds := digits_size l
      obtain ⟨q, hq⟩ : ∃ q : Nat, q = 13 + l.length := ⟨_, rfl⟩
      obtain ⟨q2, hq2⟩ : ∃ q2 : Nat, q2 = q + 1 := ⟨_, rfl⟩
      have hqi : (13 : Int) + (l.length : Int) = (q : Int) := by omega
      have hqj : (q : Int) + 1 = (q2 : Int) := by omega
      obtain ⟨T1, c1, w1, hr1, ht1, hb1⟩ := (toks0 wr).app' 4 (wr.heap.size + 1) rfl (alloc_size _ _).symm (by omega) (by omega) 3 (digits l) 13
      have HR1 := hid hr1
      have HT1 := hid ht1
      have HB1 := hid hb1
      clear hr1 ht1 hb1
      obtain ⟨T2, c2, w2, hr2, ht2, hb2⟩ := HT1.out.app' 5 w1.heap.size rfl rfl (by omega) (by omega) 5 ⟨#[44]⟩ q
      have HR2 := hid hr2
      have HT2 := hid ht2
      have HB2 := hid (HB1.out.trans hb2)
      clear hr2 ht2 hb2
      obtain ⟨T3, c3, w3, hr3, ht3, hb3⟩ := HT2.out.app' 6 w2.heap.size rfl rfl (by omega) (by omega) 0 ⟨#[]⟩ q2
      have HR3 := hid hr3
      have HT3 := hid ht3
      have HB3 := hid (HB2.out.trans hb3)
      clear hr3 ht3 hb3
      have hsz : (srcB l ++ ⟨#[44]⟩).size ≤ 4096 := by rw [src1_size]; omega
      have hsz3 : 13 ≤ (srcB l ++ ⟨#[44]⟩).size := by rw [src1_size]; omega
      obtain ⟨T, cc, hS⟩ := slp_big HT3.out (by omega) (by omega) (srcB l ++ ⟨#[44]⟩) (digits l) 13 (tokc 5 ⟨#[44]⟩ q ++ tokc 0 ⟨#[]⟩ q2) rfl (by rw [digits_size]; omega) HBad.out (HE.out.below (bel HB.out HB3.out)) (Nat.le_trans (errs_two HE.out) (bel HB.out HB3.out).size) hsz3 hsz (ascii_src1 l 44 (by decide))
      have HS := hid hS
      have HV := hid (fun W : World => value_bad l hn HBad.out W)
      have HZ := hid hsz
      have HZ3 := hid hsz3
      clear hS hsz hsz3 hq hq2
      go_wp2_with (at_builtin; first | refine Lib.wpList_append_run_sl _ rfl (.tmp 66) (.tmp 70) 26 rfl _ _ rfl rfl HR1.out ?_ | refine Lib.wpList_append_run_sl _ rfl (.tmp 109) (.tmp 112) 26 rfl _ _ rfl rfl HR2.out ?_ | refine Lib.wpList_append_run_sl _ rfl (.tmp 116) (.tmp 120) 26 rfl _ _ rfl rfl HR3.out ?_)
      refine HS.out.mono ?_
      rintro e wz ⟨N, rfl, hE, hP, hK⟩
      have hpos := hP.pos
      have HX := hid (err_same N (srcB l ++ ⟨#[44]⟩) msgBig 13 wz hE HZ3.out HZ.out)
      have HK := hid hK
      clear hE hP hK
      go_wp2_with (go_at_call 7; refine (HV.out _).mono ?_)
      rintro e wx ⟨rfl, rfl⟩
      go_wp2_with (go_at_call 6; refine HX.out.mono ?_)
      rintro e wy ⟨rfl, ky, rfl⟩
      go_wp2
      go_ret
      exact ⟨rfl, fin HB.out HB3.out HK.out ky⟩

set_option maxHeartbeats 4000000 in
set_option maxRecDepth 100000 in
theorem law_big_2 (p : Option Addr) (n c k m : Nat) (l : List UInt8) (hk4 : (k : Int) % 4 = 0) (hm3 : (m : Int) % 3 = 2) (hn : n ≤ 1024) (w : World) (hl : l.length = n) (hL : Lies w p l) (hE : Errs w) (hbad : ∀ u, Lib.parseUintB 63 (digits l).data.toList ≠ .ok u) :
    Calls Ybaf.prog 3 #[.slice p n c, .int .u8 k, .int .u8 m] w fun e w' => e = .returned (.bool true) ∧ Below w.heap.size w w' := by
  have hmk := made_u8 n hn
  have hn' : (n : Int) ≤ 1024 := by omega
  have HL := hid hL
  have HW := hid (fill_start w l n hl)
  have HE := hid hE
  have HBad := hid hbad
  clear hE hbad
  clear hL
  go_enter Ybaf.func3, Ybaf.ntmps3
  go_wp2
  go_loopw [32] (fun i wr => ∃ j : Nat, j ≤ n ∧ i = .int .i64 j ∧ Hid (Fill w l j wr)) (fun i _ => n - (intOf i).toNat)
  case atStart => exact ⟨0, by omega, rfl, HW.out⟩
  case round =>
    obtain ⟨j, hj, rfl, hI⟩ := hrel
    by_cases hjn : j < n
    · have hjl : j < l.length := by omega
      obtain ⟨g, o, rfl, hc⟩ := HL.out.byte hI.out.below j hjl
      have h0 := hI.out.rest j (Nat.le_refl _) hjl
      have hf := hI.out.froz j
      have HN := hid (hI.out.step hjl)
      have hb : (l[j]).toNat < 256 := (l[j]).toNat_lt
      generalize (l[j]).toNat = z at hc HN hb
      clear HW
      go_wp2
      go_roundw
      case rel => exact ⟨j + 1, by omega, by go_num, HN⟩
      case measure => simp [intOf]; omega
    · have hjn : j = n := by omega
      subst hjn
      subst hl
      have htx := hI.out.text
      have HB := hid hI.out.below
      clear HL HW hmk
      have hds := digits_size l
      obtain ⟨q, hq⟩ : ∃ q : Nat, q = 13 + l.length := ⟨_, rfl⟩
      obtain ⟨q2, hq2⟩ : ∃ q2 : Nat, q2 = q + 1 := ⟨_, rfl⟩
      have hqi : (13 : Int) + (l.length : Int) = (q : Int) := by omega
      have hqj : (q : Int) + 1 = (q2 : Int) := by omega
      obtain ⟨T1, c1, w1, hr1, ht1, hb1⟩ := (toks0 wr).app' 4 (wr.heap.size + 1) rfl (alloc_size _ _).symm (by omega) (by omega) 3 (digits l) 13
      have HR1 := hid hr1
      have HT1 := hid ht1
      have HB1 := hid hb1
      clear hr1 ht1 hb1
      obtain ⟨T2, c2, w2, hr2, ht2, hb2⟩ := HT1.out.app' 5 w1.heap.size rfl rfl (by omega) (by omega) 0 ⟨#[]⟩ q
      have HR2 := hid hr2
      have HT2 := hid ht2
      have HB2 := hid (HB1.out.trans hb2)
      clear hr2 ht2 hb2
      have hsz : (srcB l).size ≤ 4096 := by rw [src_size]; omega
      have hsz3 : 13 ≤ (srcB l).size := by rw [src_size]; omega
      obtain ⟨T, cc, hS⟩ := slp_big HT2.out (by omega) (by omega) (srcB l) (digits l) 13 (tokc 0 ⟨#[]⟩ q) rfl (by rw [digits_size]; omega) HBad.out (HE.out.below (bel HB.out HB2.out)) (Nat.le_trans (errs_two HE.out) (bel HB.out HB2.out).size) hsz3 hsz (ascii_src l)
      have HS := hid hS
      have HV := hid (fun W : World => value_bad l hn HBad.out W)
      have HZ := hid hsz
      have HZ3 := hid hsz3
      clear hS hsz hsz3 hq hq2
      go_wp2_with (at_builtin; first | refine Lib.wpList_append_run_sl _ rfl (.tmp 66) (.tmp 70) 26 rfl _ _ rfl rfl HR1.out ?_ | refine Lib.wpList_append_run_sl _ rfl (.tmp 116) (.tmp 120) 26 rfl _ _ rfl rfl HR2.out ?_)
      refine HS.out.mono ?_
      rintro e wz ⟨N, rfl, hE, hP, hK⟩
      have hpos := hP.pos
      have HX := hid (err_same N (srcB l) msgBig 13 wz hE HZ3.out HZ.out)
      have HK := hid hK
      clear hE hP hK
      go_wp2_with (go_at_call 7; refine (HV.out _).mono ?_)
      rintro e wx ⟨rfl, rfl⟩
      go_wp2_with (go_at_call 6; refine HX.out.mono ?_)
      rintro e wy ⟨rfl, ky, rfl⟩
      go_wp2
      go_ret
      exact ⟨rfl, fin HB.out HB2.out HK.out ky⟩

end Go.Proofs.YbulkbukyFmt
