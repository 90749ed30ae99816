/-
  The signature does not fit: the Builder fails, encode wraps the error.
-/
import Derived.Test.YbulkbujwFmtFmt
import Derived.Deep.QuietTactic
import Derived.BigQuiet
namespace Go.Proofs.YbulkbujwFmt
open Go.RowKit Go.Extern.Stop Go.Stop Go.Extern

/-- The Builder at block D has failed: its error, of errors.New's make, lies in memory. -/
def BadB (D : Nat) (w w' : World) : Prop := ∃ E s, w'.cell? ⟨D, 1, none⟩ = some (.iface 99 (.pointer (some ⟨E, 0, none⟩))) ∧ w'.cell? ⟨E, 0, none⟩ = some (.string s) ∧ Below D w w' ∧ D < w'.heap.size

theorem bad_store {D : Nat} {p : Option Addr} {c : Nat} {l : List UInt8} {v : Value} {w w2 w3 : World} {o : Obj} (hB : Bld D p c l w2) (hb : Below D w w2) (hN : NewErr v (w2.alloc o) w3) : BadB D w (w3.setCell ⟨D, 1, none⟩ v) := by
  obtain ⟨E, s, rfl, hE, hs⟩ := hN.err
  have hD := hB.lt
  have h1 : (w2.alloc o).cell? ⟨D, 1, none⟩ = some .nilIface := (World.cell?_of_block (w := w2) (Below.heap_alloc _ _ _ hD)).trans hB.err
  have h2 : w3.cell? ⟨D, 1, none⟩ = some .nilIface := (hN.below.cell (p := ⟨D, 1, none⟩) (by show D < _; simp; omega)).trans h1
  have hsz := hN.below.size
  have hE' : w2.heap.size + 1 ≤ E := by simpa using hE
  have hsz' : w2.heap.size + 1 ≤ w3.heap.size := by simpa using hsz
  refine ⟨E, s, by simp [go_sem, h2], ?_, ?_, by simp [World.setCell]; omega⟩
  · rw [World.cell?_of_block (w := w3) (Below.heap_setCell _ _ _ _ (by show E ≠ D; omega))]
    exact hs
  · have hb2 : Below D w2 (w2.alloc o) := (Below.refl _ _).alloc (by omega) _
    exact Below.setCell ((hb.trans hb2).trans (hN.below.mono (by simp; omega))) (p := ⟨D, 1, none⟩) (Nat.le_refl D) _

set_option maxHeartbeats 1000000 in
set_option maxRecDepth 100000 in
theorem vec2_bad (F : Interp) (D M : Nat) (p : Option Addr) (c : Nat) (l body : List UInt8) (w : World) (hF : F.answers w.tape) (h : Bld D p c l w) (hlen : l.length + body.length ≤ 900000) (hfit : 65536 ≤ body.length)
    (HF : Hid (∀ (p : Option Addr) (c : Nat) (l' : List UInt8) (w' : World), Bld D p c l' w' → Below D w w' → l'.length ≤ l.length + 2 → Calls Ybaf.prog 17 #[.pointer (some ⟨D, 0, none⟩), .pointer (some ⟨M, 0, none⟩)] w' fun e w'' => e = .returned (.tuple #[]) ∧ Step D (l' ++ body) w' w'')) :
    Calls Ybaf.prog 33 #[.pointer (some ⟨D, 0, none⟩), .int .i64 2, .func (.func 17) #[] #[.pointer (some ⟨M, 0, none⟩)]] w fun e w' => e = .returned (.tuple #[]) ∧ BadB D w w' := by
  have c0 := h.buf
  have HFF := hid hF
  have HS := hid (show Step D (l ++ zeros 0) w w from ⟨p, c, by simpa [zeros] using h, Below.refl _ _⟩)
  clear h hF
  go_enter Ybaf.func33, Ybaf.ntmps33
  go_wp2
  go_loopw [15] (fun i wr => ∃ j : Nat, j ≤ 2 ∧ i = .int .i64 j ∧ Hid (Step D (l ++ zeros j) w wr)) (fun i _ => 2 - (intOf i).toNat)
  case atStart => exact ⟨0, by omega, rfl, HS⟩
  case round =>
    clear c0 HS
    obtain ⟨j, hj, rfl, hS⟩ := hrel
    obtain ⟨p1, c1, hB, hbel⟩ := hS.out
    clear hS
    by_cases hlt : j < 2
    · obtain ⟨p', c', w1, hr, d0, g0, HS⟩ := hB.grow (d := 1) (w2 := wr.alloc (.cells #[.int .u8 0] 5)) ((Below.refl _ wr).alloc hB.lt _) (lies_new wr [0]) rfl (by simp [zeros]; omega) (hB.own.alloc _)
      have HR := hid hr
      have hD := hB.lt
      have c0 := hB.buf
      have HN := hid (show Step D (l ++ zeros (j + 1)) w (w1.setCell ⟨D, 0, none⟩ (.slice p' ((l ++ zeros j).length + 1) c')) from by
        obtain ⟨p2, c2, h2, h3⟩ := HS.out
        refine ⟨p2, c2, ?_, hbel.trans h3⟩
        have e : l ++ zeros (j + 1) = l ++ zeros j ++ [0] := by simp [zeros, List.replicate_succ']
        rw [e]
        exact h2)
      clear hr hB hbel HS
      generalize (l ++ zeros j).length = N at HR d0 c0 HN
      go_wp2_with (at_builtin; refine Lib.wpList_append_run_sl _ rfl _ _ 23 rfl _ _ rfl rfl HR.out ?_)
      go_roundw
      case rel => exact ⟨j + 1, by omega, by go_num, HN⟩
      case measure => simp [intOf]; omega
    · have hj2 : j = 2 := by omega
      subst hj2
      have hln : (l ++ zeros 2).length ≤ l.length + 2 := by simp [zeros]
      have HC := hid (HF.out p1 c1 (l ++ zeros 2) wr hB hbel hln)
      have HBel := hid hbel
      clear hB hbel
      go_wp2_with fail
      refine HC.out.mono ?_
      rintro e w2 ⟨rfl, p2, c2, hB2, hbel2⟩
      have hb2 := HBel.out.trans hbel2
      have b0 := hB2.buf
      have b1 := hB2.err
      have g1 := hB2.f1
      have hD2 := hB2.lt
      have hN : (l ++ zeros 2 ++ body).length = l.length + 2 + body.length := by simp [zeros]; omega
      rw [hN] at b0
      have hF2 : F.answers w2.tape := by rw [hb2.tape]; exact HFF.out
      have HST := hid (show ∀ o v w3, NewErr v (w2.alloc o) w3 → BadB D w (w3.setCell ⟨D, 1, none⟩ v) from fun o v w3 hN => bad_store hB2 hb2 hN)
      have HE := hid (show ∀ n, Calls Ybaf.prog 37 #[.string ⟨#[119, 105, 114, 101, 58, 32, 37, 100, 32, 98, 121, 116, 101, 115, 32, 100, 111, 32, 110, 111, 116, 32, 102, 105, 116, 32, 97, 32, 37, 100, 45, 98, 121, 116, 101, 32, 108, 101, 110, 103, 116, 104, 32, 112, 114, 101, 102, 105, 120]⟩, .slice (some ⟨w2.heap.size, 0, none⟩) 2 2] (w2.alloc (.cells #[.iface 3 (.int .i64 n), .iface 3 (.int .i64 2)] 20)) fun e w' => ∃ v, e = .returned v ∧ NewErr v (w2.alloc (.cells #[.iface 3 (.int .i64 n), .iface 3 (.int .i64 2)] 20)) w' from fun n =>
        errorf_wire F w2.heap.size n 2 _ hF2 (by simp) (by simp))
      clear hB2 hb2 hbel2 HBel HC HF hln hN hF2 HFF
      go_wp2_with fail
      refine (HE.out _).mono ?_
      rintro e w3 ⟨v, rfl, hN⟩
      have HB := hid (HST.out _ _ _ hN)
      obtain ⟨E, s, rfl, hE, hs⟩ := hN.err
      have k1 : w3.cell? ⟨D, 1, none⟩ = some .nilIface := (hN.below.cell (p := ⟨D, 1, none⟩) (by show D < _; simp; omega)).trans ((World.cell?_of_block (w := w2) (Below.heap_alloc _ _ _ hD2)).trans b1)
      have k2 : w3.frozen? ⟨D, 1, none⟩ = false := (hN.below.frozen (p := ⟨D, 1, none⟩) (by show D < _; simp; omega)).trans ((World.frozen?_of_block (w := w2) (Below.heap_alloc _ _ _ hD2)).trans g1)
      clear hN HST HE b0 b1 g1
      go_wp2
      exact bodyPost_ret (results_none (by rfl) _ _ _) rfl ⟨rfl, HB.out⟩
set_option maxHeartbeats 1000000 in
set_option maxRecDepth 100000 in
theorem vec3_bad (D M : Nat) (p : Option Addr) (c : Nat) (l : List UInt8) (w : World) (h : Bld D p c l w) (hlen : l.length ≤ 900000)
    (HF : Hid (∀ (p : Option Addr) (c : Nat) (l' : List UInt8) (w' : World), Bld D p c l' w' → Below D w w' → l'.length ≤ l.length + 3 → Calls Ybaf.prog 14 #[.pointer (some ⟨D, 0, none⟩), .pointer (some ⟨M, 0, none⟩)] w' fun e w'' => e = .returned (.tuple #[]) ∧ BadB D w' w'')) :
    Calls Ybaf.prog 33 #[.pointer (some ⟨D, 0, none⟩), .int .i64 3, .func (.func 14) #[] #[.pointer (some ⟨M, 0, none⟩)]] w fun e w' => e = .returned (.tuple #[]) ∧ BadB D w w' := by
  have c0 := h.buf
  have HS := hid (show Step D (l ++ zeros 0) w w from ⟨p, c, by simpa [zeros] using h, Below.refl _ _⟩)
  clear h
  go_enter Ybaf.func33, Ybaf.ntmps33
  go_wp2
  go_loopw [15] (fun i wr => ∃ j : Nat, j ≤ 3 ∧ i = .int .i64 j ∧ Hid (Step D (l ++ zeros j) w wr)) (fun i _ => 3 - (intOf i).toNat)
  case atStart => exact ⟨0, by omega, rfl, HS⟩
  case round =>
    clear c0 HS
    obtain ⟨j, hj, rfl, hS⟩ := hrel
    obtain ⟨p1, c1, hB, hbel⟩ := hS.out
    clear hS
    by_cases hlt : j < 3
    · obtain ⟨p', c', w1, hr, d0, g0, HS⟩ := hB.grow (d := 1) (w2 := wr.alloc (.cells #[.int .u8 0] 5)) ((Below.refl _ wr).alloc hB.lt _) (lies_new wr [0]) rfl (by simp [zeros]; omega) (hB.own.alloc _)
      have HR := hid hr
      have hD := hB.lt
      have c0 := hB.buf
      have HN := hid (show Step D (l ++ zeros (j + 1)) w (w1.setCell ⟨D, 0, none⟩ (.slice p' ((l ++ zeros j).length + 1) c')) from by
        obtain ⟨p2, c2, h2, h3⟩ := HS.out
        refine ⟨p2, c2, ?_, hbel.trans h3⟩
        have e : l ++ zeros (j + 1) = l ++ zeros j ++ [0] := by simp [zeros, List.replicate_succ']
        rw [e]
        exact h2)
      clear hr hB hbel HS
      generalize (l ++ zeros j).length = N at HR d0 c0 HN
      go_wp2_with (at_builtin; refine Lib.wpList_append_run_sl _ rfl _ _ 23 rfl _ _ rfl rfl HR.out ?_)
      go_roundw
      case rel => exact ⟨j + 1, by omega, by go_num, HN⟩
      case measure => simp [intOf]; omega
    · have hj2 : j = 3 := by omega
      subst hj2
      have hln : (l ++ zeros 3).length ≤ l.length + 3 := by simp [zeros]
      have HC := hid (HF.out p1 c1 (l ++ zeros 3) wr hB hbel hln)
      have HBel := hid hbel
      clear hB hbel
      go_wp2_with fail
      refine HC.out.mono ?_
      rintro e w2 ⟨rfl, E, s, b1, hs, hbel2, hD2⟩
      have HB := hid (show BadB D w w2 from ⟨E, s, b1, hs, HBel.out.trans hbel2, hD2⟩)
      clear hbel2 HBel HC HF hln hs
      go_wp2
      exact bodyPost_ret (results_none (by rfl) _ _ _) rfl ⟨rfl, HB.out⟩


set_option maxHeartbeats 400000 in
set_option maxRecDepth 100000 in
theorem vec16_bad (F : Interp) (D M S x : Nat) (q : Option Addr) (n d : Nat) (sig : List UInt8) (p : Option Addr) (c : Nat) (l : List UInt8) (w : World) (hF : F.answers w.tape) (h : Bld D p c l w) (hE : Env D M S x q n d sig w) (hlen : l.length + n ≤ 800000) (hn : 65536 ≤ n) :
    Calls Ybaf.prog 16 #[.pointer (some ⟨D, 0, none⟩), .func (.func 17) #[] #[.pointer (some ⟨M, 0, none⟩)]] w fun e w' => e = .returned (.tuple #[]) ∧ BadB D w w' := by
  have HA := hid (vec2_bad F D M p c l sig w hF h (by rw [hE.len]; omega) (by rw [hE.len]; exact hn) (fun p c l' w' hB hb hl => inner D M S x q n d sig p c l' w' hB (hE.below hb) (by omega)))
  clear h hE hn hF
  go_enter Ybaf.func16, Ybaf.ntmps16
  go_wp2_with fail
  refine HA.out.mono ?_
  rintro e w' ⟨rfl, hS⟩
  have HS := hid hS
  clear hS HA
  go_wp2
  go_end0
  exact ⟨rfl, HS.out⟩

set_option maxHeartbeats 400000 in
set_option maxRecDepth 100000 in
theorem outer_bad (F : Interp) (D M S x : Nat) (q : Option Addr) (n d : Nat) (sig : List UInt8) (p : Option Addr) (c : Nat) (l : List UInt8) (w : World) (hF : F.answers w.tape) (h : Bld D p c l w) (hE : Env D M S x q n d sig w) (hlen : l.length + n ≤ 700000) (hn : 65536 ≤ n) (hx : x < 65536) :
    Calls Ybaf.prog 14 #[.pointer (some ⟨D, 0, none⟩), .pointer (some ⟨M, 0, none⟩)] w fun e w' => e = .returned (.tuple #[]) ∧ BadB D w w' := by
  have HA := hid (add16 D p c l x hx w h (by omega))
  have HV := hid (show ∀ w1, Step D (l ++ be2 x) w w1 → Calls Ybaf.prog 16 #[.pointer (some ⟨D, 0, none⟩), .func (.func 17) #[] #[.pointer (some ⟨M, 0, none⟩)]] w1 fun e w' => e = .returned (.tuple #[]) ∧ BadB D w w' from fun w1 hS => by
    obtain ⟨p1, c1, hB, hb⟩ := hS
    exact (vec16_bad F D M S x q n d sig p1 c1 (l ++ be2 x) w1 (by rw [hb.tape]; exact hF) hB (hE.below hb) (by simp [be2]; omega) hn).mono fun e w' ⟨he, E, s, h1, h2, h3, h4⟩ => ⟨he, E, s, h1, h2, hb.trans h3, h4⟩)
  have m0 := hE.m
  have s0 := hE.s0
  clear h hE hn hx hF
  go_enter Ybaf.func14, Ybaf.ntmps14
  go_wp2_with fail
  refine HA.out.mono ?_
  rintro e w1 ⟨rfl, hS⟩
  have HV1 := hid (HV.out w1 hS)
  clear hS HV HA m0 s0
  go_wp2_with fail
  refine HV1.out.mono ?_
  rintro e w2 ⟨rfl, hS⟩
  have HS := hid hS
  clear hS HV1
  go_wp2
  go_end0
  exact ⟨rfl, HS.out⟩

set_option maxHeartbeats 400000 in
set_option maxRecDepth 100000 in
theorem vec24_bad (F : Interp) (D M S x : Nat) (q : Option Addr) (n d : Nat) (sig : List UInt8) (p : Option Addr) (c : Nat) (l : List UInt8) (w : World) (hF : F.answers w.tape) (h : Bld D p c l w) (hE : Env D M S x q n d sig w) (hlen : l.length + n ≤ 600000) (hn : 65536 ≤ n) (hx : x < 65536) :
    Calls Ybaf.prog 32 #[.pointer (some ⟨D, 0, none⟩), .func (.func 14) #[] #[.pointer (some ⟨M, 0, none⟩)]] w fun e w' => e = .returned (.tuple #[]) ∧ BadB D w w' := by
  have HA := hid (vec3_bad D M p c l w h (by omega) (fun p c l' w' hB hb hl => outer_bad F D M S x q n d sig p c l' w' (by rw [hb.tape]; exact hF) hB (hE.below hb) (by omega) hn hx))
  clear h hE hn hx hF
  go_enter Ybaf.func32, Ybaf.ntmps32
  go_wp2_with fail
  refine HA.out.mono ?_
  rintro e w' ⟨rfl, hS⟩
  have HS := hid hS
  clear hS HA
  go_wp2
  go_end0
  exact ⟨rfl, HS.out⟩

set_option maxHeartbeats 400000 in
set_option maxRecDepth 100000 in
theorem whole_bad (F : Interp) (D M S x T Fb : Nat) (q : Option Addr) (n d : Nat) (sig : List UInt8) (p : Option Addr) (c : Nat) (w : World) (hF : F.answers w.tape) (h : Bld D p c [] w) (hE : Env D M S x q n d sig w) (hlen : n ≤ 500000) (hn : 65536 ≤ n) (hx : x < 65536)
    (hT : w.cell? ⟨T, 0, none⟩ = some (.int .u8 15)) (hFb : w.cell? ⟨Fb, 0, none⟩ = some (.func (.func 14) #[] #[.pointer (some ⟨M, 0, none⟩)])) (hFD : Fb < D) :
    Calls Ybaf.prog 30 #[.pointer (some ⟨D, 0, none⟩), .pointer (some ⟨T, 0, none⟩), .pointer (some ⟨Fb, 0, none⟩)] w fun e w' => e = .returned (.tuple #[]) ∧ BadB D w w' := by
  have HA := hid (add8 D p c [] 15 w h (by simp))
  have HFb := hid (show ∀ w1, Step D [15] w w1 → w1.cell? ⟨Fb, 0, none⟩ = some (.func (.func 14) #[] #[.pointer (some ⟨M, 0, none⟩)]) from fun w1 hS => by
    obtain ⟨_, _, _, hb⟩ := hS
    exact (hb.cell (p := ⟨Fb, 0, none⟩) hFD).trans hFb)
  have HV := hid (show ∀ w1, Step D [15] w w1 → Calls Ybaf.prog 32 #[.pointer (some ⟨D, 0, none⟩), .func (.func 14) #[] #[.pointer (some ⟨M, 0, none⟩)]] w1 fun e w' => e = .returned (.tuple #[]) ∧ BadB D w w' from fun w1 hS => by
    obtain ⟨p1, c1, hB, hb⟩ := hS
    exact (vec24_bad F D M S x q n d sig p1 c1 [15] w1 (by rw [hb.tape]; exact hF) hB (hE.below hb) (by simp; omega) hn hx).mono fun e w' ⟨he, E, s, h1, h2, h3, h4⟩ => ⟨he, E, s, h1, h2, hb.trans h3, h4⟩)
  clear h hE hn hx hFb hF
  go_enter Ybaf.func30, Ybaf.ntmps30
  go_wp2_with fail
  refine HA.out.mono ?_
  rintro e w1 ⟨rfl, hS⟩
  have HV1 := hid (HV.out w1 hS)
  have hF1 := HFb.out w1 hS
  clear hS HV HA HFb
  go_wp2_with fail
  refine HV1.out.mono ?_
  rintro e w2 ⟨rfl, hS⟩
  have HS := hid hS
  clear hS HV1
  go_wp2
  go_end0
  exact ⟨rfl, HS.out⟩

theorem below_drewN' {B : Nat} {a w : World} (h : Below B a w) (k : Nat) : Below B a (w.drewN k) := by
  induction k with
  | zero => exact h
  | succ k ih => exact ih.drew

/-- Nothing has turned but the draws. -/
def Quietly (w w' : World) : Prop := ∀ B, Below B w w'

theorem bytes_bad (D : Nat) (x : Value) (w : World) (h : w.cell? ⟨D, 1, none⟩ = some (.iface 99 x)) :
    Calls Ybaf.prog 39 #[.pointer (some ⟨D, 0, none⟩)] w fun e w' => e = .returned (.tuple #[.slice none 0 0, .iface 99 x]) ∧ Quietly w w' := by
  go_enter Ybaf.func39, Ybaf.ntmps39
  go_wp2
  go_quiet (fail)
  go_wp2
  go_ret2
  exact ⟨rfl, fun B => below_drewN' (Below.refl B w) _⟩

/-- What encode answers where the Builder has failed. -/
def Refused (e : Ending) (w w' : World) : Prop := ∃ x, e = .returned (.tuple #[.slice none 0 0, .iface 98 x]) ∧ Below w.heap.size w w'

set_option maxHeartbeats 400000 in
set_option maxRecDepth 100000 in
theorem encode_bad (F : Interp) (M S x T Fb : Nat) (q : Option Addr) (n d : Nat) (sig : List UInt8) (w : World) (hF : F.answers w.tape) (hE : Env w.heap.size M S x q n d sig w) (hlen : n ≤ 500000) (hn : 65536 ≤ n) (hx : x < 65536)
    (hT : w.cell? ⟨T, 0, none⟩ = some (.int .u8 15)) (hFb : w.cell? ⟨Fb, 0, none⟩ = some (.func (.func 14) #[] #[.pointer (some ⟨M, 0, none⟩)])) (hTD : T < w.heap.size) (hFD : Fb < w.heap.size) :
    Calls Ybaf.prog 29 #[.iface 60 (.int .u8 15), .func (.func 30) #[] #[.pointer (some ⟨T, 0, none⟩), .pointer (some ⟨Fb, 0, none⟩)]] w fun e w' => Refused e w w' := by
  have hb : Below w.heap.size w (w.alloc (.cells #[.slice none 0 0, .nilIface] 82)) := (Below.refl _ _).alloc (Nat.le_refl _) _
  have HW := hid (whole_bad F w.heap.size M S x T Fb q n d sig none 0 (w.alloc (.cells #[.slice none 0 0, .nilIface] 82)) hF (bld_new w) (hE.below hb) hlen hn hx ((hb.cell (p := ⟨T, 0, none⟩) hTD).trans hT) ((hb.cell (p := ⟨Fb, 0, none⟩) hFD).trans hFb) hFD)
  have HB := hid hb
  have HFF := hid hF
  clear hb hE hn hx hT hFb hF
  go_enter Ybaf.func29, Ybaf.ntmps29
  go_wp2_with (go_at_call 38; refine (new_builder _).mono ?_; rintro e w' ⟨rfl, rfl⟩)
  refine HW.out.mono ?_
  rintro e w2 ⟨rfl, E, s, b1, hs, hb2, hD2⟩
  have hB2 := HB.out.trans hb2
  have H39 := hid (bytes_bad w.heap.size _ w2 b1)
  have HB2 := hid hB2
  have HS := hid hs
  clear hB2 hb2 HW hs b1
  go_wp2_with fail
  refine H39.out.mono ?_
  rintro e w3 ⟨rfl, hq⟩
  have hB3 := HB2.out.trans (hq w.heap.size)
  have HE := hid (show Calls Ybaf.prog 37 #[.string ⟨#[101, 110, 99, 111, 100, 105, 110, 103, 32, 37, 118, 58, 32, 37, 119]⟩, .slice (some ⟨w3.heap.size, 0, none⟩) 2 2] (w3.alloc (.cells #[.iface 60 (.int .u8 15), .iface 99 (.pointer (some ⟨E, 0, none⟩))] 20)) fun e w' => WrapErr e (w3.alloc (.cells #[.iface 60 (.int .u8 15), .iface 99 (.pointer (some ⟨E, 0, none⟩))] 20)) w' from by
    have hE3 : w3.cell? ⟨E, 0, none⟩ = some (.string s) := ((hq (E + 1)).cell (p := ⟨E, 0, none⟩) (by show E < E + 1; omega)).trans HS.out
    have hlt : E < w3.heap.size := by
      rcases Nat.lt_or_ge E w3.heap.size with h | h
      · exact h
      · simp [World.cell?, Array.getElem?_eq_none h] at hE3
    exact errorf_enc F w3.heap.size E s _ (show F.answers w3.tape by rw [hB3.tape]; exact HFF.out) (by simp) (by simp) ((World.cell?_of_block (w := w3) (Below.heap_alloc _ _ _ hlt)).trans hE3))
  have HB3 := hid hB3
  clear hB3 hq H39 HB2 HS HB HFF
  go_wp2_with fail
  refine HE.out.mono ?_
  rintro e w4 ⟨y, rfl, hb4⟩
  have HR := hid (show Refused (.returned (.tuple #[.slice none 0 0, .iface 98 y])) w w4 from ⟨y, rfl, (HB3.out.alloc HB3.out.size _).trans (hb4.mono (by have := HB3.out.size; simp; omega))⟩)
  clear hb4 HE HB3
  go_wp2
  go_ret2
  exact HR.out

set_option maxHeartbeats 400000 in
set_option maxRecDepth 100000 in
theorem marshal_bad (F : Interp) (M S x : Nat) (q : Option Addr) (n d : Nat) (sig : List UInt8) (w : World) (hF : F.answers w.tape) (hE : Env w.heap.size M S x q n d sig w) (hlen : n ≤ 500000) (hn : 65536 ≤ n) (hx : x < 65536) :
    Calls Ybaf.prog 13 #[.int .u8 15, .func (.func 14) #[] #[.pointer (some ⟨M, 0, none⟩)]] w fun e w' => Refused e w w' := by
  have HG := hid (show Calls Ybaf.prog 29 #[.iface 60 (.int .u8 15), .func (.func 30) #[] #[.pointer (some ⟨w.heap.size, 0, none⟩), .pointer (some ⟨w.heap.size + 1, 0, none⟩)]]
      ((w.alloc (.cells #[.int .u8 15] 60)).alloc (.cells #[.func (.func 14) #[] #[.pointer (some ⟨M, 0, none⟩)]] 65)) fun e w' => Refused e w w' from by
    have hb : Below w.heap.size w ((w.alloc (.cells #[.int .u8 15] 60)).alloc (.cells #[.func (.func 14) #[] #[.pointer (some ⟨M, 0, none⟩)]] 65)) := ((Below.refl _ _).alloc (Nat.le_refl _) _).alloc (by simp) _
    have hE2 := hE.below hb
    have hsz : ((w.alloc (.cells #[.int .u8 15] 60)).alloc (.cells #[.func (.func 14) #[] #[.pointer (some ⟨M, 0, none⟩)]] 65)).heap.size = w.heap.size + 2 := by simp
    refine (encode_bad F M S x w.heap.size (w.heap.size + 1) q n d sig ((w.alloc (.cells #[.int .u8 15] 60)).alloc (.cells #[.func (.func 14) #[] #[.pointer (some ⟨M, 0, none⟩)]] 65)) hF ⟨hE2.m, hE2.s0, hE2.s1, hE2.lies, hE2.len, by rw [hsz]; have := hE2.hM; omega, by rw [hsz]; have := hE2.hS; omega, fun h a ha => by rw [hsz]; have := hE2.hq h a ha; omega⟩ hlen hn hx (by simp) (by simp) (by rw [hsz]; omega) (by rw [hsz]; omega)).mono fun e w' ⟨y, he, h2⟩ => ⟨y, he, ?_⟩
    exact hb.trans (h2.mono (by rw [hsz]; omega)))
  clear hE hn hx hF
  go_enter Ybaf.func13, Ybaf.ntmps13
  go_wp2_with fail
  refine HG.out.mono ?_
  rintro e w2 ⟨y, rfl, h2⟩
  have HR := hid (show Refused (.returned (.tuple #[.slice none 0 0, .iface 98 y])) w w2 from ⟨y, rfl, h2⟩)
  clear h2 HG
  go_wp2
  go_ret2
  exact HR.out

set_option maxHeartbeats 400000 in
set_option maxRecDepth 100000 in
/-- (*CertificateVerify).Marshal, the signature too long: nil and an error. -/
theorem cv_bad (F : Interp) (S x : Nat) (q : Option Addr) (n d : Nat) (sig : List UInt8) (w : World) (hF : F.answers w.tape) (hlen : n ≤ 500000) (hn : 65536 ≤ n) (hx : x < 65536)
    (s0 : w.cell? ⟨S, 0, none⟩ = some (.int .u16 x)) (s1 : w.cell? ⟨S, 1, none⟩ = some (.slice q n d)) (hL : Lies w q sig) (hl : sig.length = n) (hS : S < w.heap.size) (hq : sig ≠ [] → ∀ a, q = some a → a.block < w.heap.size) :
    Calls Ybaf.prog 7 #[.pointer (some ⟨S, 0, none⟩)] w fun e w' => Refused e w w' := by
  have HG := hid (show Calls Ybaf.prog 13 #[.int .u8 15, .func (.func 14) #[] #[.pointer (some ⟨w.heap.size, 0, none⟩)]] (w.alloc (.cells #[.pointer (some ⟨S, 0, none⟩)] 24)) fun e w' => Refused e w w' from by
    have hb : Below w.heap.size w (w.alloc (.cells #[.pointer (some ⟨S, 0, none⟩)] 24)) := (Below.refl _ _).alloc (Nat.le_refl _) _
    have hsz : (w.alloc (.cells #[.pointer (some ⟨S, 0, none⟩)] 24)).heap.size = w.heap.size + 1 := by simp
    refine (marshal_bad F w.heap.size S x q n d sig (w.alloc (.cells #[.pointer (some ⟨S, 0, none⟩)] 24)) hF ⟨by simp, (hb.cell (p := ⟨S, 0, none⟩) hS).trans s0, (hb.cell (p := ⟨S, 1, none⟩) hS).trans s1, hL.below hb hq, hl, by simp, by rw [hsz]; omega, fun h a ha => by rw [hsz]; have := hq h a ha; omega⟩ hlen hn hx).mono fun e w' ⟨y, he, h2⟩ => ⟨y, he, ?_⟩
    exact hb.trans (h2.mono (by rw [hsz]; omega)))
  clear hn hx hL hq s0 s1 hF
  go_enter Ybaf.func7, Ybaf.ntmps7
  go_wp2_with fail
  refine HG.out.mono ?_
  rintro e w2 ⟨y, rfl, h2⟩
  have HR := hid (show Refused (.returned (.tuple #[.slice none 0 0, .iface 98 y])) w w2 from ⟨y, rfl, h2⟩)
  clear h2 HG
  go_wp2
  go_ret2
  exact HR.out
end Go.Proofs.YbulkbujwFmt
