/-
  The message is built: the closures, encode, Marshal: the signature fits.
-/
import Derived.Test.YbulkbujwFmtVec
namespace Go.Proofs.YbulkbujwFmt
open Go.RowKit

/-- The CertificateVerify that the closures look at: m in a box at M, the struct at S, its signature's bytes; all below the Builder D. -/
structure Env (D M S x : Nat) (q : Option Addr) (n d : Nat) (sig : List UInt8) (w : World) : Prop where
  m : w.cell? ⟨M, 0, none⟩ = some (.pointer (some ⟨S, 0, none⟩))
  s0 : w.cell? ⟨S, 0, none⟩ = some (.int .u16 x)
  s1 : w.cell? ⟨S, 1, none⟩ = some (.slice q n d)
  lies : Lies w q sig
  len : sig.length = n
  hM : M < D
  hS : S < D
  hq : sig ≠ [] → ∀ a, q = some a → a.block < D

theorem Env.below {D M S x : Nat} {q : Option Addr} {n d : Nat} {sig : List UInt8} {w w' : World} (h : Env D M S x q n d sig w) (hb : Below D w w') : Env D M S x q n d sig w' :=
  ⟨(hb.cell (p := ⟨M, 0, none⟩) h.hM).trans h.m, (hb.cell (p := ⟨S, 0, none⟩) h.hS).trans h.s0, (hb.cell (p := ⟨S, 1, none⟩) h.hS).trans h.s1, h.lies.below hb h.hq, h.len, h.hM, h.hS, h.hq⟩

set_option maxHeartbeats 400000 in
set_option maxRecDepth 100000 in
theorem inner (D M S x : Nat) (q : Option Addr) (n d : Nat) (sig : List UInt8) (p : Option Addr) (c : Nat) (l : List UInt8) (w : World) (h : Bld D p c l w) (hE : Env D M S x q n d sig w) (hlen : l.length + n ≤ 1000000) :
    Calls Ybaf.prog 17 #[.pointer (some ⟨D, 0, none⟩), .pointer (some ⟨M, 0, none⟩)] w fun e w' => e = .returned (.tuple #[]) ∧ Step D (l ++ sig) w w' := by
  have HA := hid (addBytes D p q c d n l sig w h hlen hE.lies hE.len)
  have m0 := hE.m
  have s1 := hE.s1
  clear h hE
  go_enter Ybaf.func17, Ybaf.ntmps17
  go_wp2_with fail
  refine HA.out.mono ?_
  rintro e w' ⟨rfl, hS⟩
  have HS := hid hS
  clear hS
  go_wp2
  go_end0
  exact ⟨rfl, HS.out⟩

set_option maxHeartbeats 400000 in
set_option maxRecDepth 100000 in
theorem vec16 (D M S x : Nat) (q : Option Addr) (n d : Nat) (sig : List UInt8) (p : Option Addr) (c : Nat) (l : List UInt8) (w : World) (h : Bld D p c l w) (hE : Env D M S x q n d sig w) (hlen : l.length + n ≤ 800000) (hn : n < 65536) :
    Calls Ybaf.prog 16 #[.pointer (some ⟨D, 0, none⟩), .func (.func 17) #[] #[.pointer (some ⟨M, 0, none⟩)]] w fun e w' => e = .returned (.tuple #[]) ∧ Step D (l ++ be2 n ++ sig) w w' := by
  have HA := hid (vec2 D M p c l sig w h (by rw [hE.len]; omega) (by rw [hE.len]; exact hn) (fun p c l' w' hB hb hl => inner D M S x q n d sig p c l' w' hB (hE.below hb) (by omega)))
  rw [hE.len] at HA
  clear h hE hn
  go_enter Ybaf.func16, Ybaf.ntmps16
  go_wp2_with fail
  refine HA.out.mono ?_
  rintro e w' ⟨rfl, hS⟩
  have HS := hid hS
  clear hS HA
  go_wp2
  go_end0
  exact ⟨rfl, HS.out⟩

/-- The body of the message. -/
def bodyOf (x n : Nat) (sig : List UInt8) : List UInt8 := be2 x ++ be2 n ++ sig
theorem bodyOf_length (x n : Nat) (sig : List UInt8) (h : sig.length = n) : (bodyOf x n sig).length = n + 4 := by simp [bodyOf, be2, h]

set_option maxHeartbeats 400000 in
set_option maxRecDepth 100000 in
theorem outer (D M S x : Nat) (q : Option Addr) (n d : Nat) (sig : List UInt8) (p : Option Addr) (c : Nat) (l : List UInt8) (w : World) (h : Bld D p c l w) (hE : Env D M S x q n d sig w) (hlen : l.length + n ≤ 700000) (hn : n < 65536) (hx : x < 65536) :
    Calls Ybaf.prog 14 #[.pointer (some ⟨D, 0, none⟩), .pointer (some ⟨M, 0, none⟩)] w fun e w' => e = .returned (.tuple #[]) ∧ Step D (l ++ bodyOf x n sig) w w' := by
  have HA := hid (add16 D p c l x hx w h (by omega))
  have HV := hid (show ∀ w1, Step D (l ++ be2 x) w w1 → Calls Ybaf.prog 16 #[.pointer (some ⟨D, 0, none⟩), .func (.func 17) #[] #[.pointer (some ⟨M, 0, none⟩)]] w1 fun e w' => e = .returned (.tuple #[]) ∧ Step D (l ++ bodyOf x n sig) w w' from fun w1 hS => by
    obtain ⟨p1, c1, hB, hb⟩ := hS
    refine (vec16 D M S x q n d sig p1 c1 (l ++ be2 x) w1 hB (hE.below hb) (by simp [be2]; omega) hn).mono fun e w' ⟨he, p2, c2, hB2, hb2⟩ => ⟨he, p2, c2, ?_, hb.trans hb2⟩
    have e1 : l ++ bodyOf x n sig = l ++ be2 x ++ be2 n ++ sig := by simp [bodyOf]
    rw [e1]
    exact hB2)
  have m0 := hE.m
  have s0 := hE.s0
  clear h hE hn hx
  go_enter Ybaf.func14, Ybaf.ntmps14
  go_wp2_with fail
  refine HA.out.mono ?_
  rintro e w1 ⟨rfl, hS⟩
  have HV1 := hid (HV.out w1 hS)
  clear hS HV HA m0 s0
  go_wp2_with fail
  refine HV1.out.mono ?_
  rintro e w2 ⟨rfl, hS⟩
  have HS := hid hS
  clear hS HV1
  go_wp2
  go_end0
  exact ⟨rfl, HS.out⟩

set_option maxHeartbeats 400000 in
set_option maxRecDepth 100000 in
theorem vec24 (D M S x : Nat) (q : Option Addr) (n d : Nat) (sig : List UInt8) (p : Option Addr) (c : Nat) (l : List UInt8) (w : World) (h : Bld D p c l w) (hE : Env D M S x q n d sig w) (hlen : l.length + n ≤ 600000) (hn : n < 65536) (hx : x < 65536) :
    Calls Ybaf.prog 32 #[.pointer (some ⟨D, 0, none⟩), .func (.func 14) #[] #[.pointer (some ⟨M, 0, none⟩)]] w fun e w' => e = .returned (.tuple #[]) ∧ Step D (l ++ be3 (n + 4) ++ bodyOf x n sig) w w' := by
  have HA := hid (vec3 D M p c l (bodyOf x n sig) w h (by rw [bodyOf_length x n sig hE.len]; omega) (by rw [bodyOf_length x n sig hE.len]; omega) (fun p c l' w' hB hb hl => outer D M S x q n d sig p c l' w' hB (hE.below hb) (by omega) hn hx))
  rw [bodyOf_length x n sig hE.len] at HA
  clear h hE hn hx
  go_enter Ybaf.func32, Ybaf.ntmps32
  go_wp2_with fail
  refine HA.out.mono ?_
  rintro e w' ⟨rfl, hS⟩
  have HS := hid hS
  clear hS HA
  go_wp2
  go_end0
  exact ⟨rfl, HS.out⟩

/-- The message. -/
def msgOf (x n : Nat) (sig : List UInt8) : List UInt8 := [15] ++ be3 (n + 4) ++ bodyOf x n sig
theorem msgOf_length (x n : Nat) (sig : List UInt8) (h : sig.length = n) : (msgOf x n sig).length = n + 8 := by
  rw [msgOf, List.length_append, bodyOf_length x n sig h]
  simp [be3]
  omega

set_option maxHeartbeats 400000 in
set_option maxRecDepth 100000 in
theorem whole (D M S x T F : Nat) (q : Option Addr) (n d : Nat) (sig : List UInt8) (p : Option Addr) (c : Nat) (w : World) (h : Bld D p c [] w) (hE : Env D M S x q n d sig w) (hn : n < 65536) (hx : x < 65536)
    (hT : w.cell? ⟨T, 0, none⟩ = some (.int .u8 15)) (hF : w.cell? ⟨F, 0, none⟩ = some (.func (.func 14) #[] #[.pointer (some ⟨M, 0, none⟩)])) (hFD : F < D) :
    Calls Ybaf.prog 30 #[.pointer (some ⟨D, 0, none⟩), .pointer (some ⟨T, 0, none⟩), .pointer (some ⟨F, 0, none⟩)] w fun e w' => e = .returned (.tuple #[]) ∧ Step D (msgOf x n sig) w w' := by
  have HA := hid (add8 D p c [] 15 w h (by simp))
  have HF := hid (show ∀ w1, Step D [15] w w1 → w1.cell? ⟨F, 0, none⟩ = some (.func (.func 14) #[] #[.pointer (some ⟨M, 0, none⟩)]) from fun w1 hS => by
    obtain ⟨_, _, _, hb⟩ := hS
    exact (hb.cell (p := ⟨F, 0, none⟩) hFD).trans hF)
  have HV := hid (show ∀ w1, Step D [15] w w1 → Calls Ybaf.prog 32 #[.pointer (some ⟨D, 0, none⟩), .func (.func 14) #[] #[.pointer (some ⟨M, 0, none⟩)]] w1 fun e w' => e = .returned (.tuple #[]) ∧ Step D (msgOf x n sig) w w' from fun w1 hS => by
    obtain ⟨p1, c1, hB, hb⟩ := hS
    exact (vec24 D M S x q n d sig p1 c1 [15] w1 hB (hE.below hb) (by simp; omega) hn hx).mono fun e w' ⟨he, p2, c2, hB2, hb2⟩ => ⟨he, p2, c2, hB2, hb.trans hb2⟩)
  clear h hE hn hx hF
  go_enter Ybaf.func30, Ybaf.ntmps30
  go_wp2_with fail
  refine HA.out.mono ?_
  rintro e w1 ⟨rfl, hS⟩
  have HV1 := hid (HV.out w1 hS)
  have hF1 := HF.out w1 hS
  clear hS HV HA HF
  go_wp2_with fail
  refine HV1.out.mono ?_
  rintro e w2 ⟨rfl, hS⟩
  have HS := hid hS
  clear hS HV1
  go_wp2
  go_end0
  exact ⟨rfl, HS.out⟩

/-- A slice of the bytes l that the call has made: in a block from B on; below B nothing has turned. -/
structure Got (B n : Nat) (l : List UInt8) (p : Option Addr) (c : Nat) (w w' : World) : Prop where
  lies : Lies w' p l
  len : l.length = n
  below : Below B w w'
  lt : ∀ a, p = some a → B ≤ a.block ∧ a.block < w'.heap.size

theorem bytes_good (D : Nat) (p : Option Addr) (c : Nat) (l : List UInt8) (w : World) (h : Bld D p c l w) :
    Calls Ybaf.prog 39 #[.pointer (some ⟨D, 0, none⟩)] w fun e w' => e = .returned (.tuple #[.slice p l.length c, .nilIface]) ∧ w' = w := by
  have b0 := h.buf
  have b1 := h.err
  clear h
  go_enter Ybaf.func39, Ybaf.ntmps39
  go_wp2
  go_ret2
  exact ⟨rfl, rfl⟩

theorem new_builder (w : World) : Calls Ybaf.prog 38 #[.slice none 0 0] w fun e w' => e = .returned (.pointer (some ⟨w.heap.size, 0, none⟩)) ∧ w' = w.alloc (.cells #[.slice none 0 0, .nilIface] 82) := by
  go_enter Ybaf.func38, Ybaf.ntmps38
  go_wp2
  go_ret
  exact ⟨rfl, rfl⟩

theorem bld_new (w : World) : Bld w.heap.size none 0 [] (w.alloc (.cells #[.slice none 0 0, .nilIface] 82)) :=
  ⟨by simp, by simp, by simp, by simp, World.ownsRow_nil _ _ _ _, by simp⟩

set_option maxHeartbeats 400000 in
set_option maxRecDepth 100000 in
theorem encode_good (M S x T F : Nat) (q : Option Addr) (n d : Nat) (sig : List UInt8) (w : World) (hE : Env w.heap.size M S x q n d sig w) (hn : n < 65536) (hx : x < 65536)
    (hT : w.cell? ⟨T, 0, none⟩ = some (.int .u8 15)) (hF : w.cell? ⟨F, 0, none⟩ = some (.func (.func 14) #[] #[.pointer (some ⟨M, 0, none⟩)])) (hTD : T < w.heap.size) (hFD : F < w.heap.size) :
    Calls Ybaf.prog 29 #[.iface 60 (.int .u8 15), .func (.func 30) #[] #[.pointer (some ⟨T, 0, none⟩), .pointer (some ⟨F, 0, none⟩)]] w fun e w' => ∃ p c, e = .returned (.tuple #[.slice p (n + 8) c, .nilIface]) ∧ Got w.heap.size (n + 8) (msgOf x n sig) p c w w' := by
  have hb : Below w.heap.size w (w.alloc (.cells #[.slice none 0 0, .nilIface] 82)) := (Below.refl _ _).alloc (Nat.le_refl _) _
  have HW := hid (whole w.heap.size M S x T F q n d sig none 0 _ (bld_new w) (hE.below hb) hn hx ((hb.cell (p := ⟨T, 0, none⟩) hTD).trans hT) ((hb.cell (p := ⟨F, 0, none⟩) hFD).trans hF) hFD)
  have HB := hid hb
  have hm := msgOf_length x n sig hE.len
  clear hb hE hn hx hT hF
  go_enter Ybaf.func29, Ybaf.ntmps29
  go_wp2_with (go_at_call 38; refine (new_builder _).mono ?_; rintro e w' ⟨rfl, rfl⟩)
  refine HW.out.mono ?_
  rintro e w2 ⟨rfl, p, c, hB2, hb2⟩
  have H39 := hid (bytes_good w.heap.size p c (msgOf x n sig) w2 hB2)
  rw [hm] at H39
  have HG := hid (show Got w.heap.size (n + 8) (msgOf x n sig) p c w w2 from by
    obtain ⟨p', c', e, h1, _, h2, h3⟩ := owned_slice hB2.own
    cases e
    exact ⟨h2, hm, HB.out.trans hb2, fun a ha => ⟨by have := (h3 a ha).1; omega, (h3 a ha).2⟩⟩)
  clear hB2 hb2 HW hm
  go_wp2_with (go_at_call 39; refine H39.out.mono ?_; rintro e w' ⟨rfl, rfl⟩)
  go_ret2
  exact ⟨p, c, rfl, HG.out⟩

set_option maxHeartbeats 400000 in
set_option maxRecDepth 100000 in
theorem marshal_good (M S x : Nat) (q : Option Addr) (n d : Nat) (sig : List UInt8) (w : World) (hE : Env w.heap.size M S x q n d sig w) (hn : n < 65536) (hx : x < 65536) :
    Calls Ybaf.prog 13 #[.int .u8 15, .func (.func 14) #[] #[.pointer (some ⟨M, 0, none⟩)]] w fun e w' => ∃ p c, e = .returned (.tuple #[.slice p (n + 8) c, .nilIface]) ∧ Got w.heap.size (n + 8) (msgOf x n sig) p c w w' := by
  have HG := hid (show Calls Ybaf.prog 29 #[.iface 60 (.int .u8 15), .func (.func 30) #[] #[.pointer (some ⟨w.heap.size, 0, none⟩), .pointer (some ⟨w.heap.size + 1, 0, none⟩)]]
      ((w.alloc (.cells #[.int .u8 15] 60)).alloc (.cells #[.func (.func 14) #[] #[.pointer (some ⟨M, 0, none⟩)]] 65)) fun e w' => ∃ p c, e = .returned (.tuple #[.slice p (n + 8) c, .nilIface]) ∧ Got w.heap.size (n + 8) (msgOf x n sig) p c w w' from by
    have hb : Below w.heap.size w ((w.alloc (.cells #[.int .u8 15] 60)).alloc (.cells #[.func (.func 14) #[] #[.pointer (some ⟨M, 0, none⟩)]] 65)) := ((Below.refl _ _).alloc (Nat.le_refl _) _).alloc (by simp) _
    have hE2 := hE.below hb
    have hsz : ((w.alloc (.cells #[.int .u8 15] 60)).alloc (.cells #[.func (.func 14) #[] #[.pointer (some ⟨M, 0, none⟩)]] 65)).heap.size = w.heap.size + 2 := by simp
    refine (encode_good M S x w.heap.size (w.heap.size + 1) q n d sig _ ⟨hE2.m, hE2.s0, hE2.s1, hE2.lies, hE2.len, by rw [hsz]; have := hE2.hM; omega, by rw [hsz]; have := hE2.hS; omega, fun h a ha => by rw [hsz]; have := hE2.hq h a ha; omega⟩ hn hx (by simp) (by simp) (by rw [hsz]; omega) (by rw [hsz]; omega)).mono fun e w' ⟨p, c, he, G⟩ => ⟨p, c, he, ?_⟩
    exact ⟨G.lies, G.len, hb.trans (G.below.mono (by rw [hsz]; omega)), fun a ha => ⟨by have := (G.lt a ha).1; rw [hsz] at this; omega, (G.lt a ha).2⟩⟩)
  clear hE hn hx
  go_enter Ybaf.func13, Ybaf.ntmps13
  go_wp2_with fail
  refine HG.out.mono ?_
  rintro e w2 ⟨p, c, rfl, G⟩
  have HG2 := hid G
  clear G HG
  go_wp2
  go_ret2
  exact ⟨p, c, rfl, HG2.out⟩

set_option maxHeartbeats 400000 in
set_option maxRecDepth 100000 in
/-- (*CertificateVerify).Marshal, the signature fits: the message. -/
theorem cv_good (S x : Nat) (q : Option Addr) (n d : Nat) (sig : List UInt8) (w : World) (hn : n < 65536) (hx : x < 65536)
    (s0 : w.cell? ⟨S, 0, none⟩ = some (.int .u16 x)) (s1 : w.cell? ⟨S, 1, none⟩ = some (.slice q n d)) (hL : Lies w q sig) (hl : sig.length = n) (hS : S < w.heap.size) (hq : sig ≠ [] → ∀ a, q = some a → a.block < w.heap.size) :
    Calls Ybaf.prog 7 #[.pointer (some ⟨S, 0, none⟩)] w fun e w' => ∃ p c, e = .returned (.tuple #[.slice p (n + 8) c, .nilIface]) ∧ Got w.heap.size (n + 8) (msgOf x n sig) p c w w' := by
  have HG := hid (show Calls Ybaf.prog 13 #[.int .u8 15, .func (.func 14) #[] #[.pointer (some ⟨w.heap.size, 0, none⟩)]] (w.alloc (.cells #[.pointer (some ⟨S, 0, none⟩)] 24)) fun e w' => ∃ p c, e = .returned (.tuple #[.slice p (n + 8) c, .nilIface]) ∧ Got w.heap.size (n + 8) (msgOf x n sig) p c w w' from by
    have hb : Below w.heap.size w (w.alloc (.cells #[.pointer (some ⟨S, 0, none⟩)] 24)) := (Below.refl _ _).alloc (Nat.le_refl _) _
    have hsz : (w.alloc (.cells #[.pointer (some ⟨S, 0, none⟩)] 24)).heap.size = w.heap.size + 1 := by simp
    refine (marshal_good w.heap.size S x q n d sig _ ⟨by simp, (hb.cell (p := ⟨S, 0, none⟩) hS).trans s0, (hb.cell (p := ⟨S, 1, none⟩) hS).trans s1, hL.below hb hq, hl, by simp, by rw [hsz]; omega, fun h a ha => by rw [hsz]; have := hq h a ha; omega⟩ hn hx).mono fun e w' ⟨p, c, he, G⟩ => ⟨p, c, he, ?_⟩
    exact ⟨G.lies, G.len, hb.trans (G.below.mono (by rw [hsz]; omega)), fun a ha => ⟨by have := (G.lt a ha).1; rw [hsz] at this; omega, (G.lt a ha).2⟩⟩)
  clear hn hx hL hq s0 s1
  go_enter Ybaf.func7, Ybaf.ntmps7
  go_wp2_with fail
  refine HG.out.mono ?_
  rintro e w2 ⟨p, c, rfl, G⟩
  have HG2 := hid G
  clear G HG
  go_wp2
  go_ret2
  exact ⟨p, c, rfl, HG2.out⟩
end Go.Proofs.YbulkbujwFmt
