/-
  zzs3545aexpect, and the walk of LawS3545AExact.
-/
import Derived.Test.YbulkbujwFmtMar
import Derived.Laws.CopyOwn
namespace Go.Proofs.YbulkbujwFmt
open Go.RowKit

/-- The message's first eight bytes. -/
def hdrOf (x n : Nat) : List UInt8 := [15] ++ be3 (n + 4) ++ be2 x ++ be2 n
theorem msg_hdr (x n : Nat) (sig : List UInt8) : msgOf x n sig = hdrOf x n ++ sig := by simp [msgOf, hdrOf, bodyOf]

theorem cell_byte {y : Int} {m : Nat} (h : y = ((m % 256 : Nat) : Int)) : Value.int .u8 ((UInt8.ofNat m).toNat : Nat) = Value.int .u8 y := (put_byte h).symm

theorem hdr_cells (x n : Nat) (hx : x < 65536) (hn : n ≤ 65535) : cellsL (hdrOf x n) = [Value.int .u8 15, Value.int .u8 ((4 + (n : Int)) / 65536), Value.int .u8 ((4 + (n : Int)) / 256 % 256), Value.int .u8 ((4 + (n : Int)) % 256), Value.int .u8 ((x : Int) / 256), Value.int .u8 ((x : Int) % 256), Value.int .u8 ((n : Int) / 256), Value.int .u8 ((n : Int) % 256)] := by
  have e1 := cell_byte (y := (4 + (n : Int)) / 65536) (m := (n + 4) / 65536) (by omega)
  have e2 := cell_byte (y := (4 + (n : Int)) / 256 % 256) (m := (n + 4) / 256) (by omega)
  have e3 := cell_byte (y := (4 + (n : Int)) % 256) (m := n + 4) (by omega)
  have e4 := cell_byte (y := (x : Int) / 256) (m := x / 256) (by omega)
  have e5 := cell_byte (y := (x : Int) % 256) (m := x) (by omega)
  have e6 := cell_byte (y := (n : Int) / 256) (m := n / 256) (by omega)
  have e7 := cell_byte (y := (n : Int) % 256) (m := n) (by omega)
  have e0 : ((15 : UInt8).toNat : Int) = 15 := rfl
  simp only [cellsL, hdrOf, be2, be3, List.cons_append, List.nil_append, List.map_cons, List.map_nil, e0, e1, e2, e3, e4, e5, e6, e7]

set_option maxHeartbeats 400000 in
set_option maxRecDepth 100000 in
theorem expect_any (x : Nat) (hx : x < 65536) (q : Option Addr) (n d : Nat) (sig : List UInt8) (w : World) (hn : n ≤ 65535) (hL : Lies w q sig) (hl : sig.length = n) (hq : sig ≠ [] → ∀ a, q = some a → a.block < w.heap.size) :
    Calls Ybaf.prog 9 #[.int .u16 x, .slice q n d] w fun e w' => ∃ p c, e = .returned (.slice p (n + 8) c) ∧ Got w.heap.size (n + 8) (msgOf x n sig) p c w w' := by
  obtain ⟨i0, hi, hz0, hz1, hz2⟩ := info_parts info5
  obtain ⟨w0, hmk, hown0, hgrow0⟩ := run_make_own (P := Ybaf.prog) w w.heap.size 23 5 i0 (.int .u8 0) 1 Ybaf.underlying23 hi hz0 hz1 .i64 .i64 (8 + n) (by rw [hz2]; omega) (by unfold maxLen; omega) (Nat.le_refl _)
  rw [show ((8 + n : Nat) : Int) = 8 + (n : Int) by omega] at hmk
  have hb0 : Below w.heap.size w w0 := (Below.refl _ _).grown hgrow0 (Nat.le_refl _) (fun k hk => by cases hk)
  obtain ⟨p1, c1, w1, hr1, hown1, hb1⟩ := run_appendL (w := w0.alloc (.cells (cellsL (hdrOf x n)).toArray 5)) (k := []) (c := 8) 23 (hown0.alloc _) (by have := hb0.size; simp; omega) (lies_new w0 (hdrOf x n)) rfl (by simp [hdrOf, be2, be3])
  have hb01 : Below w.heap.size w w1 := (hb0.alloc hb0.size _).trans hb1
  obtain ⟨p2, c2, w2, hr2, hown2, hb2⟩ := run_appendL (c := d) 23 hown1 hb01.size (hL.below hb01 hq) hl (by simp [hdrOf, be2, be3]; omega)
  have e8 : (hdrOf x n).length = 8 := rfl
  rw [e8] at hr1 hr2 hown2
  rw [hdr_cells x n hx hn] at hr1
  simp only [Nat.zero_add] at hr1 hr2 hown2
  rw [Nat.add_comm 8 n] at hr2 hown2
  have HG := hid (show Got w.heap.size (n + 8) (msgOf x n sig) p2 c2 w w2 from by
    obtain ⟨p', c', e, h1, _, h2, h3⟩ := owned_slice hown2
    cases e
    rw [msg_hdr]
    exact ⟨h2, by rw [List.nil_append] at h1; exact h1, hb01.trans hb2, h3⟩)
  have H1 := hid hr1
  have H2 := hid hr2
  clear hown0 hgrow0 hb0 hr1 hown1 hb1 hb01 hr2 hown2 hb2 hL hq hl e8 hi hz0 hz1 hz2
  go_enter Ybaf.func9, Ybaf.ntmps9
  go_wp2_with (at_builtin; first | refine Lib.wpList_append_run_sl _ rfl (.tmp 15) (.tmp 34) 23 rfl _ _ rfl rfl H1.out ?_ | refine Lib.wpList_append_run_sl _ rfl (.tmp 36) (.tmp 37) 23 rfl _ _ rfl rfl H2.out ?_)
  go_ret
  exact ⟨p2, c2, rfl, HG.out⟩

theorem lies_row {w : World} {g : Nat} {l : List UInt8} {t : TypeId} (h : w.heap[g]? = some (.cells (cellsL l).toArray t (0, 0))) : Lies w (some ⟨g, 0, none⟩) l := by
  refine .inr ⟨g, 0, rfl, fun j hj => ?_⟩
  simp [World.cell?, h, cellsL, List.getElem?_eq_getElem hj]

set_option maxHeartbeats 400000 in
theorem exact_great (x : Int) (q : Option Addr) (n d : Nat) (w : World) (hn : 65535 < n) :
    Calls Ybaf.prog 3 #[.int .u16 x, .slice q n d] w fun e w' => e = .returned (.bool true) ∧ Below w.heap.size w w' := by
  have hn' : (65535 : Int) < (n : Int) := by omega
  go_enter Ybaf.func3, Ybaf.ntmps3
  go_wp2
  go_ret
  exact ⟨rfl, Below.refl _ _⟩

/-- make([]byte, n). -/
theorem run_made (w : World) (n : Nat) (hn : n ≤ 1000000) : ∃ w0, (Instr.makeSlice 23 (.int .i64 (n : Int)) (.int .i64 (n : Int))).run Ybaf.prog w = .ok (.slice (some ⟨w.heap.size, 0, none⟩) n n) w0 ∧
    w0.heap[w.heap.size]? = some (.cells (List.replicate n (Value.int .u8 0)).toArray 5 (0, 0)) ∧ Below w.heap.size w w0 ∧ w0.heap.size = w.heap.size + 1 := by
  obtain ⟨i0, hi, hz0, hz1, hz2⟩ := info_parts info5
  have hmk := run_make (P := Ybaf.prog) w 23 5 i0 (.int .u8 0) Ybaf.underlying23 hi hz0 .i64 .i64 n n (by omega) (Int.le_refl _) (by rw [hz2]; omega) (by omega)
  rw [hz1, Int.toNat_natCast] at hmk
  refine ⟨_, hmk, ?_, (Below.refl _ _).alloc (Nat.le_refl _) _, by simp⟩
  have e : (madeCells (Value.int .u8 0).cells (n * 1)) = (List.replicate n (Value.int .u8 0)).toArray := by
    apply Array.ext'
    have := toList_madeCells_one (.int .u8 0) (n * 1)
    rw [Nat.mul_one] at this ⊢
    exact this
  rw [e]
  exact heap_alloc_new w _

set_option maxHeartbeats 1000000 in
set_option maxRecDepth 100000 in
theorem exact_small (x : Nat) (hx : x < 65536) (q : Option Addr) (n d : Nat) (sig : List UInt8) (w : World) (hn : n ≤ 65535) (hL : Lies w q sig) (hl : sig.length = n) (hq : sig ≠ [] → ∀ a, q = some a → a.block < w.heap.size) :
    Calls Ybaf.prog 3 #[.int .u16 x, .slice q n d] w fun e w' => e = .returned (.bool true) ∧ Below w.heap.size w w' := by
  obtain ⟨w0, hmk, hg0, hb0, hs0⟩ := run_made w n (by omega)
  have hn' : (n : Int) ≤ 65535 := by omega
  have hsz : (Ybaf.prog.info? 5).map (·.size) = some 1 := by kernel_rfl
  have HL := hid hL
  have HQ := hid hq
  have Hg := hid hg0
  have HB0 := hid hb0
  have hcl : (cellsL sig).length = n := by rw [cellsL_length]; exact hl
  have HP := hid (show 0 < (cellsL sig).length → (some (⟨w.heap.size, 0, none⟩ : Addr)) = some ⟨w.heap.size, 0, none⟩ ∧ ∃ ad, q = some ad ∧ ∀ j v, (cellsL sig)[j]? = some v → w0.cell? (ad.add j) = some v from fun h => ⟨rfl, by
    rcases hL.below hb0 hq with hL2 | ⟨g, o, rfl, hc⟩
    · rw [hL2] at h
      simp [cellsL] at h
    · exact ⟨_, rfl, cellsL_at hc⟩⟩)
  have hmin : (cellsL sig).length = Nat.min n n := by rw [hcl]; exact (Nat.min_self n).symm
  have hfit : 0 + (cellsL sig).length ≤ (List.replicate n (Value.int .u8 0)).length := by rw [hcl]; simp
  have HM := hid hmin
  have HF := hid hfit
  clear hL hq hg0 hb0 hn hmin hfit
  go_enter Ybaf.func3, Ybaf.ntmps3
  go_wp2_with (refine wpList_copy_splice rfl (.tmp 15) (.tmp 16) 23 23 rfl 5 Ybaf.underlying23 hsz (some ⟨w.heap.size, 0, none⟩) q n n n d rfl rfl w.heap.size 0 (List.replicate n (Value.int .u8 0)) 5 Hg.out (cellsL sig) HM.out HP.out HF.out (cellsL_one sig) w.heap.size w HB0.out (Nat.le_refl _) ?_)
  intro w2 HG2 hB2
  have hspl : splice (List.replicate n (Value.int .u8 0)) 0 (cellsL sig) = cellsL sig := by simp [splice, hcl]
  rw [hspl] at HG2
  have hlt : w.heap.size < w2.heap.size := by
    rcases Nat.lt_or_ge w.heap.size w2.heap.size with h | h
    · exact h
    · have := HG2.out
      rw [Array.getElem?_eq_none h] at this
      cases this
  have hLcp : Lies w2 (some ⟨w.heap.size, 0, none⟩) sig := lies_row HG2.out
  have hbb : ∀ o, Below w2.heap.size w2 (w2.alloc o) := fun o => (Below.refl _ _).alloc (Nat.le_refl _) _
  have H7 := hid (cv_good w2.heap.size x (some ⟨w.heap.size, 0, none⟩) n n sig (w2.alloc (.cells #[.int .u16 x, .slice (some ⟨w.heap.size, 0, none⟩) n n] 26)) (by omega) hx (by simp) (by simp)
    (hLcp.below (hbb _) (fun _ a ha => by cases ha; exact hlt)) hl (by simp) (fun _ a ha => by cases ha; simp; omega))
  have HB2 := hid hB2
  have HLcp := hid hLcp
  clear hB2 hLcp hbb HG2 hspl HP HM HF Hg HB0 hs0 hmk hcl
  go_wp2_with fail
  refine H7.out.mono ?_
  rintro e w4 ⟨p, c, rfl, G⟩
  have hsz3 : (w2.alloc (.cells #[.int .u16 x, .slice (some ⟨w.heap.size, 0, none⟩) n n] 26)).heap.size = w2.heap.size + 1 := by simp
  have hB4a : Below w2.heap.size w2 w4 := ((Below.refl _ _).alloc (Nat.le_refl _) _).trans (G.below.mono (by rw [hsz3]; omega))
  have hB4 : Below w.heap.size w w4 := HB2.out.trans (hB4a.mono HB2.out.size)
  have hcpl : Lies w4 (some ⟨w.heap.size, 0, none⟩) sig := HLcp.out.below hB4a (fun _ a ha => by cases ha; exact hlt)
  have hsgl : Lies w4 q sig := HL.out.below hB4 HQ.out
  have E1 := hid (equal_same (some ⟨w.heap.size, 0, none⟩) q n n d sig w4 hl hcpl hsgl)
  have s0 : w4.cell? ⟨w2.heap.size, 0, none⟩ = some (.int .u16 x) := (G.below.cell (p := ⟨w2.heap.size, 0, none⟩) (by rw [hsz3]; show w2.heap.size < w2.heap.size + 1; omega)).trans (by simp)
  have E2 := hid (expect_any x hx q n d sig w4 (by omega) hsgl hl (fun h a ha => by have := HQ.out h a ha; have := hB4.size; omega))
  have E3 := hid (show ∀ p' c' w5, Got w4.heap.size (n + 8) (msgOf x n sig) p' c' w4 w5 → Calls Ybaf.prog 8 #[.slice p (n + 8) c, .slice p' (n + 8) c'] w5 fun e w' => e = .returned (.bool true) ∧ w' = w5 from fun p' c' w5 G5 =>
    equal_same p p' (n + 8) c c' (msgOf x n sig) w5 G.len (G.lies.below G5.below (fun _ a ha => (G.lt a ha).2)) G5.lies)
  have HB4 := hid hB4
  clear G hB4a hB4 hcpl hsgl HB2 HLcp H7 HL HQ
  go_wp2_with (go_at_call 8; refine E1.out.mono ?_; rintro e w' ⟨rfl, hw⟩; subst hw)
  refine E2.out.mono ?_
  rintro e w5 ⟨p', c', rfl, G5⟩
  have E4 := hid (E3.out p' c' w5 G5)
  have HB5 := hid (HB4.out.trans (G5.below.mono HB4.out.size))
  clear G5 E3 E2 E1
  go_wp2_with fail
  refine E4.out.mono ?_
  rintro e w6 ⟨rfl, hw⟩
  subst hw
  go_wp2
  go_ret
  exact ⟨rfl, HB5.out⟩

/-- LawS3545AExact returns true, and writes nothing that was there. -/
theorem exact_any (x : Nat) (hx : x < 65536) (q : Option Addr) (n d : Nat) (sig : List UInt8) (w : World) (hL : Lies w q sig) (hl : sig.length = n) (hq : sig ≠ [] → ∀ a, q = some a → a.block < w.heap.size) :
    Calls Ybaf.prog 3 #[.int .u16 x, .slice q n d] w fun e w' => e = .returned (.bool true) ∧ Below w.heap.size w w' := by
  by_cases hn : 65535 < n
  · exact exact_great x q n d w hn
  · exact exact_small x hx q n d sig w (by omega) hL hl hq
end Go.Proofs.YbulkbujwFmt
