/-
  The walk of LawS3545ABoundary.
-/
import Derived.Test.YbulkbujwFmtBad
import Derived.Test.YbulkbujwFmtExact
import Derived.Laws.Closers25b
namespace Go.Proofs.YbulkbujwFmt
open Go.RowKit Go.Extern.Stop Go.Stop Go.Extern

/-- The row of the signature's bytes, being filled. -/
structure Filled (w : World) (N : Nat) (l : List UInt8) (wr : World) : Prop where
  own : wr.ownsRow w.heap.size 5 1 (.slice (some ⟨w.heap.size, 0, none⟩) N N) N (cellsL l)
  below : Below w.heap.size w wr

theorem byte_of (y : Int) (h0 : 0 ≤ y) (h1 : y ≤ 255) : ∃ b : UInt8, y = (b.toNat : Int) := ⟨UInt8.ofNat y.toNat, by rw [ofNat_toNat]; omega⟩

set_option maxHeartbeats 1000000 in
set_option maxRecDepth 100000 in
theorem bound_walk (F : Interp) (x k fl N : Nat) (hx : x < 65536) (hk : k < 256) (_hf : fl < 256) (hN : 65532 + (k : Int) % 8 = (N : Int)) (w : World) (hF : F.answers w.tape) :
    Calls Ybaf.prog 4 #[.int .u16 x, .int .u8 k, .int .u8 fl] w fun e w' => e = .returned (.bool true) ∧ Below w.heap.size w w' := by
  have hN1 : N ≤ 65539 := by omega
  have hN2 : 65532 ≤ N := by omega
  obtain ⟨w0, hmk, hg0, hb0, hs0⟩ := run_made w N (by omega)
  have HF0 := hid (show ∃ l, Filled w N l w0 from ⟨List.replicate N 0, ⟨by simp [cellsL], .inr ⟨w.heap.size, N, _, rfl, Nat.le_refl _, hg0, Nat.le_refl _, by unfold maxLen; omega, by simp, by simp [cellsL]⟩⟩, hb0⟩)
  have HFF := hid hF
  clear hg0 hb0 hF
  go_enter Ybaf.func4, Ybaf.ntmps4
  go_wp2
  go_loopw [9] (fun i wr => ∃ j : Nat, j ≤ N ∧ i = .int .i64 j ∧ Hid (∃ l, Filled w N l wr)) (fun i _ => N - (intOf i).toNat)
  case atStart => exact ⟨0, by omega, rfl, HF0⟩
  case round =>
    clear hmk HF0
    obtain ⟨j, hj, rfl, hS⟩ := hrel
    obtain ⟨l, hown, hbel⟩ := hS.out
    clear hS
    have hll : l.length = N := by have := hown.1; rw [cellsL_length] at this; omega
    by_cases hlt : j < N
    · have hc : ∃ y, wr.cell? ⟨w.heap.size, j, none⟩ = some (.int .u8 y) := ⟨(l[j]).toNat, by
        rw [hown.cellAt j (by omega)]
        simp [cellsL, List.getElem?_eq_getElem (show j < l.length by omega)]⟩
      obtain ⟨y, hy⟩ := hc
      have hfr := hown.frozenAt j
      have HN := hid (show ∀ b : UInt8, ∃ l, Filled w N l (wr.setCell ⟨w.heap.size, j, none⟩ (.int .u8 b.toNat)) from fun b => by
        refine ⟨l.set j b, ?_, hbel.setCell (p := ⟨w.heap.size, j, none⟩) (Nat.le_refl _) _⟩
        have e2 : cellsL (l.set j b) = (cellsL l).set j (.int .u8 b.toNat) := by simp [cellsL, List.map_set]
        rw [e2]
        exact (hown.stored j (.int .u8 b.toNat)).1)
      obtain ⟨b, hb⟩ := byte_of (bits .xor .u8 (fl : Int) ((j : Int) % 256)) (bits_lo_u8 _ _ _) (bits_hi_u8 _ _ _)
      have Hb := hid hb
      clear hown hbel hll hb
      go_wp2
      go_roundw
      case rel => exact ⟨j + 1, by omega, by go_num, by rw [Hb.out]; exact HN.out b⟩
      case measure => simp [intOf]; omega
    · have hj2 : j = N := by omega
      subst hj2
      have hg2 : w.heap.size < wr.heap.size := by have := (hown.lt w.heap.size rfl).2; exact this
      obtain ⟨p', c', e', _, _, hLs, _⟩ := owned_slice hown
      cases e'
      have hbb : ∀ o, Below wr.heap.size wr (wr.alloc o) := fun o => (Below.refl _ _).alloc (Nat.le_refl _) _
      have hLs2 : ∀ o, Lies (wr.alloc o) (some ⟨w.heap.size, 0, none⟩) l := fun o => hLs.below (hbb o) (fun _ a ha => by cases ha; exact hg2)
      have hF2 : F.answers wr.tape := by rw [hbel.tape]; exact HFF.out
      by_cases hgood : j ≤ 65535
      · have H7 := hid (cv_good wr.heap.size x (some ⟨w.heap.size, 0, none⟩) j j l (wr.alloc (.cells #[.int .u16 x, .slice (some ⟨w.heap.size, 0, none⟩) j j] 26)) (by omega) hx (by simp) (by simp) (hLs2 _) hll (by simp) (fun _ a ha => by cases ha; simp; omega))
        have HLs := hid hLs
        have HBel := hid hbel
        have hjg : (j : Int) ≤ 65535 := by omega
        clear hown hbel hLs hLs2 hbb hF2 HFF hN1 hN2 hN hgood
        go_wp2_with fail
        refine H7.out.mono ?_
        rintro e w4 ⟨p, c, rfl, G⟩
        have hsz3 : (wr.alloc (.cells #[.int .u16 x, .slice (some ⟨w.heap.size, 0, none⟩) j j] 26)).heap.size = wr.heap.size + 1 := by simp
        have hB4a : Below wr.heap.size wr w4 := ((Below.refl _ _).alloc (Nat.le_refl _) _).trans (G.below.mono (by rw [hsz3]; omega))
        have hB4 : Below w.heap.size w w4 := HBel.out.trans (hB4a.mono HBel.out.size)
        have hsgl : Lies w4 (some ⟨w.heap.size, 0, none⟩) l := HLs.out.below hB4a (fun _ a ha => by cases ha; exact hg2)
        have E2 := hid (expect_any x hx (some ⟨w.heap.size, 0, none⟩) j j l w4 (by omega) hsgl hll (fun _ a ha => by cases ha; have := hB4a.size; show w.heap.size < _; omega))
        have E3 := hid (show ∀ p' c' w5, Got w4.heap.size (j + 8) (msgOf x j l) p' c' w4 w5 → Calls Ybaf.prog 8 #[.slice p (j + 8) c, .slice p' (j + 8) c'] w5 fun e w' => e = .returned (.bool true) ∧ w' = w5 from fun p' c' w5 G5 =>
          equal_same p p' (j + 8) c c' (msgOf x j l) w5 G.len (G.lies.below G5.below (fun _ a ha => (G.lt a ha).2)) G5.lies)
        have HB4 := hid hB4
        clear G hB4a hB4 hsgl HLs HBel H7
        go_wp2_with fail
        refine E2.out.mono ?_
        rintro e w5 ⟨p', c', rfl, G5⟩
        have E4 := hid (E3.out p' c' w5 G5)
        have HB5 := hid (HB4.out.trans (G5.below.mono HB4.out.size))
        clear G5 E3 E2
        go_wp2_with fail
        refine E4.out.mono ?_
        rintro e w6 ⟨rfl, hw⟩
        subst hw
        go_wp2
        go_ret
        exact ⟨rfl, HB5.out⟩
      · have H7 := hid (cv_bad F wr.heap.size x (some ⟨w.heap.size, 0, none⟩) j j l (wr.alloc (.cells #[.int .u16 x, .slice (some ⟨w.heap.size, 0, none⟩) j j] 26)) hF2 (by omega) (by omega) hx (by simp) (by simp) (hLs2 _) hll (by simp) (fun _ a ha => by cases ha; simp; omega))
        have HBel := hid hbel
        have hjg : (65535 : Int) < (j : Int) := by omega
        have hnil := fun W => Lib.run_eql_slice_nil (P := Ybaf.prog) W 23 5 none 0 0 0 0 Ybaf.underlying23
        clear hown hbel hLs hLs2 hbb hF2 HFF hN1 hN2 hN hgood
        go_wp2_with fail
        refine H7.out.mono ?_
        rintro e w4 ⟨y, rfl, hb4⟩
        have HB4 := hid (show Below w.heap.size w w4 from (HBel.out.alloc HBel.out.size _).trans (hb4.mono (by have := HBel.out.size; simp; omega)))
        clear hb4 HBel H7
        go_wp2
        go_ret
        exact ⟨rfl, HB4.out⟩

/-- LawS3545ABoundary returns true, and writes nothing that was there. -/
theorem bound_any (F : Interp) (x k fl : Nat) (hx : x < 65536) (hk : k < 256) (hf : fl < 256) (w : World) (hF : F.answers w.tape) :
    Calls Ybaf.prog 4 #[.int .u16 x, .int .u8 k, .int .u8 fl] w fun e w' => e = .returned (.bool true) ∧ Below w.heap.size w w' :=
  bound_walk F x k fl (65532 + k % 8) hx hk hf (by omega) w hF
end Go.Proofs.YbulkbujwFmt
