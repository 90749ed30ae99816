/-
  The walk of LawS3543BDecode.
-/
import Derived.Test.YbulkbuiuFmtMore
namespace Go.Proofs.YbulkbuiuFmt
open Go.RowKit

theorem hid {p : Prop} (h : p) : Hid p := h

theorem run_copy0 (ty : TypeId) {w : World} {n c : Nat} {p : Option Addr} {l : List UInt8} (hL : Lies w p l) (hl : l.length = n) (hn : n ≤ 1024) :
    ∃ p' c' w1, (Builtin.append_ #[22, 22] ty #[.slice none 0 0, .slice p n c]).run Ybaf.prog w = .ok (.slice p' n c') w1 ∧ Copied w.heap.size n l p' c' w w1 := by
  have h := run_copy (c := c) ty (w0 := w) (w := w) (B := w.heap.size) (k := []) (World.ownsRow_nil w w.heap.size 5 1) (Below.refl _ _) (Nat.le_refl _) hL hl (by omega)
  simpa using h

theorem info37 : (Ybaf.prog.info? 37).map (fun i => i.comparable) = some true := by kernel_rfl
theorem eql_same (a : Addr) (w : World) : (binOp .eql 24 (.iface 37 (.pointer (some a))) (.iface 37 (.pointer (some a)))).run Ybaf.prog w = .ok (.bool true) w := by
  obtain ⟨i, hi, hc⟩ := Option.map_eq_some_iff.1 info37
  exact run_eql_iface_same w 24 37 39 i 0 (by kernel_rfl) (by simp [typeInfo, hi]) hc Ybaf.underlying37 (Ybaf.sizeOf39 w) a

set_option maxHeartbeats 400000 in
theorem decode_great (p : Option Addr) (n c : Nat) (f : Bool) (w : World) (hn : 1024 < n) :
    Calls Ybaf.prog 3 #[.slice p n c, .bool f] w fun e w' => e = .returned (.bool true) ∧ Below w.heap.size w w' := by
  have hn' : (1024 : Int) < (n : Int) := by omega
  go_enter Ybaf.func3, Ybaf.ntmps3
  go_wp2
  go_ret
  exact ⟨rfl, Below.refl _ _⟩

set_option maxHeartbeats 1000000 in
theorem decode_failed (p : Option Addr) (n c : Nat) (l : List UInt8) (w : World) (hl : l.length = n) (hn : n ≤ 1024) (hL : Lies w p l) (hp : l ≠ [] → ∀ a, p = some a → a.block < w.heap.size) :
    Calls Ybaf.prog 3 #[.slice p n c, .bool true] w fun e w' => e = .returned (.bool true) ∧ Below w.heap.size w w' := by
  obtain ⟨p', c', w1, hrun, C⟩ := run_copy0 (c := c) 22 hL hl hn
  have HR := hid (hrun)
  have hn' : (n : Int) ≤ 1024 := by omega
  have HA : Hid (∀ x y, Lies ((w1.alloc x).alloc y) p' l) := fun x y => C.lies.below (B := w1.heap.size) (((Below.refl _ _).alloc (Nat.le_refl _) _).alloc (by simp) _) (fun _ => C.lt)
  have HB : Hid (∀ x y, Lies ((w1.alloc x).alloc y) p l) := fun x y => hL.below (((C.below.alloc C.below.size _).alloc (by have := C.below.size; simp; omega) _)) hp
  have HW : Hid (∀ x y, Below w.heap.size w ((w1.alloc x).alloc y)) := fun x y => ((C.below.alloc C.below.size _).alloc (by have := C.below.size; simp; omega) _)
  clear hrun C hL hp
  have heq := eql_same
  go_enter Ybaf.func3, Ybaf.ntmps3
  go_wp2_with (first | (at_builtin; refine Lib.wpList_append_run_sl _ rfl _ _ 22 rfl _ _ rfl rfl HR.out ?_) | (go_at_call 5; refine (new_any _ _).mono ?_; rintro e w' ⟨rfl, rfl⟩) | (go_at_call 6; refine (uint_early (w1.heap.size + 1) 37 (.pointer (some ⟨w1.heap.size, 0, none⟩)) _ ?_).mono ?_; (simp); rintro e w' ⟨rfl, rfl⟩) | (go_at_call 7; refine (equal_same p' p n c' c l _ hl ?_ ?_).mono ?_; exact HA.out _ _; exact HB.out _ _; rintro e w' ⟨rfl, rfl⟩))
  go_ret
  exact ⟨rfl, HW.out _ _⟩

set_option maxHeartbeats 1000000 in
theorem decode_no (p : Option Addr) (n c : Nat) (l : List UInt8) (w : World) (hl : l.length = n) (hn : n ≤ 1024) (hL : Lies w p l) (hp : l ≠ [] → ∀ a, p = some a → a.block < w.heap.size) (hs : shortB l = false) :
    Calls Ybaf.prog 3 #[.slice p n c, .bool false] w fun e w' => e = .returned (.bool true) ∧ Below w.heap.size w w' := by
  obtain ⟨p', c', w1, hrun, C⟩ := run_copy0 (c := c) 22 hL hl hn
  have HR := hid (hrun)
  have hn' : (n : Int) ≤ 1024 := by omega
  have H6 : Hid (Calls Ybaf.prog 6 #[.pointer (some ⟨w1.heap.size, 0, none⟩)] (w1.alloc (.cells #[.slice p' n c', .nilIface] 28)) fun e w' => e = .returned (.int .u64 0) ∧ AfterBad w1.heap.size (w1.alloc (.cells #[.slice p' n c', .nilIface] 28)) w') :=
    uint_no w1.heap.size n c' p' l _ hl (by omega) (by simp) (by simp) (by simp) (by simp) (by simp) (C.lies.below (B := w1.heap.size) ((Below.refl _ _).alloc (Nat.le_refl _) _) (fun _ => C.lt)) hs
  have HW : Hid (∀ x w3, AfterBad w1.heap.size (w1.alloc x) w3 → Below w.heap.size w w3) := fun x w3 A => (C.below.alloc C.below.size _).trans (A.below.mono C.below.size)
  have H8 : Hid (∀ w3, Below w.heap.size w w3 → Calls Ybaf.prog 8 #[.slice p n c] w3 fun e w' => e = .returned (.tuple #[.int .u64 0, .int .i64 0, .bool false]) ∧ w' = w3) := fun w3 hb => by
    have := parse_any p n c l w3 hl (hL.below hb hp)
    rw [pOf, hs] at this
    exact this
  have hnil := fun W => Lib.run_eql_slice_nil (P := Ybaf.prog) W 22 5 none 0 0 0 0 Ybaf.underlying22
  clear hrun C hL hp
  go_enter Ybaf.func3, Ybaf.ntmps3
  go_wp2_with (at_builtin; refine Lib.wpList_append_run_sl _ rfl _ _ 22 rfl _ _ rfl rfl HR.out ?_)
  refine H6.out.mono ?_
  rintro e w3 ⟨rfl, A⟩
  obtain ⟨t, x, a1⟩ := A.cell1
  have a0 := A.cell0
  have hb := HW.out _ _ A
  have H8' := hid (H8.out w3 hb)
  have HB : Hid (Below w.heap.size w w3) := hb
  clear A hb
  go_wp2_with (go_at_call 8; refine H8'.out.mono ?_; rintro e w' ⟨rfl, rfl⟩)
  go_ret
  exact ⟨rfl, HB.out⟩

set_option maxHeartbeats 1000000 in
theorem decode_yes (p : Option Addr) (n c : Nat) (l : List UInt8) (w : World) (hl : l.length = n) (hn : n ≤ 1024) (hnc : n ≤ c) (hL : Lies w p l) (hp : l ≠ [] → ∀ a, p = some a → a.block < w.heap.size) (hs : shortB l = true) :
    Calls Ybaf.prog 3 #[.slice p n c, .bool false] w fun e w' => e = .returned (.bool true) ∧ Below w.heap.size w w' := by
  obtain ⟨p', c', w1, hrun, C⟩ := run_copy0 (c := c) 22 hL hl hn
  have HR := hid (hrun)
  have hn' : (n : Int) ≤ 1024 := by omega
  rcases dec_shape l with ⟨v, k, hd, hk⟩ | ⟨v, m, b, hd, hm, hb⟩
  · exfalso
    unfold shortB at hs
    rw [hd] at hs
    have : ¬ 0 < k := by omega
    simp [this] at hs
  have hz : ¬ (0 < m ∧ b.toNat = 0) := by
    rw [short_hit hd hb] at hs
    intro h
    simp [h.1, h.2] at hs
  obtain ⟨g, o, rfl, hc⟩ := hL.some (by omega)
  obtain ⟨g', o', rfl, hc'⟩ := C.lies.some (by omega)
  have hg : g < w.heap.size := hp (by intro e; rw [e] at hb; cases hb) ⟨g, o, none⟩ rfl
  have hg' : g' < w1.heap.size := C.lt ⟨g', o', none⟩ rfl
  have H6 : Hid (Calls Ybaf.prog 6 #[.pointer (some ⟨w1.heap.size, 0, none⟩)] (w1.alloc (.cells #[.slice (some ⟨g', o', none⟩) n c', .nilIface] 28)) fun e w' => e = .returned (.int .u64 v) ∧ ∃ q c'', After w1.heap.size n m l q c'' (w1.alloc (.cells #[.slice (some ⟨g', o', none⟩) n c', .nilIface] 28)) w') :=
    uint_after w1.heap.size g' o' n c' v m l b _ hl C.room (by omega) (by simp) hg' (by simp) (by simp) (by simp) (fun j hj => (World.cell?_of_block (w := w1) (Below.heap_alloc _ _ _ hg')).trans (hc' j hj)) hd (by omega) hb hz
  have HW : Hid (∀ x w3, Below w1.heap.size (w1.alloc x) w3 → Below w.heap.size w w3) := fun x w3 A => (C.below.alloc C.below.size _).trans (A.mono C.below.size)
  have H8 : Hid (∀ w3, Below w.heap.size w w3 → Calls Ybaf.prog 8 #[.slice (some ⟨g, o, none⟩) n c] w3 fun e w' => e = .returned (.tuple #[.int .u64 v, .int .i64 ((m : Int) + 1), .bool true]) ∧ w' = w3) := fun w3 hb3 => by
    have := parse_any (some ⟨g, o, none⟩) n c l w3 hl (hL.below hb3 hp)
    rw [pOf_hit hd hb hz] at this
    exact this
  have HF : Hid (∀ w3, Below w.heap.size w w3 → Lies w3 (some ⟨g, o + (m + 1), none⟩) (l.drop (m + 1))) := fun w3 hb3 => lies_from (fun j hj => (hb3.cell (p := ⟨g, o + j, none⟩) hg).trans (hc j hj))
  have hm2 : m < n := by omega
  have hr : ((n - (m + 1) : Nat) : Int) = (n : Int) - ((m : Int) + 1) := by omega
  clear hrun C hL hp hc hc' hd hb hz hs hm
  go_enter Ybaf.func3, Ybaf.ntmps3
  go_wp2_with (at_builtin; refine Lib.wpList_append_run_sl _ rfl _ _ 22 rfl _ _ rfl rfl HR.out ?_)
  refine H6.out.mono ?_
  rintro e w3 ⟨rfl, q, c'', A⟩
  have a0 := A.cell0
  have a1 := A.cell1
  have hb := HW.out _ _ A.below
  have H8' := hid (H8.out w3 hb)
  have HB : Hid (Below w.heap.size w w3) := hb
  have HQ : Hid (∀ p k c1 c2, Lies w3 p (l.drop (m + 1)) → Calls Ybaf.prog 7 #[.slice q (n - (m + 1)) c1, .slice p (n - (m + 1)) c2] (w3.drewN k) fun e w'' => e = .returned (.bool true) ∧ ∃ j, w'' = w3.drewN j) :=
    fun p k c1 c2 hp => Calls.quiet_of_same (equal_same q p (n - (m + 1)) c1 c2 (l.drop (m + 1)) _ (by simp [hl]) (A.lies.drewN k) (hp.drewN k))
  have HF' := hid (HF.out w3 hb)
  have HE : Hid (n ≤ m + 1 → Lies w3 (some ⟨g, o, none⟩) (l.drop (m + 1))) := fun h => .inl (List.drop_eq_nil_of_le (by omega))
  clear A hb
  go_wp2_with (go_at_call 8; refine H8'.out.mono ?_; rintro e w' ⟨rfl, rfl⟩)
  by_cases hcm : c = m + 1
  · subst hcm
    have hnm : n = m + 1 := by omega
    subst hnm
    simp only [Nat.sub_self] at a0 HQ
    clear hr
    go_quiet ((go_at_call 7; exact HQ.out _ _ _ _ (HE.out hnc)))
    go_wp2
    go_ret
    exact ⟨rfl, below_drewN' HB.out _⟩
  · go_quiet ((go_at_call 7; exact HQ.out _ _ _ _ HF'.out))
    go_wp2
    go_ret
    exact ⟨rfl, below_drewN' HB.out _⟩

/-- LawS3543BDecode returns true, and writes nothing that was there. -/
theorem decode_any (p : Option Addr) (n c : Nat) (f : Bool) (l : List UInt8) (w : World) (hl : l.length = n) (hnc : n ≤ c) (hL : Lies w p l) (hp : l ≠ [] → ∀ a, p = some a → a.block < w.heap.size) :
    Calls Ybaf.prog 3 #[.slice p n c, .bool f] w fun e w' => e = .returned (.bool true) ∧ Below w.heap.size w w' := by
  by_cases hn : 1024 < n
  · exact decode_great p n c f w hn
  · cases f
    · cases hs : shortB l
      · exact decode_no p n c l w hl (by omega) hL hp hs
      · exact decode_yes p n c l w hl (by omega) hnc hL hp hs
    · exact decode_failed p n c l w hl (by omega) hL hp
end Go.Proofs.YbulkbuiuFmt
