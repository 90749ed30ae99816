/-
  More contracts: append of whatever bytes, the callees at every slice.
-/
import Derived.Test.YbulkbuiuFmtUint
import Derived.Test.YbulkbuiuFmtParse
import Derived.Deep.QuietTactic
import Derived.BigQuiet
import Derived.Deep.AppendLies
import Derived.Deep.AppendSrc
import Derived.Lib.SlFresh
import Derived.Lib.SliceRun
import Derived.Stop.IfaceNil
namespace Go.Proofs.YbulkbuiuFmt
open Go.RowKit

theorem info5 : (Ybaf.prog.info? 5).map (fun i => (i.zero, i.size, i.bytes)) = some (some (.int .u8 0), 1, 1) := by kernel_rfl

/-- The bytes as cells. -/
def cellsL (l : List UInt8) : List Value := l.map fun b => Value.int .u8 b.toNat

theorem cellsL_length (l : List UInt8) : (cellsL l).length = l.length := by simp [cellsL]
theorem cellsL_one (l : List UInt8) : ∀ u ∈ cellsL l, u.oneCell' = true := by
  intro u hu
  obtain ⟨_, _, rfl⟩ := List.mem_map.1 hu
  rfl
theorem cellsL_at {w : World} {g o : Nat} {l : List UInt8} (hcell : ∀ j (hj : j < l.length), w.cell? ⟨g, o + j, none⟩ = some (.int .u8 (l[j]).toNat)) :
    ∀ j u, (cellsL l)[j]? = some u → w.cell? ((⟨g, o, none⟩ : Addr).add j) = some u := by
  intro j u hj
  obtain ⟨hjl, e⟩ := List.getElem?_eq_some_iff.1 hj
  have hjl' : j < l.length := by simpa [cellsL] using hjl
  rw [← e]
  simpa [cellsL, Addr.add_lit] using hcell j hjl'

/-- What 'append' of l's bytes onto a row of the call's own leaves: a slice of the bytes l, in a block from B on. -/
structure Copied (B n : Nat) (l : List UInt8) (p : Option Addr) (c : Nat) (w w' : World) : Prop where
  lies : Lies w' p l
  room : n ≤ c
  below : Below B w w'
  lt : ∀ a, p = some a → a.block < w'.heap.size

theorem owned_copied {B n : Nat} {l : List UInt8} {v : Value} {w w' : World} (h : w'.ownsRow B 5 1 v n (cellsL l)) (hb : Below B w w') : ∃ p c, v = .slice p n c ∧ Copied B n l p c w w' := by
  have h0 := h
  rcases h.2 with ⟨rfl, rfl⟩ | ⟨g, cap, cur, rfl, h1, h2, h3, _⟩
  · have := h.1
    have hl : l = [] := List.eq_nil_of_length_eq_zero (by rw [cellsL_length] at this; omega)
    exact ⟨none, 0, rfl, .inl hl, Nat.le_refl _, hb, fun a e => by cases e⟩
  · refine ⟨some ⟨g, 0, none⟩, cap, rfl, .inr ⟨g, 0, rfl, fun j hj => ?_⟩, h3, hb, fun a e => ?_⟩
    · have := h0.cells (g := g) rfl j (.int .u8 (l[j]).toNat) (by simp [cellsL, List.getElem?_map, List.getElem?_eq_getElem hj])
      simpa [Addr.add_lit] using this
    · cases e
      rcases Nat.lt_or_ge g w'.heap.size with hlt | hge
      · exact hlt
      · rw [Array.getElem?_eq_none hge] at h2; cases h2

/-- 'append(dst, b...)', dst a row of the call's own (or nil), b wherever, nil too. -/
theorem run_copy (ty : TypeId) {w0 w : World} {B n m c : Nat} {v : Value} {p : Option Addr} {k l : List UInt8} (hown : w.ownsRow B 5 1 v m (cellsL k)) (hb : Below B w0 w) (hB : B ≤ w.heap.size) (hL : Lies w p l) (hl : l.length = n) (hn : m + n ≤ 1000000) :
    ∃ p' c' w1, (Builtin.append_ #[22, 22] ty #[v, .slice p n c]).run Ybaf.prog w = .ok (.slice p' (m + n) c') w1 ∧ Copied B (m + n) (k ++ l) p' c' w0 w1 := by
  obtain ⟨i0, hi, hz0, hz1, hz2⟩ := info_parts info5
  have main : ∀ ad, (∀ j u, (cellsL l)[j]? = some u → w.cell? (ad.add j) = some u) → ∃ p' c' w1, (Builtin.append_ #[22, 22] ty #[v, .slice (some ad) n c]).run Ybaf.prog w = .ok (.slice p' (m + n) c') w1 ∧ Copied B (m + n) (k ++ l) p' c' w0 w1 := by
    intro ad had
    obtain ⟨v', w', hr, h2, h3, _⟩ := run_append_own (P := Ybaf.prog) w B 22 ty 5 i0 (.int .u8 0) 1 1 Ybaf.underlying22 hi hz0 hz1 hz2 rfl (by decide) v m (cellsL k) hown ad n c (cellsL l) (by rw [cellsL_length]; omega) had (cellsL_one l) (by unfold maxLen; omega) (by omega) hB
    have hb2 : Below B w0 w' := hb.grown h3 hB (fun k' hk => (hown.lt k' hk).1)
    have e : cellsL k ++ cellsL l = cellsL (k ++ l) := by simp [cellsL]
    rw [e] at h2
    obtain ⟨p', c', rfl, C⟩ := owned_copied h2 hb2
    exact ⟨p', c', w', hr, C⟩
  rcases hL with rfl | ⟨g, o, rfl, hc⟩
  · obtain rfl : n = 0 := hl.symm
    cases p with
    | some ad => exact main ad (fun j u h => by simp [cellsL] at h)
    | none =>
      obtain ⟨p', c', rfl, C⟩ := owned_copied hown hb
      refine ⟨p', c', w, ?_, by simpa using C⟩
      have hr := C.room
      have e0 : (Builtin.append_ #[22, 22] ty #[.slice p' m c', .slice none 0 c]).run Ybaf.prog w = .ok (.slice p' m c') w := by
        simp [Builtin.append_, run_underlying Ybaf.underlying22, Builtin.lenOf, sizeOf, typeInfo, hi, hr]
        simp [run_firstCells_none]
        cases p' <;> simp [storeCells]
      exact e0
  · exact main _ (cellsL_at hc)

theorem Lies.drewN {w : World} {p : Option Addr} {l : List UInt8} (h : Lies w p l) (k : Nat) : Lies (w.drewN k) p l := by
  rcases h with h | ⟨g, o, rfl, h⟩
  · exact .inl h
  · exact .inr ⟨g, o, rfl, fun j hj => by simpa [go_sem] using h j hj⟩

theorem Lies.below {B : Nat} {w w' : World} {p : Option Addr} {l : List UInt8} (h : Lies w p l) (hb : Below B w w') (hp : l ≠ [] → ∀ a, p = some a → a.block < B) : Lies w' p l := by
  rcases h with h | ⟨g, o, rfl, h⟩
  · exact .inl h
  · by_cases hl : l = []
    · exact .inl hl
    · exact .inr ⟨g, o, rfl, fun j hj => (hb.cell (p := ⟨g, o + j, none⟩) (hp hl ⟨g, o, none⟩ rfl)).trans (h j hj)⟩

theorem Lies.some {w : World} {p : Option Addr} {l : List UInt8} (h : Lies w p l) (hl : 0 < l.length) : ∃ g o, p = some ⟨g, o, none⟩ ∧ ∀ j (hj : j < l.length), w.cell? ⟨g, o + j, none⟩ = some (.int .u8 (l[j]).toNat) := by
  rcases h with rfl | h
  · simp at hl
  · exact h

theorem lies_from {w : World} {g o m : Nat} {l : List UInt8} (hcell : ∀ j (hj : j < l.length), w.cell? ⟨g, o + j, none⟩ = some (.int .u8 (l[j]).toNat)) : Lies w (some ⟨g, o + m, none⟩) (l.drop m) := by
  refine .inr ⟨g, o + m, rfl, fun j hj => ?_⟩
  have h1 : m + j < l.length := by rw [List.length_drop] at hj; omega
  rw [List.getElem_drop, Nat.add_assoc]
  exact hcell (m + j) h1

theorem below_drewN' {B : Nat} {a w : World} (h : Below B a w) (k : Nat) : Below B a (w.drewN k) := by
  induction k with
  | zero => exact h
  | succ k ih => exact ih.drew

/-- zzs3543bparse at every slice. -/
theorem parse_any (p : Option Addr) (n c : Nat) (l : List UInt8) (w : World) (hl : l.length = n) (hL : Lies w p l) :
    Calls Ybaf.prog 8 #[.slice p n c] w fun e w' => e = .returned (pOf l) ∧ w' = w := by
  rcases hL with rfl | ⟨g, o, rfl, hc⟩
  · obtain rfl : n = 0 := hl.symm
    exact parse_empty p c w
  · exact parse_at g o n c l w hl hc

/-- binary.Uvarint at every slice. -/
theorem uvarint_any (p : Option Addr) (n c : Nat) (l : List UInt8) (w : World) (hl : l.length = n) (hL : Lies w p l) :
    Calls Ybaf.prog 10 #[.slice p n c] w fun e w' => e = .returned (.tuple #[.int .u64 (Lib.uvarintDec l).1, .int .i64 (Lib.uvarintDec l).2]) ∧ w' = w := by
  rcases hL with rfl | ⟨g, o, rfl, hc⟩
  · obtain rfl : n = 0 := hl.symm
    exact Ybaf.binary_Uvarint_empty p c w
  · exact Ybaf.binary_Uvarint g o n c l w hl hc

/-- What (*decoder).uint leaves where it refuses. -/
structure AfterBad (D : Nat) (w w' : World) : Prop where
  cell0 : w'.cell? ⟨D, 0, none⟩ = some (.slice none 0 0)
  cell1 : ∃ t x, w'.cell? ⟨D, 1, none⟩ = some (.iface t x)
  below : Below D w w'

theorem afterBad_failed (D : Nat) (s : ByteArray) (v u : Value) (w : World) (hD : D < w.heap.size) (c0 : w.cell? ⟨D, 0, none⟩ = some v) (c1 : w.cell? ⟨D, 1, none⟩ = some u) : AfterBad D w (failed D s w) := by
  refine ⟨?_, ⟨37, .pointer (some ⟨w.heap.size, 0, none⟩), ?_⟩, ?_⟩
  · simp [failed, go_sem, c0, hD]
  · simp [failed, go_sem, c1, hD]
  · refine Below.alloc (Below.setCell (Below.setCell (Below.refl D w) (p := ⟨D, 1, none⟩) (Nat.le_refl D) _) (p := ⟨D, 0, none⟩) (Nat.le_refl D) _) ?_ _
    simp [World.setCell]
    omega

/-- (*decoder).uint refuses what is no varint in its shortest form. -/
theorem uint_no (D n c : Nat) (p : Option Addr) (l : List UInt8) (w : World) (hl : l.length = n) (hlim : n ≤ 1000000000000) (hD : D < w.heap.size)
    (c0 : w.cell? ⟨D, 0, none⟩ = some (.slice p n c)) (c1 : w.cell? ⟨D, 1, none⟩ = some .nilIface) (f0 : w.frozen? ⟨D, 0, none⟩ = false) (f1 : w.frozen? ⟨D, 1, none⟩ = false)
    (hL : Lies w p l) (hs : shortB l = false) :
    Calls Ybaf.prog 6 #[.pointer (some ⟨D, 0, none⟩)] w fun e w' => e = .returned (.int .u64 0) ∧ AfterBad D w w' := by
  have hU := uvarint_any p n c l w hl hL
  rcases dec_shape l with ⟨v, k, hd, hk⟩ | ⟨v, m, b, hd, hm, hb⟩
  · rw [hd] at hU
    refine (uint_bad D n c p w hD k hk v c0 c1 f0 f1 hU).mono fun e w' ⟨he, hw⟩ => ⟨he, ?_⟩
    rw [hw]
    exact afterBad_failed D _ _ _ w hD c0 c1
  · rw [short_hit hd hb] at hs
    have hz : 0 < m ∧ b.toNat = 0 := by simpa using hs
    obtain ⟨g, o, rfl, hc⟩ := hL.some (by omega)
    rw [hd] at hU
    have hbc : w.cell? ⟨g, o + m, none⟩ = some (.int .u8 0) := by
      rw [hc m (by omega)]
      obtain ⟨h1, h2⟩ := List.getElem?_eq_some_iff.1 hb
      rw [h2, hz.2]
      rfl
    refine (uint_long D g o n c v m w hlim hD c0 c1 f0 f1 hbc (by omega) hz.1 hU).mono fun e w' ⟨he, hw⟩ => ⟨he, ?_⟩
    rw [hw]
    exact afterBad_failed D _ _ _ w hD c0 c1

/-- What errors.New gives. -/
theorem new_any (s : ByteArray) (w : World) : Calls Ybaf.prog 5 #[.string s] w fun e w' => e = .returned (.iface 37 (.pointer (some ⟨w.heap.size, 0, none⟩))) ∧ w' = w.alloc (.cells #[.string s] 39) := by
  go_enter Ybaf.func5, Ybaf.ntmps5
  go_wp2
  go_ret
  exact ⟨rfl, rfl⟩
end Go.Proofs.YbulkbuiuFmt
