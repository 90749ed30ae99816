/-
  Bytes in memory: where a slice of bytes lies, bytes.Equal at equal bytes, append onto a row of the call's own, the Builder.
-/
import Derived.Test.YbulkbujwFmtProg
import Derived.WalkKit
import Derived.WalkSpells
import Derived.Laws.BytesArg
import Derived.Deep.AppendLies
import Derived.Lib.SlFresh
import Derived.Lib.SliceRun
import Derived.Stop.IfaceNil
namespace Go.Proofs.YbulkbujwFmt
open Go.RowKit

theorem hid {p : Prop} (h : p) : Hid p := h

theorem info5 : (Ybaf.prog.info? 5).map (fun i => (i.zero, i.size, i.bytes)) = some (some (.int .u8 0), 1, 1) := by kernel_rfl

/-- The bytes as cells. -/
def cellsL (l : List UInt8) : List Value := l.map fun b => Value.int .u8 b.toNat

theorem cellsL_length (l : List UInt8) : (cellsL l).length = l.length := by simp [cellsL]
theorem cellsL_append (k l : List UInt8) : cellsL k ++ cellsL l = cellsL (k ++ l) := by simp [cellsL]
theorem cellsL_one (l : List UInt8) : ∀ u ∈ cellsL l, u.oneCell' = true := by
  intro u hu
  obtain ⟨_, _, rfl⟩ := List.mem_map.1 hu
  rfl

/-- The slice at p bears the bytes l (no byte: wherever, nil too). -/
def Lies (w : World) (p : Option Addr) (l : List UInt8) : Prop := l = [] ∨ ∃ g o, p = some ⟨g, o, none⟩ ∧ ∀ j (hj : j < l.length), w.cell? ⟨g, o + j, none⟩ = some (.int .u8 (l[j]).toNat)

theorem cellsL_at {w : World} {g o : Nat} {l : List UInt8} (hcell : ∀ j (hj : j < l.length), w.cell? ⟨g, o + j, none⟩ = some (.int .u8 (l[j]).toNat)) :
    ∀ j u, (cellsL l)[j]? = some u → w.cell? ((⟨g, o, none⟩ : Addr).add j) = some u := by
  intro j u hj
  obtain ⟨hjl, e⟩ := List.getElem?_eq_some_iff.1 hj
  have hjl' : j < l.length := by simpa [cellsL] using hjl
  rw [← e]
  simpa [cellsL, Addr.add_lit] using hcell j hjl'

theorem Lies.below {B : Nat} {w w' : World} {p : Option Addr} {l : List UInt8} (h : Lies w p l) (hb : Below B w w') (hp : l ≠ [] → ∀ a, p = some a → a.block < B) : Lies w' p l := by
  rcases h with h | ⟨g, o, rfl, h⟩
  · exact .inl h
  · by_cases hl : l = []
    · exact .inl hl
    · exact .inr ⟨g, o, rfl, fun j hj => (hb.cell (p := ⟨g, o + j, none⟩) (hp hl ⟨g, o, none⟩ rfl)).trans (h j hj)⟩

/-- A row of the call's own, as a slice that lies. -/
theorem owned_slice {w : World} {B n : Nat} {l : List UInt8} {v : Value} (h : w.ownsRow B 5 1 v n (cellsL l)) : ∃ p c, v = .slice p n c ∧ l.length = n ∧ n ≤ c ∧ Lies w p l ∧ ∀ a, p = some a → B ≤ a.block ∧ a.block < w.heap.size := by
  have h0 := h
  have hl : l.length = n := by have := h.1; rw [cellsL_length] at this; omega
  rcases h.2 with ⟨rfl, rfl⟩ | ⟨g, cap, cur, rfl, h1, h2, h3, _⟩
  · exact ⟨none, 0, rfl, hl, Nat.le_refl _, .inl (List.eq_nil_of_length_eq_zero hl), fun a e => by cases e⟩
  · refine ⟨some ⟨g, 0, none⟩, cap, rfl, hl, h3, .inr ⟨g, 0, rfl, fun j hj => ?_⟩, fun a e => ?_⟩
    · have := h0.cells (g := g) rfl j (.int .u8 (l[j]).toNat) (by simp [cellsL, List.getElem?_map, List.getElem?_eq_getElem hj])
      simpa [Addr.add_lit] using this
    · cases e
      refine ⟨h1, ?_⟩
      rcases Nat.lt_or_ge g w.heap.size with hlt | hge
      · exact hlt
      · rw [Array.getElem?_eq_none hge] at h2; cases h2

/-- string(b) of a slice that lies so. -/
theorem conv_lies {w : World} {p : Option Addr} {l : List UInt8} (h : Lies w p l) {n c : Nat} (hn : l.length = n) : (convert 23 9 (.slice p n c)).run Ybaf.prog w = .ok (.string ⟨l.toArray⟩) w := by
  rcases h with rfl | ⟨g, o, rfl, hc⟩
  · obtain rfl : n = 0 := hn.symm
    rw [run_convert_bytes_string w 23 9 5 _ 0 c Ybaf.underlying23 Ybaf.underlying5 Ybaf.underlying9]
    cases p <;> simp [Conv.bytesToString, loadCells]
    all_goals rfl
  · rw [run_convert_bytes_arg w 23 5 Ybaf.underlying23 Ybaf.underlying5 g o n c (l.map fun b => (b.toNat : Int)) (by simpa using hn) (fun i hi => by
      rw [hc i (by omega)]
      simp [List.getD, List.getElem?_eq_getElem (show i < l.length by omega)]) 9 Ybaf.underlying9]
    simp [strOfNums]
    rw [show ((fun n : Int => UInt8.ofNat n.toNat) ∘ fun b : UInt8 => (b.toNat : Int)) = id from funext fun b => by simp]
    simp

set_option maxHeartbeats 400000 in
/-- bytes.Equal of two slices of the same bytes. -/
theorem equal_same (p q : Option Addr) (n c d : Nat) (l : List UInt8) (w : World) (hn : l.length = n) (hp : Lies w p l) (hq : Lies w q l) :
    Calls Ybaf.prog 8 #[.slice p n c, .slice q n d] w fun e w' => e = .returned (.bool true) ∧ w' = w := by
  have h1 := conv_lies hp (c := c) hn
  have h2 := conv_lies hq (c := d) hn
  go_enter Ybaf.func8, Ybaf.ntmps8
  go_wp2
  go_ret
  exact ⟨rfl, rfl⟩

/-- 'append(dst, b...)', dst a row of the call's own (or nil), b wherever, nil too. -/
theorem run_appendL (ty : TypeId) {w : World} {B n m c : Nat} {v : Value} {p : Option Addr} {k l : List UInt8} (hown : w.ownsRow B 5 1 v m (cellsL k)) (hB : B ≤ w.heap.size) (hL : Lies w p l) (hl : l.length = n) (hn : m + n ≤ 1000000000) :
    ∃ p' c' w1, (Builtin.append_ #[23, 23] ty #[v, .slice p n c]).run Ybaf.prog w = .ok (.slice p' (m + n) c') w1 ∧ w1.ownsRow B 5 1 (.slice p' (m + n) c') (m + n) (cellsL (k ++ l)) ∧ Below B w w1 := by
  obtain ⟨i0, hi, hz0, hz1, hz2⟩ := info_parts info5
  have main : ∀ ad, (∀ j u, (cellsL l)[j]? = some u → w.cell? (ad.add j) = some u) → ∃ p' c' w1, (Builtin.append_ #[23, 23] ty #[v, .slice (some ad) n c]).run Ybaf.prog w = .ok (.slice p' (m + n) c') w1 ∧ w1.ownsRow B 5 1 (.slice p' (m + n) c') (m + n) (cellsL (k ++ l)) ∧ Below B w w1 := by
    intro ad had
    obtain ⟨v', w', hr, h2, h3, _⟩ := run_append_own (P := Ybaf.prog) w B 23 ty 5 i0 (.int .u8 0) 1 1 Ybaf.underlying23 hi hz0 hz1 hz2 rfl (by decide) v m (cellsL k) hown ad n c (cellsL l) (by rw [cellsL_length]; omega) had (cellsL_one l) (by unfold maxLen; omega) (by omega) hB
    rw [cellsL_append] at h2
    obtain ⟨p', c', rfl, _⟩ := owned_slice h2
    exact ⟨p', c', w', hr, h2, (Below.refl _ _).grown h3 hB (fun k' hk => (hown.lt k' hk).1)⟩
  rcases hL with rfl | ⟨g, o, rfl, hc⟩
  · obtain rfl : n = 0 := hl.symm
    cases p with
    | some ad => exact main ad (fun j u h => by simp [cellsL] at h)
    | none =>
      obtain ⟨p', c', rfl, _, hr, _⟩ := owned_slice hown
      refine ⟨p', c', w, ?_, by simpa using hown, Below.refl _ _⟩
      simp [Builtin.append_, run_underlying Ybaf.underlying23, Builtin.lenOf, sizeOf, typeInfo, hi, hr]
      simp [run_firstCells_none]
      cases p' <;> simp [storeCells]
  · exact main _ (cellsL_at hc)

/-- The Builder at block D: its bytes so far are l, in a row behind it; no error. -/
structure Bld (D : Nat) (p : Option Addr) (c : Nat) (l : List UInt8) (w : World) : Prop where
  buf : w.cell? ⟨D, 0, none⟩ = some (.slice p l.length c)
  err : w.cell? ⟨D, 1, none⟩ = some .nilIface
  f0 : w.frozen? ⟨D, 0, none⟩ = false
  f1 : w.frozen? ⟨D, 1, none⟩ = false
  own : w.ownsRow (D + 1) 5 1 (.slice p l.length c) l.length (cellsL l)
  lt : D < w.heap.size

/-- What a step of the Builder leaves: the bytes l, and below it nothing has turned. -/
def Step (D : Nat) (l : List UInt8) (w w' : World) : Prop := ∃ p c, Bld D p c l w' ∧ Below D w w'

/-- The field buf takes a new row. -/
theorem Bld.store {D : Nat} {p p' : Option Addr} {c c' : Nat} {l l' : List UInt8} {w w1 : World} (h : Bld D p c l w) (hb : Below (D + 1) w w1) (hown : w1.ownsRow (D + 1) 5 1 (.slice p' l'.length c') l'.length (cellsL l')) : Step D l' w (w1.setCell ⟨D, 0, none⟩ (.slice p' l'.length c')) := by
  have c0 : w1.cell? ⟨D, 0, none⟩ = some (.slice p l.length c) := (hb.cell (p := ⟨D, 0, none⟩) (by show D < D + 1; omega)).trans h.buf
  have c1 : w1.cell? ⟨D, 1, none⟩ = some .nilIface := (hb.cell (p := ⟨D, 1, none⟩) (by show D < D + 1; omega)).trans h.err
  have g0 : w1.frozen? ⟨D, 0, none⟩ = false := (hb.frozen (p := ⟨D, 0, none⟩) (by show D < D + 1; omega)).trans h.f0
  have g1 : w1.frozen? ⟨D, 1, none⟩ = false := (hb.frozen (p := ⟨D, 1, none⟩) (by show D < D + 1; omega)).trans h.f1
  refine ⟨p', c', ⟨?_, ?_, ?_, ?_, ownsRow_setCell_below hown (by show D < D + 1; omega) _, ?_⟩, Below.setCell (hb.mono (Nat.le_succ D)) (p := ⟨D, 0, none⟩) (Nat.le_refl D) _⟩
  · simp [go_sem, c0]
  · simp [go_sem, c1]
  · simp [go_sem, g0]
  · simp [go_sem, g1]
  · have := hb.size
    have := h.lt
    simp [World.setCell]
    omega

/-- A literal slice of bytes, just made. -/
theorem lies_new (w : World) (l : List UInt8) : Lies (w.alloc (.cells (cellsL l).toArray 5)) (some ⟨w.heap.size, 0, none⟩) l := by
  refine .inr ⟨_, 0, rfl, fun j hj => ?_⟩
  have : (w.alloc (.cells (cellsL l).toArray 5)).cell? ⟨w.heap.size, 0 + j, none⟩ = (cellsL l).toArray[0 + j]? := by
    simp [go_sem]
  rw [this]
  simp [cellsL, List.getElem?_eq_getElem hj]

/-- All that a walk over 'b.buf = append(b.buf, ..)' wants; the source lies in the world w2 = w, or w with one new block. -/
theorem Bld.grow {D : Nat} {p q : Option Addr} {c d n : Nat} {l k : List UInt8} {w w2 : World} (h : Bld D p c l w) (hw : Below (D + 1) w w2) (hL : Lies w2 q k) (hk : k.length = n) (hlen : l.length + n ≤ 1000000000) (hown2 : w2.ownsRow (D + 1) 5 1 (.slice p l.length c) l.length (cellsL l)) :
    ∃ p' c' w1, (Builtin.append_ #[23, 23] 23 #[.slice p l.length c, .slice q n d]).run Ybaf.prog w2 = .ok (.slice p' (l.length + n) c') w1 ∧ w1.cell? ⟨D, 0, none⟩ = some (.slice p l.length c) ∧ w1.frozen? ⟨D, 0, none⟩ = false ∧
      Hid (Step D (l ++ k) w (w1.setCell ⟨D, 0, none⟩ (.slice p' (l.length + n) c'))) := by
  have hB : D + 1 ≤ w2.heap.size := by have := hw.size; have := h.lt; omega
  obtain ⟨p', c', w1, hr, hown, hb⟩ := run_appendL (c := d) 23 hown2 hB hL hk hlen
  have hb1 := hw.trans hb
  have e : (l ++ k).length = l.length + n := by rw [List.length_append, hk]
  refine ⟨p', c', w1, hr, (hb1.cell (p := ⟨D, 0, none⟩) (by show D < D + 1; omega)).trans h.buf, (hb1.frozen (p := ⟨D, 0, none⟩) (by show D < D + 1; omega)).trans h.f0, ?_⟩
  have := h.store (l' := l ++ k) (p' := p') (c' := c') hb1 (by rw [e]; exact hown)
  rw [e] at this
  exact this

end Go.Proofs.YbulkbujwFmt
