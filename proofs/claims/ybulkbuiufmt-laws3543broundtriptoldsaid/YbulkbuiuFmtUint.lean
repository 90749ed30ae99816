/-
  The contracts of (*decoder).fail, (*decoder).uint, fmt.Errorf at a text without a verb, bytes.Equal at equal bytes.
-/
import Derived.Test.YbulkbuiuFmtPlain
import Derived.Test.YbulkbuiuFmtShelf
import Derived.WalkKit
import Derived.WalkSpells
import Derived.Stop.FmtLaws
import Derived.Laws.BytesArg
namespace Go.Proofs.YbulkbuiuFmt
open Go.RowKit Go.Extern.Stop Go.Stop Go.Extern

theorem call13 (args : Array Value) (w : World) : (callFunc 13 args).run Ybaf.prog w = ((FmtStop.errorf #[9, 44] #[24] args).run Ybaf.prog w).andThen fun v w' => .ok (.value v) w' :=
  run_callFunc_extern Ybaf.func13 (by kernel_rfl) (by kernel_rfl) (by kernel_rfl) (by kernel_rfl) args w
theorem guard (name : String) (w : World) : (FmtStop.guard name).run Ybaf.prog w = .ok () w := by kernel_rfl
/-- bad or missing integer -/
def txtBad : ByteArray := ⟨#[98, 97, 100, 32, 111, 114, 32, 109, 105, 115, 115, 105, 110, 103, 32, 105, 110, 116, 101, 103, 101, 114]⟩
/-- integer not in its shortest form -/
def txtLong : ByteArray := ⟨#[105, 110, 116, 101, 103, 101, 114, 32, 110, 111, 116, 32, 105, 110, 32, 105, 116, 115, 32, 115, 104, 111, 114, 116, 101, 115, 116, 32, 102, 111, 114, 109]⟩
attribute [local go_sem] call13 guard

theorem errorf_plain (s : ByteArray) (h1 : ¬ (37 : UInt8) ∈ s.data) (w : World) :
    Calls Ybaf.prog 12 #[.string s, .slice none 0 0] w fun e w' => e = .returned (.iface 37 (.pointer (some ⟨w.heap.size, 0, none⟩))) ∧ w' = w.alloc (.cells #[.string s] 39) := by
  go_enter Ybaf.func12, Ybaf.ntmps12
  go_wp2
  go_ret
  exact ⟨rfl, rfl⟩

theorem fail_plain (s : ByteArray) (h1 : ¬ (37 : UInt8) ∈ s.data) (D : Nat) (v : Value) (w : World)
    (hD : D < w.heap.size) (c0 : w.cell? ⟨D, 0, none⟩ = some v) (c1 : w.cell? ⟨D, 1, none⟩ = some .nilIface) (f0 : w.frozen? ⟨D, 0, none⟩ = false) (f1 : w.frozen? ⟨D, 1, none⟩ = false) :
    Calls Ybaf.prog 11 #[.pointer (some ⟨D, 0, none⟩), .string s, .slice none 0 0] w fun e w' => e = .returned (.tuple #[]) ∧
      w' = ((w.setCell ⟨D, 1, none⟩ (.iface 37 (.pointer (some ⟨w.heap.size, 0, none⟩)))).setCell ⟨D, 0, none⟩ (.slice none 0 0)).alloc (.cells #[.string s] 39) := by
  go_enter Ybaf.func11, Ybaf.ntmps11
  go_wp2_with (go_at_call 12; refine (errorf_plain s h1 _).mono ?_; rintro e w' ⟨rfl, rfl⟩)
  go_end0
  exact ⟨rfl, rfl⟩

def Lies (w : World) (p : Option Addr) (l : List UInt8) : Prop := l = [] ∨ ∃ g o, p = some ⟨g, o, none⟩ ∧ ∀ j (hj : j < l.length), w.cell? ⟨g, o + j, none⟩ = some (.int .u8 (l[j]).toNat)

theorem Lies.mono {w w' : World} {p : Option Addr} {l : List UInt8} (h : Lies w p l) (hc : ∀ a v, w.cell? a = some v → (∀ g o, p = some ⟨g, o, none⟩ → a.block = g) → w'.cell? a = some v) : Lies w' p l := by
  rcases h with h | ⟨g, o, rfl, h⟩
  · exact .inl h
  · refine .inr ⟨g, o, rfl, fun j hj => hc _ _ (h j hj) ?_⟩
    intro g' o' e
    cases e
    rfl

/-- The field b has moved on past m + 1 bytes. -/
def Moved (D g n m : Nat) (l : List UInt8) (w w' : World) : Prop := ∃ o' c', w' = w.setCell ⟨D, 0, none⟩ (.slice (some ⟨g, o', none⟩) (n - (m + 1)) c') ∧ Lies w (some ⟨g, o', none⟩) (l.drop (m + 1))

theorem moved_end {D g o n m : Nat} {l : List UInt8} {w : World} (hl : l.length = n) (h : n ≤ m + 1) : Moved D g n m l w (w.setCell ⟨D, 0, none⟩ (.slice (some ⟨g, o, none⟩) (n - (m + 1)) 0)) :=
  ⟨_, _, rfl, .inl (List.drop_eq_nil_of_le (by omega))⟩

theorem moved_mid {D g o n m c' : Nat} {l : List UInt8} {w : World} (hcell : ∀ j (hj : j < l.length), w.cell? ⟨g, o + j, none⟩ = some (.int .u8 (l[j]).toNat)) : Moved D g n m l w (w.setCell ⟨D, 0, none⟩ (.slice (some ⟨g, o + (m + 1), none⟩) (n - (m + 1)) c')) := by
  refine ⟨_, _, rfl, .inr ⟨g, o + (m + 1), rfl, fun j hj => ?_⟩⟩
  have h1 : m + 1 + j < l.length := by rw [List.length_drop] at hj; omega
  rw [List.getElem_drop, Nat.add_assoc]
  exact hcell (m + 1 + j) h1

set_option maxHeartbeats 1000000 in
theorem uint_yes (D g o n c v m : Nat) (l : List UInt8) (b : UInt8) (w : World) (hl : l.length = n) (hnc : n ≤ c) (hlim : n ≤ 1000000000000) (hD : D < w.heap.size)
    (c0 : w.cell? ⟨D, 0, none⟩ = some (.slice (some ⟨g, o, none⟩) n c)) (c1 : w.cell? ⟨D, 1, none⟩ = some .nilIface) (f0 : w.frozen? ⟨D, 0, none⟩ = false)
    (hcell : ∀ j (hj : j < l.length), w.cell? ⟨g, o + j, none⟩ = some (.int .u8 (l[j]).toNat)) (hdec : Lib.uvarintDec l = (v, (m : Int) + 1)) (hm : m < n) (hb : l[m]? = some b) (hz : ¬ (0 < m ∧ b.toNat = 0)) :
    Calls Ybaf.prog 6 #[.pointer (some ⟨D, 0, none⟩)] w fun e w' => e = .returned (.int .u64 v) ∧ Moved D g n m l w w' := by
  have hU := Ybaf.binary_Uvarint g o n c l w hl hcell
  rw [hdec] at hU
  have HU : Hid (Calls Ybaf.prog 10 #[.slice (some ⟨g, o, none⟩) n c] w fun e w' => e = .returned (.tuple #[.int .u64 v, .int .i64 ((m : Int) + 1)]) ∧ w' = w) := hU
  have hbc : w.cell? ⟨g, o + m, none⟩ = some (.int .u8 b.toNat) := by
    rw [hcell m (by omega)]
    obtain ⟨h1, h2⟩ := List.getElem?_eq_some_iff.1 hb
    rw [h2]
  have HC : Hid (∀ j (hj : j < l.length), w.cell? ⟨g, o + j, none⟩ = some (.int .u8 (l[j]).toNat)) := hcell
  clear hU hcell hdec hb
  by_cases hm0 : 0 < m
  · have hb0 : ¬ b.toNat = 0 := fun e => hz ⟨hm0, e⟩
    clear hz
    go_enter Ybaf.func6, Ybaf.ntmps6
    go_wp2_with (go_at_call 10; refine HU.out.mono ?_; rintro e w' ⟨rfl, rfl⟩)
    · go_ret
      exact ⟨rfl, moved_end hl (by omega)⟩
    · go_ret
      exact ⟨rfl, moved_mid HC.out⟩
  · have hm1 : m = 0 := by omega
    subst hm1
    clear hz hbc
    go_enter Ybaf.func6, Ybaf.ntmps6
    go_wp2_with (go_at_call 10; refine HU.out.mono ?_; rintro e w' ⟨rfl, rfl⟩)
    · go_ret
      exact ⟨rfl, moved_end hl (by omega)⟩
    · go_ret
      exact ⟨rfl, moved_mid HC.out⟩

/-- What (*decoder).uint leaves where it takes m + 1 bytes. -/
structure After (D n m : Nat) (l : List UInt8) (q : Option Addr) (c' : Nat) (w w' : World) : Prop where
  cell0 : w'.cell? ⟨D, 0, none⟩ = some (.slice q (n - (m + 1)) c')
  cell1 : w'.cell? ⟨D, 1, none⟩ = some .nilIface
  lies : Lies w' q (l.drop (m + 1))
  below : Below D w w'

theorem uint_after (D g o n c v m : Nat) (l : List UInt8) (b : UInt8) (w : World) (hl : l.length = n) (hnc : n ≤ c) (hlim : n ≤ 1000000000000) (hD : D < w.heap.size) (hgD : g < D)
    (c0 : w.cell? ⟨D, 0, none⟩ = some (.slice (some ⟨g, o, none⟩) n c)) (c1 : w.cell? ⟨D, 1, none⟩ = some .nilIface) (f0 : w.frozen? ⟨D, 0, none⟩ = false)
    (hcell : ∀ j (hj : j < l.length), w.cell? ⟨g, o + j, none⟩ = some (.int .u8 (l[j]).toNat)) (hdec : Lib.uvarintDec l = (v, (m : Int) + 1)) (hm : m < n) (hb : l[m]? = some b) (hz : ¬ (0 < m ∧ b.toNat = 0)) :
    Calls Ybaf.prog 6 #[.pointer (some ⟨D, 0, none⟩)] w fun e w' => e = .returned (.int .u64 v) ∧ ∃ q c', After D n m l q c' w w' := by
  refine (uint_yes D g o n c v m l b w hl hnc hlim hD c0 c1 f0 hcell hdec hm hb hz).mono fun e w' ⟨he, o', c', hw, hq⟩ => ⟨he, some ⟨g, o', none⟩, c', ?_⟩
  subst hw
  have ne : ∀ x, (w.setCell ⟨D, 0, none⟩ (.slice (some ⟨g, o', none⟩) (n - (m + 1)) c')).cell? ⟨g, x, none⟩ = w.cell? ⟨g, x, none⟩ := fun x =>
    World.cell?_of_block (w := w) (Below.heap_setCell _ _ _ _ (by show g ≠ D; omega))
  refine ⟨?_, ?_, ?_, Below.setCell (Below.refl D w) (p := ⟨D, 0, none⟩) (Nat.le_refl D) _⟩
  · simp [go_sem, c0]
  · simp [go_sem, c1]
  · rcases hq with hq | ⟨g', o2, e, hq⟩
    · exact .inl hq
    · cases e
      exact .inr ⟨g, o', rfl, fun j hj => by rw [ne]; exact hq j hj⟩

/-- What d.fail leaves: an error in the field err, no bytes in the field b, one new block. -/
def failed (D : Nat) (s : ByteArray) (w : World) : World := ((w.setCell ⟨D, 1, none⟩ (.iface 37 (.pointer (some ⟨w.heap.size, 0, none⟩)))).setCell ⟨D, 0, none⟩ (.slice none 0 0)).alloc (.cells #[.string s] 39)

theorem no37bad : ¬ (37 : UInt8) ∈ txtBad.data := by decide +kernel
theorem no37long : ¬ (37 : UInt8) ∈ txtLong.data := by decide +kernel

theorem failBad (D : Nat) (v : Value) (w : World) (hD : D < w.heap.size)
    (c0 : w.cell? ⟨D, 0, none⟩ = some v) (c1 : w.cell? ⟨D, 1, none⟩ = some .nilIface) (f0 : w.frozen? ⟨D, 0, none⟩ = false) (f1 : w.frozen? ⟨D, 1, none⟩ = false) :
    Calls Ybaf.prog 11 #[.pointer (some ⟨D, 0, none⟩), .string ⟨#[98, 97, 100, 32, 111, 114, 32, 109, 105, 115, 115, 105, 110, 103, 32, 105, 110, 116, 101, 103, 101, 114]⟩, .slice none 0 0] w fun e w' => e = .returned (.tuple #[]) ∧ w' = failed D txtBad w :=
  fail_plain txtBad no37bad D v w hD c0 c1 f0 f1
theorem failLong (D : Nat) (v : Value) (w : World) (hD : D < w.heap.size)
    (c0 : w.cell? ⟨D, 0, none⟩ = some v) (c1 : w.cell? ⟨D, 1, none⟩ = some .nilIface) (f0 : w.frozen? ⟨D, 0, none⟩ = false) (f1 : w.frozen? ⟨D, 1, none⟩ = false) :
    Calls Ybaf.prog 11 #[.pointer (some ⟨D, 0, none⟩), .string ⟨#[105, 110, 116, 101, 103, 101, 114, 32, 110, 111, 116, 32, 105, 110, 32, 105, 116, 115, 32, 115, 104, 111, 114, 116, 101, 115, 116, 32, 102, 111, 114, 109]⟩, .slice none 0 0] w fun e w' => e = .returned (.tuple #[]) ∧ w' = failed D txtLong w :=
  fail_plain txtLong no37long D v w hD c0 c1 f0 f1

set_option maxHeartbeats 1000000 in
/-- With an earlier error: 0, and nothing is touched. -/
theorem uint_early (D : Nat) (t : TypeId) (x : Value) (w : World) (c1 : w.cell? ⟨D, 1, none⟩ = some (.iface t x)) :
    Calls Ybaf.prog 6 #[.pointer (some ⟨D, 0, none⟩)] w fun e w' => e = .returned (.int .u64 0) ∧ w' = w := by
  go_enter Ybaf.func6, Ybaf.ntmps6
  go_wp2
  go_ret
  exact ⟨rfl, rfl⟩

set_option maxHeartbeats 1000000 in
/-- Bytes that are no varint of 64 bits. The slice lies wherever. -/
theorem uint_bad (D n c : Nat) (p : Option Addr) (w : World) (hD : D < w.heap.size) (k : Int) (hk : k ≤ 0) (v : Nat)
    (c0 : w.cell? ⟨D, 0, none⟩ = some (.slice p n c)) (c1 : w.cell? ⟨D, 1, none⟩ = some .nilIface) (f0 : w.frozen? ⟨D, 0, none⟩ = false) (f1 : w.frozen? ⟨D, 1, none⟩ = false)
    (HU : Hid (Calls Ybaf.prog 10 #[.slice p n c] w fun e w' => e = .returned (.tuple #[.int .u64 v, .int .i64 k]) ∧ w' = w)) :
    Calls Ybaf.prog 6 #[.pointer (some ⟨D, 0, none⟩)] w fun e w' => e = .returned (.int .u64 0) ∧ w' = failed D txtBad w := by
  go_enter Ybaf.func6, Ybaf.ntmps6
  go_wp2_with (first | (go_at_call 10; refine HU.out.mono ?_; rintro e w' ⟨rfl, rfl⟩) | (go_at_call 11; refine (failBad D _ _ hD c0 c1 f0 f1).mono ?_; rintro e w' ⟨rfl, rfl⟩))
  go_ret
  exact ⟨rfl, rfl⟩

set_option maxHeartbeats 1000000 in
/-- A varint that is not in its shortest form. -/
theorem uint_long (D g o n c v m : Nat) (w : World) (hlim : n ≤ 1000000000000) (hD : D < w.heap.size)
    (c0 : w.cell? ⟨D, 0, none⟩ = some (.slice (some ⟨g, o, none⟩) n c)) (c1 : w.cell? ⟨D, 1, none⟩ = some .nilIface) (f0 : w.frozen? ⟨D, 0, none⟩ = false) (f1 : w.frozen? ⟨D, 1, none⟩ = false)
    (hbc : w.cell? ⟨g, o + m, none⟩ = some (.int .u8 0)) (hm : m < n) (hm0 : 0 < m)
    (HU : Hid (Calls Ybaf.prog 10 #[.slice (some ⟨g, o, none⟩) n c] w fun e w' => e = .returned (.tuple #[.int .u64 v, .int .i64 ((m : Int) + 1)]) ∧ w' = w)) :
    Calls Ybaf.prog 6 #[.pointer (some ⟨D, 0, none⟩)] w fun e w' => e = .returned (.int .u64 0) ∧ w' = failed D txtLong w := by
  go_enter Ybaf.func6, Ybaf.ntmps6
  go_wp2_with (first | (go_at_call 10; refine HU.out.mono ?_; rintro e w' ⟨rfl, rfl⟩) | (go_at_call 11; refine (failLong D _ _ hD c0 c1 f0 f1).mono ?_; rintro e w' ⟨rfl, rfl⟩))
  go_ret
  exact ⟨rfl, rfl⟩
/-- string(b) of a slice that lies so. -/
theorem conv_lies {w : World} {p : Option Addr} {l : List UInt8} (h : Lies w p l) {n c : Nat} (hn : l.length = n) : (convert 22 9 (.slice p n c)).run Ybaf.prog w = .ok (.string ⟨l.toArray⟩) w := by
  rcases h with rfl | ⟨g, o, rfl, hc⟩
  · obtain rfl : n = 0 := hn.symm
    rw [run_convert_bytes_string w 22 9 5 _ 0 c Ybaf.underlying22 Ybaf.underlying5 Ybaf.underlying9]
    cases p <;> simp [Conv.bytesToString, loadCells]
    all_goals rfl
  · rw [run_convert_bytes_arg w 22 5 Ybaf.underlying22 Ybaf.underlying5 g o n c (l.map fun b => (b.toNat : Int)) (by simpa using hn) (fun i hi => by
      rw [hc i (by omega)]
      simp [List.getD, List.getElem?_eq_getElem (show i < l.length by omega)]) 9 Ybaf.underlying9]
    simp [strOfNums]
    rw [show ((fun n : Int => UInt8.ofNat n.toNat) ∘ fun b : UInt8 => (b.toNat : Int)) = id from funext fun b => by simp]
    simp

set_option maxHeartbeats 400000 in
/-- bytes.Equal of two slices of the same bytes. -/
theorem equal_same (p q : Option Addr) (n c d : Nat) (l : List UInt8) (w : World) (hn : l.length = n) (hp : Lies w p l) (hq : Lies w q l) :
    Calls Ybaf.prog 7 #[.slice p n c, .slice q n d] w fun e w' => e = .returned (.bool true) ∧ w' = w := by
  have h1 := conv_lies hp (c := c) hn
  have h2 := conv_lies hq (c := d) hn
  go_enter Ybaf.func7, Ybaf.ntmps7
  go_wp2
  go_ret
  exact ⟨rfl, rfl⟩
end Go.Proofs.YbulkbuiuFmt
