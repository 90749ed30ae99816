/-
  LawS3547ARead: the row of digits, the row of tokens.
-/
import Derived.Test.YbulkbukyFmtSleep
import Derived.Test.YbulkbukyFmtValue
import Derived.Laws.AppendOwn
import Derived.Laws.IdiomStrings
import Derived.Lib.SlFresh
namespace Go.Proofs.YbulkbukyFmt
open Go.RowKit

/-- The slice at p bears the bytes l (no byte: wherever, nil too). -/
def Lies (w : World) (p : Option Addr) (l : List UInt8) : Prop := l = [] ∨ ∃ g o, p = some ⟨g, o, none⟩ ∧ g < w.heap.size ∧ ∀ j (hj : j < l.length), w.cell? ⟨g, o + j, none⟩ = some (.int .u8 (l[j]).toNat)

theorem Lies.byte {w wr : World} {p : Option Addr} {l : List UInt8} (h : Lies w p l) (hb : Below w.heap.size w wr) (j : Nat) (hj : j < l.length) : ∃ g o, p = some ⟨g, o, none⟩ ∧ wr.cell? ⟨g, o + j, none⟩ = some (.int .u8 (l[j]).toNat) := by
  rcases h with rfl | ⟨g, o, rfl, hg, hc⟩
  · simp at hj
  · exact ⟨g, o, rfl, (hb.cell (p := ⟨g, o + j, none⟩) hg).trans (hc j hj)⟩

theorem made_u8 (n : Nat) (hn : n ≤ 1024) (w : World) :
    (Instr.makeSlice 22 (.int .i64 n) (.int .i64 n)).run Ybaf.prog w = .ok (.slice (some ⟨w.heap.size, 0, none⟩) n n) (w.alloc (.cells (madeCells #[.int .u8 0] n) 5)) := by
  obtain ⟨i0, hi, hz0, hz1, hz2⟩ := info_parts (show (Ybaf.prog.info? 5).map (fun i => (i.zero, i.size, i.bytes)) = some (some (.int .u8 0), 1, 1) by kernel_rfl)
  have := run_make (P := Ybaf.prog) w 22 5 i0 (.int .u8 0) Ybaf.underlying22 hi hz0 .i64 .i64 n n (by omega) (Int.le_refl _) (by rw [hz2]; omega) (by omega)
  rw [hz1, Int.toNat_natCast, Nat.mul_one] at this
  exact this

theorem add0 (Q j : Nat) : (⟨Q, 0, none⟩ : Addr).add j = ⟨Q, j, none⟩ := by
  unfold Addr.add
  split <;> simp_all

/-- A byte's digit. -/
def dig (c : UInt8) : UInt8 := UInt8.ofNat (48 + c.toNat % 10)
theorem dig_toNat (c : UInt8) : (dig c).toNat = 48 + c.toNat % 10 := by
  unfold dig
  rw [UInt8.toNat_ofNat']
  omega

/-- The row of digits, k of them laid. -/
structure Fill (w : World) (l : List UInt8) (k : Nat) (wr : World) : Prop where
  size : wr.heap.size = w.heap.size + 1
  below : Below w.heap.size w wr
  done : ∀ j (h : j < l.length), j < k → wr.cell? ⟨w.heap.size, j, none⟩ = some (.int .u8 (dig l[j]).toNat)
  rest : ∀ j, k ≤ j → j < l.length → wr.cell? ⟨w.heap.size, j, none⟩ = some (.int .u8 0)
  froz : ∀ j, wr.frozen? ⟨w.heap.size, j, none⟩ = false

theorem fill_start (w : World) (l : List UInt8) (n : Nat) (hn : l.length = n) : Fill w l 0 (w.alloc (.cells (madeCells #[.int .u8 0] n) 5)) := by
  refine ⟨by simp, (Below.refl _ _).alloc (Nat.le_refl _) _, fun j _ h => by omega, fun j _ h => ?_, fun j => World.frozen?_alloc_new _ _ _ _⟩
  rw [World.cell?_alloc_new]
  have hj : j < n := by omega
  simp [madeCells, hj, Nat.mod_one]

theorem Fill.step {w wr : World} {l : List UInt8} {k : Nat} (h : Fill w l k wr) (hk : k < l.length) : Fill w l (k + 1) (wr.setCell ⟨w.heap.size, k, none⟩ (.int .u8 (48 + ((l[k]).toNat : Int) % 10))) := by
  refine ⟨by rw [← h.size]; simp [World.setCell], h.below.setCell (p := ⟨w.heap.size, k, none⟩) (Nat.le_refl _) _, fun j hj hlt => ?_, fun j hlt hj => ?_, fun j => (World.frozen?_setCell _ _ _ _).trans (h.froz j)⟩
  · by_cases e : j = k
    · subst e
      rw [World.cell?_setCell_same _ _ _ (h.rest j (Nat.le_refl _) hk), dig_toNat]
      rfl
    · rw [World.cell?_setCell_other _ _ _ _ (by simp; try omega)]
      exact h.done j hj (by omega)
  · rw [World.cell?_setCell_other _ _ _ _ (by simp; try omega)]
    exact h.rest j (by omega) hj

/-- The text of the digits. -/
def digits (l : List UInt8) : ByteArray := ⟨(l.map dig).toArray⟩

theorem Fill.text {w wr : World} {l : List UInt8} (h : Fill w l l.length wr) : (convert 22 9 (.slice (some ⟨w.heap.size, 0, none⟩) l.length l.length)).run Ybaf.prog wr = .ok (.string (digits l)) wr := by
  have := run_convert_bytes_back (P := Ybaf.prog) wr 22 9 5 ⟨w.heap.size, 0, none⟩ l.length (l.map dig) Ybaf.underlying22 Ybaf.underlying5 Ybaf.underlying9 (fun j hj => by
    have hj' : j < l.length := by simpa using hj
    have := h.done j hj' hj'
    rw [add0, this]
    simp)
  rw [List.length_map] at this
  exact this

theorem digits_size (l : List UInt8) : (digits l).size = l.length := by
  show (l.map dig).toArray.size = _
  simp
theorem digits_mem (l : List UInt8) : ∀ c ∈ (digits l).data.toList, 48 ≤ c.toNat ∧ c.toNat ≤ 57 := by
  intro c hc
  have : c ∈ l.map dig := by simpa [digits] using hc
  obtain ⟨x, _, rfl⟩ := List.mem_map.1 this
  rw [dig_toNat]
  omega

set_option maxHeartbeats 400000 in
set_option maxRecDepth 100000 in
theorem law_great (p : Option Addr) (n c : Nat) (k m : Int) (w : World) (hn : 1024 < n) :
    Calls Ybaf.prog 3 #[.slice p n c, .int .u8 k, .int .u8 m] w fun e w' => e = .returned (.bool true) ∧ Below w.heap.size w w' := by
  have hn' : (1024 : Int) < (n : Int) := by omega
  go_enter Ybaf.func3, Ybaf.ntmps3
  go_wp2
  go_ret
  exact ⟨rfl, Below.refl _ _⟩

/-- The cells of a token. -/
def tokc (kd : Int) (tx : ByteArray) (tp : Nat) : List Value := [.int .u8 kd, .string tx, .int .i64 tp]

/-- One token is appended. -/
theorem app1 (base n : Nat) (v : Value) (xs : List Value) (w : World) (hown : w.ownsRow base 25 3 v n xs) (kd : Int) (tx : ByteArray) (tp : Nat) (Q : Nat)
    (hq : w.heap[Q]? = some (.cells #[.int .u8 kd, .string tx, .int .i64 tp] 25 (0, 0))) (hn : n ≤ 8) (hbase : base ≤ w.heap.size) :
    ∃ v' w', (Builtin.append_ #[26, 26] 26 #[v, .slice (some ⟨Q, 0, none⟩) 1 1]).run Ybaf.prog w = .ok v' w' ∧ w'.ownsRow base 25 3 v' (n + 1) (xs ++ tokc kd tx tp) ∧ w.grownBy w' v.ownBlock := by
  obtain ⟨i, hi, hz, hs, hb⟩ := info_parts (show (Ybaf.prog.info? 25).map (fun i => (i.zero, i.size, i.bytes)) = some (some (.agg #[.int .u8 0, .string ⟨#[]⟩, .int .i64 0]), 3, 32) by kernel_rfl)
  obtain ⟨v', w', hr, ho, hg, _⟩ := run_append_own (P := Ybaf.prog) w base 26 26 25 i _ 3 32 Ybaf.underlying26 hi hz hs hb rfl (by omega) v n xs hown ⟨Q, 0, none⟩ 1 1 (tokc kd tx tp) rfl (fun j u hu => by
    have : w.cell? ⟨Q, j, none⟩ = #[Value.int .u8 kd, .string tx, .int .i64 tp][j]? := by
      rw [World.cell?, hq]
      simp
    rw [add0, this, ← hu]
    simp [tokc]) (by simp [tokc, Value.oneCell']) (by simp [maxLen]; omega) (by omega) hbase
  exact ⟨v', w', hr, ho, hg⟩

theorem own0 (base : Nat) (w : World) (hb : base ≤ w.heap.size) (xs : Array Value) (h : xs.size = 9) : (w.alloc (.cells xs 25)).ownsRow base 25 3 (.slice (some ⟨w.heap.size, 0, none⟩) 3 3) 3 xs.toList := by
  refine ⟨by simp [h], .inr ⟨w.heap.size, 3, xs, rfl, hb, heap_alloc_new _ _, Nat.le_refl _, by decide, by simp [h], ?_⟩⟩
  rw [List.take_of_length_le (by simp [h])]
end Go.Proofs.YbulkbukyFmt
