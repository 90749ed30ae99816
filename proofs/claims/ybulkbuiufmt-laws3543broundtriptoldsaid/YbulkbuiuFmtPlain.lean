/-
  The plain side of the two laws over wire.decoder.uint: no Go in sight, but for the values' names.
-/
import Derived.Lib.VarintDec
import GoSem.Core.Value
namespace Go.Proofs.YbulkbuiuFmt
open Go

/-- Is the varint at the front of l there, within 64 bits, and in its shortest form? -/
def shortB (l : List UInt8) : Bool :=
  decide (0 < (Lib.uvarintDec l).2) && !(decide (1 < (Lib.uvarintDec l).2) && ((l[((Lib.uvarintDec l).2 - 1).toNat]?.getD 0).toNat == 0))

def pYes (v : Nat) (n : Int) : Value := .tuple #[.int .u64 v, .int .i64 n, .bool true]
def pNo : Value := .tuple #[.int .u64 0, .int .i64 0, .bool false]
/-- What zzs3543bparse answers. -/
def pOf (l : List UInt8) : Value := if shortB l then pYes (Lib.uvarintDec l).1 (Lib.uvarintDec l).2 else pNo

theorem pOf_neg {l : List UInt8} {v : Nat} {n : Int} (h : Lib.uvarintDec l = (v, n)) (hn : n ≤ 0) : pOf l = pNo := by
  have : shortB l = false := by
    unfold shortB
    rw [h]
    have : ¬ 0 < n := by omega
    simp [this]
  rw [pOf, this]
  rfl

theorem short_hit {l : List UInt8} {v k : Nat} {b : UInt8} (h : Lib.uvarintDec l = (v, (k : Int) + 1)) (hb : l[k]? = some b) : shortB l = !(decide (0 < k) && (b.toNat == 0)) := by
  unfold shortB
  rw [h]
  have e : ((k : Int) + 1 - 1).toNat = k := by omega
  have h0 : decide (0 < (k : Int) + 1) = true := decide_eq_true (by omega)
  have h1 : decide (1 < (k : Int) + 1) = decide (0 < k) := by
    rw [decide_eq_decide]; omega
  simp only [e, hb, h0, h1, Option.getD_some, Bool.true_and]

theorem pOf_hit {l : List UInt8} {v k : Nat} {b : UInt8} (h : Lib.uvarintDec l = (v, (k : Int) + 1)) (hb : l[k]? = some b) (hz : ¬ (0 < k ∧ b.toNat = 0)) : pOf l = pYes v ((k : Int) + 1) := by
  have : shortB l = true := by
    rw [short_hit h hb]
    by_cases hk : 0 < k
    · have : ¬ b.toNat = 0 := fun e => hz ⟨hk, e⟩
      simp [hk, this]
    · simp [hk]
  rw [pOf, this, h]
  rfl

theorem pOf_zero {l : List UInt8} {v k : Nat} {b : UInt8} (h : Lib.uvarintDec l = (v, (k : Int) + 1)) (hb : l[k]? = some b) (hz : 0 < k ∧ b.toNat = 0) : pOf l = pNo := by
  have : shortB l = false := by
    rw [short_hit h hb]
    simp [hz.1, hz.2]
  rw [pOf, this]
  rfl

theorem from_ten (a : Nat) (l : List UInt8) : (Lib.uvarintFrom 10 a l).2 ≤ 0 := by
  cases l <;> simp [Lib.uvarintFrom]

/-- Every answer of the decoder: none (n ≤ 0), or the place of the last byte. -/
theorem from_shape : ∀ (l : List UInt8) (i acc : Nat), (∃ v k, Lib.uvarintFrom i acc l = (v, k) ∧ k ≤ (0 : Int)) ∨ ∃ (v m : Nat) (b : UInt8), Lib.uvarintFrom i acc l = (v, ((i + m : Nat) : Int) + 1) ∧ m < l.length ∧ l[m]? = some b
  | [], i, acc => .inl ⟨0, 0, rfl, Int.le_refl 0⟩
  | b :: r, i, acc => by
    by_cases h10 : i = 10
    · exact .inl ⟨0, _, by rw [Lib.uvarintFrom, if_pos h10], by omega⟩
    · by_cases hb : b.toNat < 128
      · by_cases h9 : i = 9 ∧ 1 < b.toNat
        · exact .inl ⟨0, _, by rw [Lib.uvarintFrom, if_neg h10, if_pos hb, if_pos h9], by omega⟩
        · exact .inr ⟨_, 0, b, by rw [Lib.uvarintFrom, if_neg h10, if_pos hb, if_neg h9]; rfl, by simp, rfl⟩
      · rcases from_shape r (i + 1) (acc + b.toNat % 128 * 2 ^ (7 * i)) with ⟨v, k, h1, h2⟩ | ⟨v, m, b', h1, h2, h3⟩
        · exact .inl ⟨v, k, by rw [Lib.uvarintFrom, if_neg h10, if_neg hb]; exact h1, h2⟩
        · refine .inr ⟨v, m + 1, b', ?_, by simp; omega, by simpa using h3⟩
          rw [Lib.uvarintFrom, if_neg h10, if_neg hb, h1]
          congr 2
          omega

theorem dec_shape (l : List UInt8) : (∃ v k, Lib.uvarintDec l = (v, k) ∧ k ≤ (0 : Int)) ∨ ∃ (v m : Nat) (b : UInt8), Lib.uvarintDec l = (v, (m : Int) + 1) ∧ m < l.length ∧ l[m]? = some b := by
  rcases from_shape l 0 0 with h | ⟨v, m, b, h1, h2, h3⟩
  · exact .inl h
  · exact .inr ⟨v, m, b, by simpa [Lib.uvarintDec] using h1, h2, h3⟩

end Go.Proofs.YbulkbuiuFmt
