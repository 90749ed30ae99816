/-
  What is encoded is what is decoded.
-/
import Derived.Test.YbulkbuiuFmtPlain
import Derived.Lib.Varint
namespace Go.Proofs.YbulkbuiuFmt
open Go

theorem toUInt8_nat {a : Nat} (h : a < 256) : a.toUInt8.toNat = a := by
  show a % 256 = a
  omega

theorem from_enc (t : List UInt8) : ∀ (n y i acc : Nat), y ≤ n → i ≤ 9 → y * 2 ^ (7 * i) < 2 ^ 64 → Lib.uvarintFrom i acc (Lib.uvarint y ++ t) = (acc + y * 2 ^ (7 * i), ((i + (Lib.uvarint y).length : Nat) : Int))
  | n, y, i, acc, hn, hi, hy => by
    by_cases hs : y < 128
    · rw [Lib.uvarint_small hs]
      have hb : (y.toUInt8).toNat = y := toUInt8_nat (by omega)
      have h10 : ¬ i = 10 := by omega
      have h9 : ¬ (i = 9 ∧ 1 < y) := by
        rintro ⟨rfl, h⟩
        have e : (2 : Nat) ^ (7 * 9) = 9223372036854775808 := by decide
        have e2 : (2 : Nat) ^ 64 = 18446744073709551616 := by decide
        rw [e, e2] at hy
        omega
      simp only [List.cons_append, List.nil_append, Lib.uvarintFrom, hb, if_neg h10, if_pos hs, if_neg h9, List.length_singleton]
      congr 1
    · have h128 : 128 ≤ y := by omega
      rw [Lib.uvarint_big h128]
      have hb : ((y % 128 + 128).toUInt8).toNat = y % 128 + 128 := toUInt8_nat (by omega)
      have h10 : ¬ i = 10 := by omega
      have hnl : ¬ (y % 128 + 128 < 128) := by omega
      have em : (y % 128 + 128) % 128 = y % 128 := by omega
      have ep : (2 : Nat) ^ (7 * (i + 1)) = 2 ^ (7 * i) * 128 := by rw [show 7 * (i + 1) = 7 * i + 7 by omega, Nat.pow_add]
      have hsplit : y = y / 128 * 128 + y % 128 := by omega
      have hval : y / 128 * 2 ^ (7 * (i + 1)) + y % 128 * 2 ^ (7 * i) = y * 2 ^ (7 * i) := by
        rw [ep]
        conv => rhs; rw [hsplit]
        rw [Nat.add_mul, Nat.mul_assoc, Nat.mul_comm 128]
      have hi8 : i ≤ 8 := by
        rcases Nat.lt_or_ge i 9 with h | h
        · omega
        · exfalso
          have : i = 9 := by omega
          subst this
          have e : (2 : Nat) ^ (7 * 9) = 9223372036854775808 := by decide
          have e2 : (2 : Nat) ^ 64 = 18446744073709551616 := by decide
          rw [e, e2] at hy
          omega
      cases n with
      | zero => omega
      | succ n =>
        have ih := from_enc t n (y / 128) (i + 1) (acc + y % 128 * 2 ^ (7 * i)) (by omega) (by omega) (by omega)
        simp only [List.cons_append, Lib.uvarintFrom, hb, if_neg h10, if_neg hnl, em]
        rw [ih]
        congr 1
        · omega
        · simp only [List.length_cons]
          omega

theorem dec_enc (x : Nat) (hx : x < 18446744073709551616) (t : List UInt8) : Lib.uvarintDec (Lib.uvarint x ++ t) = (x, ((Lib.uvarint x).length : Int)) := by
  have e2 : (2 : Nat) ^ 64 = 18446744073709551616 := by decide
  have h := from_enc t x x 0 0 (Nat.le_refl _) (by omega) (by rw [e2]; simpa using hx)
  simpa [Lib.uvarintDec] using h

/-- The last byte of an encoding. -/
theorem enc_last : ∀ (n y : Nat), y ≤ n → ∃ m b, (Lib.uvarint y).length = m + 1 ∧ (Lib.uvarint y)[m]? = some b ∧ (1 ≤ y → b.toNat ≠ 0) ∧ (y = 0 → m = 0)
  | n, y, hn => by
    by_cases hs : y < 128
    · rw [Lib.uvarint_small hs]
      exact ⟨0, y.toUInt8, rfl, rfl, fun h => by rw [toUInt8_nat (by omega)]; omega, fun _ => rfl⟩
    · have h128 : 128 ≤ y := by omega
      rw [Lib.uvarint_big h128]
      cases n with
      | zero => omega
      | succ n =>
        obtain ⟨m, b, h1, h2, h3, _⟩ := enc_last n (y / 128) (by omega)
        exact ⟨m + 1, b, by rw [List.length_cons, h1], by simpa using h2, fun _ => h3 (by omega), fun h => by omega⟩

/-- All that the walk wants of the decoder at an encoding and whatever follows it. -/
theorem round_plain (x : Nat) (hx : x < 18446744073709551616) (t : List UInt8) : ∃ m b, (Lib.uvarint x).length = m + 1 ∧ Lib.uvarintDec (Lib.uvarint x ++ t) = (x, (m : Int) + 1) ∧ (Lib.uvarint x ++ t)[m]? = some b ∧ ¬ (0 < m ∧ b.toNat = 0) := by
  obtain ⟨m, b, h1, h2, h3, h4⟩ := enc_last x x (Nat.le_refl _)
  refine ⟨m, b, h1, ?_, ?_, ?_⟩
  · rw [dec_enc x hx t, h1]
    rfl
  · rw [List.getElem?_append_left (by omega)]
    exact h2
  · rintro ⟨hm, hb⟩
    exact h3 (by
      rcases Nat.eq_zero_or_pos x with h | h
      · have := h4 h; omega
      · exact h) hb

end Go.Proofs.YbulkbuiuFmt
