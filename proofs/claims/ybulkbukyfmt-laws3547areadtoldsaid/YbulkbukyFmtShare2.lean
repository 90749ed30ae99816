/-
  LawS3547ARead: what the cases of a number share.
-/
import Derived.Test.YbulkbukyFmtShare
namespace Go.Proofs.YbulkbukyFmt
open Go.RowKit

theorem bel {w wr W : World} (h1 : Below w.heap.size w wr) (h2 : Below wr.heap.size (wr.alloc (.cells nine 25)) W) : Below w.heap.size w W :=
  have a1 : Below wr.heap.size wr W := ((Below.refl _ _).alloc (Nat.le_refl _) _).trans h2
  h1.trans (a1.mono h1.size)

theorem errs_two {w : World} (h : Errs w) : 2 ≤ w.heap.size := by
  obtain ⟨_, _, _, h2⟩ := h
  have := lt_of_cell h2
  exact this

theorem ascii_append {a b : ByteArray} (ha : ∀ c ∈ a.data.toList, c.toNat < 128) (hb : ∀ c ∈ b.data.toList, c.toNat < 128) : ∀ c ∈ (a ++ b).data.toList, c.toNat < 128 := by
  intro c hc
  rw [ByteArray.data_append, Array.toList_append, List.mem_append] at hc
  exact hc.elim (ha c) (hb c)

theorem ascii_digits (l : List UInt8) : ∀ c ∈ (digits l).data.toList, c.toNat < 128 := fun c hc => by
  have := digits_mem l c hc
  omega

/-- The text ahead of the third token, and the digits. -/
def srcB (l : List UInt8) : ByteArray := headB ++ digits l
theorem ascii_src (l : List UInt8) : ∀ c ∈ (srcB l).data.toList, c.toNat < 128 := ascii_append (by decide) (ascii_digits l)
theorem src_size (l : List UInt8) : (srcB l).size = 13 + l.length := by
  rw [srcB, ByteArray.size_append, digits_size]
  rfl
theorem src1_size (l : List UInt8) (x : UInt8) : (srcB l ++ ⟨#[x]⟩).size = 13 + l.length + 1 := by
  rw [ByteArray.size_append, src_size]
  rfl
theorem ascii_src1 (l : List UInt8) (x : UInt8) (hx : x.toNat < 128) : ∀ c ∈ (srcB l ++ ⟨#[x]⟩).data.toList, c.toNat < 128 := ascii_append (ascii_src l) (by
  intro c hc
  have : c = x := by simpa using hc
  rw [this]
  exact hx)

theorem value_bad (l : List UInt8) (hn : l.length ≤ 1024) (h : ∀ u, Lib.parseUintB 63 (digits l).data.toList ≠ .ok u) (w : World) :
    Calls Ybaf.prog 7 #[.string (digits l)] w fun e w' => e = .returned (.tuple #[.int .i64 0, .bool false]) ∧ w' = w := by
  refine (value_any (digits l) (digits_mem l) (by rw [digits_size]; omega) w).mono fun e w' ⟨he, hw⟩ => ⟨?_, hw⟩
  rw [he]
  rcases hx : Lib.parseUintB 63 (digits l).data.toList with u | _ | _
  · exact absurd hx (h u)
  · rfl
  · rfl

theorem value_ok (l : List UInt8) (hn : l.length ≤ 1024) (u : Nat) (h : Lib.parseUintB 63 (digits l).data.toList = .ok u) (w : World) :
    Calls Ybaf.prog 7 #[.string (digits l)] w fun e w' => e = .returned (.tuple #[.int .i64 u, .bool true]) ∧ w' = w := by
  refine (value_any (digits l) (digits_mem l) (by rw [digits_size]; omega) w).mono fun e w' ⟨he, hw⟩ => ⟨?_, hw⟩
  rw [he, h]
  rfl
end Go.Proofs.YbulkbukyFmt
