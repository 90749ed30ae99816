/-
  LawS3547ARead: what its cases share.
-/
import Derived.Test.YbulkbukyFmtRun
import Derived.Maps.AppendAt
namespace Go.Proofs.YbulkbukyFmt
open Go.RowKit

theorem alloc_size (w : World) (o : Obj) : (w.alloc o).heap.size = w.heap.size + 1 := by simp

/-- A token is appended: in the walk's words. -/
theorem Toks.app' {base n : Nat} {v : Value} {xs : List Value} {w : World} (h : Toks base n v xs w) (N Q : Nat) (hN : N = n + 1) (hQ : Q = w.heap.size) (h3 : 3 ≤ n) (hn : n ≤ 7) (kd : Int) (tx : ByteArray) (tp : Nat) :
    ∃ T c w', (Builtin.append_ #[26, 26] 26 #[v, .slice (some ⟨Q, 0, none⟩) 1 1]).run Ybaf.prog (w.alloc (.cells #[.int .u8 kd, .string tx, .int .i64 tp] 25)) = .ok (.slice (some ⟨T, 0, none⟩) N c) w' ∧ Toks base N (.slice (some ⟨T, 0, none⟩) N c) (xs ++ tokc kd tx tp) w' ∧ Below base w w' := by
  subst hN hQ
  obtain ⟨v', w', hr, ht, hb⟩ := h.app hn kd tx tp
  obtain ⟨T, c, rfl, _⟩ := ht.slice (by omega)
  exact ⟨T, c, w', hr, ht, hb⟩

def headB : ByteArray := ⟨#[83, 69, 76, 69, 67, 84, 32, 83, 76, 69, 69, 80, 40]⟩

theorem below_drewN {B : Nat} {a w : World} (h : Below B a w) (k : Nat) : Below B a (w.drewN k) := by
  induction k with
  | zero => exact h
  | succ k ih => exact ih.drew

theorem fin {w wr W w2 : World} {src : ByteArray} {v : Value} (h1 : Below w.heap.size w wr) (h2 : Below wr.heap.size (wr.alloc (.cells nine 25)) W) (h3 : Kp W.heap.size (parserAt W src v) w2) (k : Nat) : Below w.heap.size w (w2.drewN k) := by
  have a1 : Below wr.heap.size wr W := ((Below.refl _ _).alloc (Nat.le_refl _) _).trans h2
  have a2 : Below w.heap.size w W := h1.trans (a1.mono h1.size)
  have a3 : Below w.heap.size w (parserAt W src v) := a2.alloc a2.size _
  exact below_drewN (a3.trans (h3.below a2.size a3.size)) k

theorem fin0 {w wr W w2 : World} {src : ByteArray} {v : Value} (h1 : Below w.heap.size w wr) (h2 : Below wr.heap.size (wr.alloc (.cells nine 25)) W) (h3 : Kp W.heap.size (parserAt W src v) w2) : Below w.heap.size w w2 := fin h1 h2 h3 0
end Go.Proofs.YbulkbukyFmt
