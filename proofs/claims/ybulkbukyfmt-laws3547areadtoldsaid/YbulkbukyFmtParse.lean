import Derived.Test.YbulkbukyFmtProg
import Derived.WalkKit
import Derived.WalkSpells
import Derived.RegionTactic
import Derived.BigRegion
import Derived.Lib.Builder
import Derived.Deep.QuietTactic
import Derived.BigQuiet
namespace Go.Proofs.YbulkbukyFmt
open Go.RowKit

theorem hid {p : Prop} (h : p) : Hid p := h

theorem lt_of_cell {w : World} {a : Addr} {v : Value} (h : w.cell? a = some v) : a.block < w.heap.size := by
  unfold World.cell? at h
  rcases Nat.lt_or_ge a.block w.heap.size with h' | h'
  · exact h'
  · rw [Array.getElem?_eq_none h'] at h
    cases h

/-- The parser in block B: its text, its row of tokens (n in block T), its place. -/
structure Ps (B T n c : Nat) (src : ByteArray) (pos : Nat) (w : World) : Prop where
  src : w.cell? ⟨B, 0, none⟩ = some (.string src)
  toks : w.cell? ⟨B, 1, none⟩ = some (.slice (some ⟨T, 0, none⟩) n c)
  pos : w.cell? ⟨B, 2, none⟩ = some (.int .i64 pos)
  froz : w.frozen? ⟨B, 2, none⟩ = false

/-- The token i of the row in block T. -/
structure Tok (T i : Nat) (kd : Int) (tx : ByteArray) (tp : Nat) (w : World) : Prop where
  kd : w.cell? ⟨T, i * 3, none⟩ = some (.int .u8 kd)
  tx : w.cell? ⟨T, i * 3 + 1, none⟩ = some (.string tx)
  tp : w.cell? ⟨T, i * 3 + 2, none⟩ = some (.int .i64 tp)

/-- The world behind a call of the parser's: the blocks that were there, but the parser's own, are as they were. -/
structure Kp (B : Nat) (w w' : World) : Prop where
  os : w'.os = w.os
  tape : w'.tape = w.tape
  output : w'.output = w.output
  size : w.heap.size ≤ w'.heap.size
  block : ∀ k, k < w.heap.size → k ≠ B → w'.heap[k]? = w.heap[k]?

theorem Kp.of_below {B : Nat} {w w' : World} (h : Below w.heap.size w w') : Kp B w w' := ⟨h.os, h.tape, h.output, h.size, fun k hk _ => h.block k hk⟩
theorem Kp.refl (B : Nat) (w : World) : Kp B w w := ⟨rfl, rfl, rfl, Nat.le_refl _, fun _ _ _ => rfl⟩
theorem Kp.trans {B : Nat} {a b c : World} (h : Kp B a b) (k : Kp B b c) : Kp B a c :=
  ⟨k.os.trans h.os, k.tape.trans h.tape, k.output.trans h.output, Nat.le_trans h.size k.size, fun i hi hne => (k.block i (Nat.lt_of_lt_of_le hi h.size) hne).trans (h.block i hi hne)⟩
theorem Kp.cell {B : Nat} {w w' : World} (h : Kp B w w') {p : Addr} (hp : p.block < w.heap.size) (hne : p.block ≠ B) : w'.cell? p = w.cell? p := World.cell?_of_block (w := w) (h.block p.block hp hne)
theorem Kp.below {B C : Nat} {w w' : World} (h : Kp B w w') (hC : C ≤ B) (hs : C ≤ w.heap.size) : Below C w w' := ⟨h.os, h.tape, h.output, h.size, fun k hk => h.block k (by omega) (by omega)⟩
theorem Kp.tok {B : Nat} {w w' : World} (h : Kp B w w') {T i : Nat} {kd : Int} {tx : ByteArray} {tp : Nat} (hT : Tok T i kd tx tp w) (hne : T ≠ B) : Tok T i kd tx tp w' :=
  have hl : T < w.heap.size := lt_of_cell hT.kd
  ⟨(h.cell (p := ⟨T, i * 3, none⟩) hl hne).trans hT.kd, (h.cell (p := ⟨T, i * 3 + 1, none⟩) hl hne).trans hT.tx, (h.cell (p := ⟨T, i * 3 + 2, none⟩) hl hne).trans hT.tp⟩
theorem Ps.below {B T n c : Nat} {src : ByteArray} {pos : Nat} {w w' : World} (h : Ps B T n c src pos w) (hb : Below w.heap.size w w') : Ps B T n c src pos w' :=
  have hl : B < w.heap.size := lt_of_cell h.src
  ⟨(hb.cell (p := ⟨B, 0, none⟩) hl).trans h.src, (hb.cell (p := ⟨B, 1, none⟩) hl).trans h.toks, (hb.cell (p := ⟨B, 2, none⟩) hl).trans h.pos, (hb.frozen (p := ⟨B, 2, none⟩) hl).trans h.froz⟩
theorem Tok.below {T i : Nat} {kd : Int} {tx : ByteArray} {tp : Nat} {w w' : World} (h : Tok T i kd tx tp w) (hb : Below w.heap.size w w') : Tok T i kd tx tp w' :=
  have hl : T < w.heap.size := lt_of_cell h.kd
  ⟨(hb.cell (p := ⟨T, i * 3, none⟩) hl).trans h.kd, (hb.cell (p := ⟨T, i * 3 + 1, none⟩) hl).trans h.tx, (hb.cell (p := ⟨T, i * 3 + 2, none⟩) hl).trans h.tp⟩

set_option maxHeartbeats 1000000 in
theorem peek_any (B T n c : Nat) (src : ByteArray) (i : Nat) (kd : Int) (tx : ByteArray) (tp : Nat) (w : World) (hP : Ps B T n c src i w) (hT : Tok T i kd tx tp w) (hi : i < n) (_hn : n ≤ 8) :
    Calls Ybaf.prog 21 #[.pointer (some ⟨B, 0, none⟩)] w fun e w' => e = .returned (.agg #[.int .u8 kd, .string tx, .int .i64 tp]) ∧ Below w.heap.size w w' := by
  have h1 := hP.toks
  have h2 := hP.pos
  have h3 := hT.kd
  have h4 := hT.tx
  have h5 := hT.tp
  have hB : B < w.heap.size := lt_of_cell h1
  have hTl : T < w.heap.size := lt_of_cell h3
  clear hP hT
  go_enter Ybaf.func21, Ybaf.ntmps21
  go_wp2
  go_region
  go_wp2
  exact bodyPost_ret (results_cell_row (by rfl) _ _ w.heap.size 25 _ (0, 0) _ (by rfl) (heap_alloc_new _ _) Ybaf.underlying25 rfl (by kernel_rfl)) rfl ⟨rfl, ((Below.refl _ _).alloc (Nat.le_refl _) _).drew⟩

set_option maxHeartbeats 1000000 in
theorem next_any (B T n c : Nat) (src : ByteArray) (i : Nat) (kd : Int) (tx : ByteArray) (tp : Nat) (w : World) (hP : Ps B T n c src i w) (hT : Tok T i kd tx tp w) (hi : i < n) (hn : n ≤ 8) (hk : kd ≠ 0) :
    Calls Ybaf.prog 11 #[.pointer (some ⟨B, 0, none⟩)] w fun e w' => e = .returned (.tuple #[]) ∧ Ps B T n c src (i + 1) w' ∧ Kp B w w' := by
  have H0 := hid hP
  have h1 := hP.toks
  have h2 := hP.pos
  have hf := hP.froz
  have h3 := hT.kd
  have hkb : (kd == 0) = false := by simpa using hk
  clear hP hT hk
  go_enter Ybaf.func11, Ybaf.ntmps11
  go_wp2
  go_region
  go_wp2
  go_end0
  refine ⟨rfl, ⟨?_, ?_, ?_, ?_⟩, ?_⟩
  · show (w.setCell _ _).cell? _ = _
    exact (World.cell?_setCell_other _ _ _ _ (by simp)).trans H0.out.src
  · show (w.setCell _ _).cell? _ = _
    exact (World.cell?_setCell_other _ _ _ _ (by simp)).trans H0.out.toks
  · show (w.setCell _ _).cell? _ = _
    exact World.cell?_setCell_same _ _ _ h2
  · show (w.setCell _ _).frozen? _ = _
    rw [World.frozen?_setCell]
    exact hf
  · exact ⟨rfl, rfl, rfl, by simp [World.setCell], fun k hk hne => Below.heap_setCell _ _ _ _ hne⟩

set_option maxHeartbeats 1000000 in
theorem isSymbol_any (kd : Int) (tx s : ByteArray) (tp : Nat) (w : World) :
    Calls Ybaf.prog 20 #[.agg #[.int .u8 kd, .string tx, .int .i64 tp], .string s] w fun e w' => e = .returned (.bool (kd == 5 && (tx.toList == s.toList))) ∧ Below w.heap.size w w' := by
  go_enter Ybaf.func20, Ybaf.ntmps20
  by_cases h : kd = 5
  · subst h
    go_wp2
    go_ret
    exact ⟨rfl, (Below.refl _ _).alloc (Nat.le_refl _) _⟩
  · have hb : (kd == 5) = false := by simpa using h
    clear h
    go_wp2
    go_ret
    exact ⟨by rw [hb]; rfl, (Below.refl _ _).alloc (Nat.le_refl _) _⟩

set_option maxHeartbeats 1000000 in
theorem accept_yes (B T n c : Nat) (src : ByteArray) (i : Nat) (tx : ByteArray) (tp : Nat) (w : World) (hP : Ps B T n c src i w) (hT : Tok T i 5 tx tp w) (hi : i < n) (hn : n ≤ 8) :
    Calls Ybaf.prog 15 #[.pointer (some ⟨B, 0, none⟩), .string tx] w fun e w' => e = .returned (.bool true) ∧ Ps B T n c src (i + 1) w' ∧ Kp B w w' := by
  have HP := hid hP
  have HT := hid hT
  have hself : (tx.toList == tx.toList) = true := by simp
  clear hP hT
  go_enter Ybaf.func15, Ybaf.ntmps15
  go_wp2_with (go_at_call 21; refine (peek_any B T n c src i 5 tx tp _ HP.out HT.out hi hn).mono ?_)
  rintro e W1 ⟨rfl, hb1⟩
  go_wp2_with (go_at_call 20; refine (isSymbol_any 5 tx tx tp W1).mono ?_)
  rintro e W2 ⟨rfl, hb2⟩
  have hb : Below w.heap.size w W2 := hb1.trans (hb2.mono hb1.size)
  have HP2 := hid (HP.out.below hb)
  have HT2 := hid (HT.out.below hb)
  have Hb := hid hb
  clear hb hb1 hb2
  go_wp2_with (go_at_call 11; refine (next_any B T n c src i 5 tx tp W2 HP2.out HT2.out hi hn (by decide)).mono ?_)
  rintro e W3 ⟨rfl, h3, h4⟩
  have H3 := hid h3
  have H4 := hid h4
  clear h3 h4
  go_wp2
  go_ret
  exact ⟨rfl, H3.out, (Kp.of_below Hb.out).trans H4.out⟩

set_option maxHeartbeats 1000000 in
theorem accept_no (B T n c : Nat) (src : ByteArray) (i : Nat) (kd : Int) (tx s : ByteArray) (tp : Nat) (w : World) (hP : Ps B T n c src i w) (hT : Tok T i kd tx tp w) (hi : i < n) (hn : n ≤ 8) (hno : (kd == 5 && (tx.toList == s.toList)) = false) :
    Calls Ybaf.prog 15 #[.pointer (some ⟨B, 0, none⟩), .string s] w fun e w' => e = .returned (.bool false) ∧ Below w.heap.size w w' := by
  have HP := hid hP
  have HT := hid hT
  clear hP hT
  go_enter Ybaf.func15, Ybaf.ntmps15
  go_wp2_with (go_at_call 21; refine (peek_any B T n c src i kd tx tp _ HP.out HT.out hi hn).mono ?_)
  rintro e W1 ⟨rfl, hb1⟩
  go_wp2_with (go_at_call 20; refine (isSymbol_any kd tx s tp W1).mono ?_)
  rw [hno]
  rintro e W2 ⟨rfl, hb2⟩
  have hb : Below w.heap.size w W2 := hb1.trans (hb2.mono hb1.size)
  have Hb := hid hb
  clear hb hb1 hb2
  go_wp2
  go_ret
  exact ⟨rfl, Hb.out⟩

theorem start_ascii : ∀ b : Nat, b < 128 → (bits BinOp.and IntKind.u8 (b : Int) 192 != 128) = true := by decide

theorem runeStart_ascii (b : Nat) (hb : b < 128) (w : World) : Calls Ybaf.prog 28 #[.int .u8 b] w fun e w' => e = .returned (.bool true) ∧ w' = w := by
  go_enter Ybaf.func28, Ybaf.ntmps28
  go_wp2
  go_ret
  refine ⟨?_, rfl⟩
  rw [← start_ascii b hb]
  rfl

/-- The text that a SyntaxError quotes. -/
def nearB (src : ByteArray) (off : Nat) : ByteArray := if 40 < src.size - off then (src.extract off src.size).extract 0 40 ++ ⟨#[46, 46, 46]⟩ else src.extract off src.size

set_option maxHeartbeats 1000000 in
theorem near_any (src : ByteArray) (off : Nat) (ho : off ≤ src.size) (_hm : src.size ≤ 4096) (w : World) :
    Calls Ybaf.prog 14 #[.string src, .int .i64 off] w fun e w' => e = .returned (.string (nearB src off)) ∧ w' = w := by
  go_enter Ybaf.func14, Ybaf.ntmps14
  by_cases h : 40 < src.size - off
  · have en : nearB src off = (src.extract off src.size).extract 0 40 ++ ⟨#[46, 46, 46]⟩ := if_pos h
    rw [en]
    clear en
    go_wp2
    go_ret
    exact ⟨rfl, rfl⟩
  · have en : nearB src off = src.extract off src.size := if_neg h
    rw [en]
    clear en
    go_wp2
    go_ret
    exact ⟨rfl, rfl⟩

/-- A SyntaxError in block N. -/
structure Err (N : Nat) (off : Nat) (near msg : ByteArray) (w : World) : Prop where
  off : w.cell? ⟨N, 0, none⟩ = some (.int .i64 off)
  near : w.cell? ⟨N, 1, none⟩ = some (.string near)
  msg : w.cell? ⟨N, 2, none⟩ = some (.string msg)

theorem ascii_at (src : ByteArray) (off : Nat) (ha : ∀ c ∈ src.data.toList, c.toNat < 128) (h : 40 < (src.extract off src.size).size) : ((src.extract off src.size)[40]).toNat < 128 := by
  refine ha _ ?_
  have h2 : off + 40 < src.size := by
    rw [ByteArray.size_extract] at h
    omega
  have e : (src.extract off src.size)[40] = src[off + 40] := ByteArray.getElem_extract ..
  rw [e]
  show src.data[off + 40] ∈ _
  exact Array.mem_toList_iff.2 (Array.getElem_mem _)

theorem err_new (w : World) (off : Nat) (near msg : ByteArray) : Err w.heap.size off near msg (w.alloc (.cells #[.int .i64 off, .string near, .string msg] 52)) :=
  ⟨World.cell?_alloc_new _ _ _ _, World.cell?_alloc_new _ _ _ _, World.cell?_alloc_new _ _ _ _⟩

set_option maxHeartbeats 1000000 in
theorem syntaxError_any (src msg : ByteArray) (off : Nat) (ho : off ≤ src.size) (_hm : src.size ≤ 4096) (ha : ∀ c ∈ src.data.toList, c.toNat < 128) (w : World) :
    Calls Ybaf.prog 24 #[.string src, .int .i64 off, .string msg] w fun e w' => ∃ N, w.heap.size ≤ N ∧ e = .returned (.pointer (some ⟨N, 0, none⟩)) ∧ Err N off (nearB src off) msg w' ∧ Below w.heap.size w w' := by
  by_cases h : 40 < src.size - off
  · have en : nearB src off = (src.extract off src.size).extract 0 40 ++ ⟨#[46, 46, 46]⟩ := if_pos h
    rw [en]
    have hb := start_ascii _ (ascii_at src off ha (by rw [ByteArray.size_extract]; omega))
    clear en ha
    go_enter Ybaf.func24, Ybaf.ntmps24
    go_wp2
    go_loop [8] (fun v => v = .int .i64 40) (fun _ => 0)
    case atStart => rfl
    case round =>
      subst hrel
      go_wp2
      go_ret
      exact ⟨_, Nat.le_refl _, rfl, err_new _ _ _ _, (Below.refl _ _).alloc (Nat.le_refl _) _⟩
  · have en : nearB src off = src.extract off src.size := if_neg h
    rw [en]
    clear en ha
    go_enter Ybaf.func24, Ybaf.ntmps24
    go_wp2
    go_ret
    exact ⟨_, Nat.le_refl _, rfl, err_new _ _ _ _, (Below.refl _ _).alloc (Nat.le_refl _) _⟩
end Go.Proofs.YbulkbukyFmt
