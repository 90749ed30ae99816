/-
  LawS3547ARead: p.sleep() over the row of tokens that the law lays.
-/
import Derived.Test.YbulkbukyFmtRow
namespace Go.Proofs.YbulkbukyFmt
open Go.RowKit

/-- The first three tokens' cells. -/
def nine : Array Value := #[.int .u8 1, .string ⟨#[83, 69, 76, 69, 67, 84]⟩, .int .i64 0, .int .u8 1, .string ⟨#[83, 76, 69, 69, 80]⟩, .int .i64 7, .int .u8 5, .string ⟨#[40]⟩, .int .i64 12]

/-- A row of tokens of the call's own, as the walk carries it. -/
structure Toks (base n : Nat) (v : Value) (xs : List Value) (w : World) : Prop where
  own : w.ownsRow base 25 3 v n (nine.toList ++ xs)
  base : base ≤ w.heap.size

theorem toks0 (W : World) : Toks W.heap.size 3 (.slice (some ⟨W.heap.size, 0, none⟩) 3 3) [] (W.alloc (.cells nine 25)) :=
  ⟨by rw [List.append_nil]; exact own0 W.heap.size W (Nat.le_refl _) nine rfl, by simp⟩

/-- A token is appended. -/
theorem Toks.app {base n : Nat} {v : Value} {xs : List Value} {w : World} (h : Toks base n v xs w) (hn : n ≤ 7) (kd : Int) (tx : ByteArray) (tp : Nat) :
    ∃ v' w', (Builtin.append_ #[26, 26] 26 #[v, .slice (some ⟨w.heap.size, 0, none⟩) 1 1]).run Ybaf.prog (w.alloc (.cells #[.int .u8 kd, .string tx, .int .i64 tp] 25)) = .ok v' w' ∧ Toks base (n + 1) v' (xs ++ tokc kd tx tp) w' ∧ Below base w w' := by
  have ho := h.own.alloc (.cells #[.int .u8 kd, .string tx, .int .i64 tp] 25)
  have hs : base ≤ (w.alloc (.cells #[.int .u8 kd, .string tx, .int .i64 tp] 25)).heap.size := Nat.le_trans h.base (by simp)
  obtain ⟨v', w', hr, h2, hg⟩ := app1 base n v _ _ ho kd tx tp w.heap.size (heap_alloc_new _ _) (by omega) hs
  have hb : Below base w w' := ((Below.refl base w).alloc h.base _).grown hg hs (fun k hk => by
    rcases h.own.2 with ⟨rfl, _⟩ | ⟨g, cap, cur, rfl, hbg, _⟩
    · simp [Value.ownBlock] at hk
    · simp [Value.ownBlock] at hk
      omega)
  exact ⟨v', w', hr, ⟨by rw [← List.append_assoc]; exact h2, Nat.le_trans h.base hb.size⟩, hb⟩

/-- The world with the parser in it. -/
def parserAt (W : World) (src : ByteArray) (v : Value) : World := W.alloc (.cells #[.string src, v, .int .i64 1, .int .i64 0] 29)

theorem Toks.slice {base n : Nat} {v : Value} {xs : List Value} {W : World} (h : Toks base n v xs W) (hn : 3 ≤ n) :
    ∃ T c, v = .slice (some ⟨T, 0, none⟩) n c ∧ T < W.heap.size ∧ ∀ j u, (nine.toList ++ xs)[j]? = some u → W.cell? ⟨T, j, none⟩ = some u := by
  rcases h.own.2 with ⟨rfl, h0⟩ | ⟨g, cap, cur, rfl, hbg, hg, _⟩
  · omega
  · refine ⟨g, cap, rfl, ?_, fun j u hj => ?_⟩
    · rcases Nat.lt_or_ge g W.heap.size with hx | hx
      · exact hx
      · rw [Array.getElem?_eq_none hx] at hg
        cases hg
    · have := h.own.cells (g := g) rfl j u hj
      rwa [add0] at this

theorem Toks.ready {base n : Nat} {v : Value} {xs : List Value} {W : World} (h : Toks base n v xs W) (hn : 4 ≤ n) (hn8 : n ≤ 8) (src : ByteArray) :
    ∃ T c, Ready W.heap.size T n c src (parserAt W src v) ∧ ∀ i kd tx tp, (nine.toList ++ xs)[i * 3]? = some (.int .u8 kd) → (nine.toList ++ xs)[i * 3 + 1]? = some (.string tx) → (nine.toList ++ xs)[i * 3 + 2]? = some (.int .i64 (tp : Nat)) → Tok T i kd tx tp (parserAt W src v) := by
  obtain ⟨T, c, rfl, hT, hc⟩ := h.slice (by omega)
  have hold : ∀ j u, (nine.toList ++ xs)[j]? = some u → (parserAt W src (.slice (some ⟨T, 0, none⟩) n c)).cell? ⟨T, j, none⟩ = some u := fun j u hj => by
    rw [parserAt, World.cell?_alloc_past _ _ _ hT]
    exact hc j u hj
  have htok : ∀ i kd tx tp, (nine.toList ++ xs)[i * 3]? = some (.int .u8 kd) → (nine.toList ++ xs)[i * 3 + 1]? = some (.string tx) → (nine.toList ++ xs)[i * 3 + 2]? = some (.int .i64 (tp : Nat)) → Tok T i kd tx tp (parserAt W src (.slice (some ⟨T, 0, none⟩) n c)) :=
    fun i kd tx tp h1 h2 h3 => ⟨hold _ _ h1, hold _ _ h2, hold _ _ h3⟩
  refine ⟨T, c, ⟨⟨?_, ?_, ?_, ?_⟩, htok 1 _ _ _ rfl rfl rfl, htok 2 _ _ _ rfl rfl rfl, hn, hn8, by omega⟩, htok⟩
  · rw [parserAt, World.cell?_alloc_new]; rfl
  · rw [parserAt, World.cell?_alloc_new]; rfl
  · rw [parserAt, World.cell?_alloc_new]; rfl
  · exact World.frozen?_alloc_new _ _ _ _

/-- A third token that is no number. -/
theorem slp_kind {base n : Nat} {v : Value} {xs : List Value} {W : World} (h : Toks base n v xs W) (hn : 4 ≤ n) (hn8 : n ≤ 8) (src : ByteArray) (kd : Int) (tx : ByteArray) (tp : Nat) (r : List Value) (hx : xs = tokc kd tx tp ++ r)
    (hk : kd ≠ 3) (ho : tp ≤ src.size) (hm : src.size ≤ 4096) (ha : ∀ c ∈ src.data.toList, c.toNat < 128) :
    ∃ T c, Calls Ybaf.prog 5 #[.pointer (some ⟨W.heap.size, 0, none⟩)] (parserAt W src v) fun e w' => SleepErr W.heap.size T n c src tp msgKind (parserAt W src v) e w' := by
  obtain ⟨T, c, hR, ht⟩ := h.ready hn hn8 src
  have h3 := ht 3 kd tx tp (by subst hx; rfl) (by subst hx; rfl) (by subst hx; rfl)
  exact ⟨T, c, sleep_err _ T n c src tp msgKind _ hR fun W' hP hK => seconds_fail _ _ _ _ W' (unsigned_kind _ T n c src msgKind msgBig 3 kd tx tp W' hP (hK.tok h3 hR.ne) (by omega) hn8 hk ho hm ha)⟩

/-- A third token that spells no number of 63 bits. -/
theorem slp_big {base n : Nat} {v : Value} {xs : List Value} {W : World} (h : Toks base n v xs W) (hn : 4 ≤ n) (hn8 : n ≤ 8) (src : ByteArray) (tx : ByteArray) (tp : Nat) (r : List Value) (hx : xs = tokc 3 tx tp ++ r)
    (hz : tx.size ≤ 4096) (hbad : ∀ u, Lib.parseUintB 63 tx.data.toList ≠ .ok u) (hE : Errs W) (h2 : 2 ≤ W.heap.size) (ho : tp ≤ src.size) (hm : src.size ≤ 4096) (ha : ∀ c ∈ src.data.toList, c.toNat < 128) :
    ∃ T c, Calls Ybaf.prog 5 #[.pointer (some ⟨W.heap.size, 0, none⟩)] (parserAt W src v) fun e w' => SleepErr W.heap.size T n c src tp msgBig (parserAt W src v) e w' := by
  obtain ⟨T, c, hR, ht⟩ := h.ready hn hn8 src
  have h3 := ht 3 3 tx tp (by subst hx; rfl) (by subst hx; rfl) (by subst hx; rfl)
  have hE1 : Errs (parserAt W src v) := hE.below ((Below.refl _ _).alloc (Nat.le_refl _) _)
  exact ⟨T, c, sleep_err _ T n c src tp msgBig _ hR fun W' hP hK => seconds_fail _ _ _ _ W' (unsigned_bad _ T n c src msgKind msgBig 3 tx tp W' hP (hK.tok h3 hR.ne) (by omega) hn8 hz hbad (hE1.kp hK h2) ho hm ha)⟩

theorem ok_le {l : List UInt8} {u : Nat} (h : Lib.parseUintB 63 l = .ok u) : u ≤ 9223372036854775807 := by
  have := Lib.parseUintB_le h
  have e : (2 : Nat) ^ 63 - 1 = 9223372036854775807 := by decide
  omega

/-- A number and a ')'. -/
theorem slp_ok {base n : Nat} {v : Value} {xs : List Value} {W : World} (h : Toks base n v xs W) (hn : 5 ≤ n) (hn8 : n ≤ 8) (src : ByteArray) (tx : ByteArray) (tp tp4 : Nat) (r : List Value) (hx : xs = tokc 3 tx tp ++ tokc 5 ⟨#[41]⟩ tp4 ++ r)
    (hz : tx.size ≤ 4096) (u : Nat) (hok : Lib.parseUintB 63 tx.data.toList = .ok u) :
    ∃ T c, Calls Ybaf.prog 5 #[.pointer (some ⟨W.heap.size, 0, none⟩)] (parserAt W src v) fun e w' => SleepOk W.heap.size T n c src u (parserAt W src v) e w' := by
  obtain ⟨T, c, hR, ht⟩ := h.ready (by omega) hn8 src
  have h3 := ht 3 3 tx tp (by subst hx; rfl) (by subst hx; rfl) (by subst hx; rfl)
  have h4 := ht 4 5 ⟨#[41]⟩ tp4 (by subst hx; rfl) (by subst hx; rfl) (by subst hx; rfl)
  exact ⟨T, c, sleep_ok _ T n c src u _ hR (fun W' hP hK => seconds_ok _ u (ok_le hok) W' _ (unsigned_ok _ T n c src msgKind msgBig 3 tx tp u W' hP (hK.tok h3 hR.ne) (by omega) hn8 hz hok))
    (fun W' hP hK => expect_yes _ T n c src 4 ⟨#[41]⟩ tp4 W' hP (hK.tok h4 hR.ne) (by omega) hn8)⟩

/-- A number and no ')'. -/
theorem slp_but {base n : Nat} {v : Value} {xs : List Value} {W : World} (F : Go.Stop.Interp) (hF : F.answers W.tape) (h : Toks base n v xs W) (hn : 5 ≤ n) (hn8 : n ≤ 8) (src : ByteArray) (tx : ByteArray) (tp tp4 : Nat) (kd : Int) (tx4 : ByteArray) (r : List Value) (hx : xs = tokc 3 tx tp ++ tokc kd tx4 tp4 ++ r)
    (hz : tx.size ≤ 4096) (u : Nat) (hok : Lib.parseUintB 63 tx.data.toList = .ok u) (hno : (kd == 5 && (tx4.toList == (⟨#[41]⟩ : ByteArray).toList)) = false) (ho : tp4 ≤ src.size) (hm : src.size ≤ 4096) (ha : ∀ c ∈ src.data.toList, c.toNat < 128) :
    ∃ T c, Calls Ybaf.prog 5 #[.pointer (some ⟨W.heap.size, 0, none⟩)] (parserAt W src v) fun e w' => SleepBut W.heap.size T n c src u tp4 (parserAt W src v) e w' := by
  obtain ⟨T, c, hR, ht⟩ := h.ready (by omega) hn8 src
  have h3 := ht 3 3 tx tp (by subst hx; rfl) (by subst hx; rfl) (by subst hx; rfl)
  have h4 := ht 4 kd tx4 tp4 (by subst hx; rfl) (by subst hx; rfl) (by subst hx; rfl)
  exact ⟨T, c, sleep_but _ T n c src u tp4 _ hR (fun W' hP hK => seconds_ok _ u (ok_le hok) W' _ (unsigned_ok _ T n c src msgKind msgBig 3 tx tp u W' hP (hK.tok h3 hR.ne) (by omega) hn8 hz hok))
    (fun W' hP hK => expect_no F _ T n c src 4 kd tx4 tp4 W' (by rw [hK.tape]; exact hF) hP (hK.tok h4 hR.ne) (by omega) hn8 hno ho hm ha)⟩
end Go.Proofs.YbulkbukyFmt
