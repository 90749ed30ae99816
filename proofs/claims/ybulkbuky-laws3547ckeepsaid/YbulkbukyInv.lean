/-
  The state at the head of a round of the law's first loop, and what a round does to it.
-/
import Derived.Test.YbulkbukyLocks
import Derived.Laws.OwnMore
import Derived.Laws.Rows
namespace Go.Proofs.Ybulkbuky
open Go.RowKit

/-- A row of n cells of the call's own. -/
def RowAt (w : World) (b : Nat) (t : TypeId) (xs : List Value) (n : Nat) : Prop := w.heap[b]? = some (.cells xs.toArray t (0, 0)) ∧ xs.length = n

theorem RowAt.cell {w : World} {b : Nat} {t : TypeId} {xs : List Value} {n : Nat} (h : RowAt w b t xs n) (i : Nat) : w.cell? ⟨b, i, none⟩ = xs[i]? := by
  simp [World.cell?, h.1]
theorem RowAt.frozen {w : World} {b : Nat} {t : TypeId} {xs : List Value} {n : Nat} (h : RowAt w b t xs n) (i : Nat) : w.frozen? ⟨b, i, none⟩ = false := by
  simp [World.frozen?, h.1]
theorem RowAt.some {w : World} {b : Nat} {t : TypeId} {xs : List Value} {n : Nat} (h : RowAt w b t xs n) (i : Nat) (hi : i < n) : ∃ v, w.cell? ⟨b, i, none⟩ = some v ∧ w.frozen? ⟨b, i, none⟩ = false :=
  ⟨xs[i]'(by rw [h.2]; exact hi), by rw [h.cell]; exact List.getElem?_eq_getElem _, h.frozen i⟩

structure Inv (w : World) (U S X R L V n tg j : Nat) (a : Nat → Addr) (h : Nat → Int) (wr : World) : Prop where
  size : wr.heap.size = V + 1 + j
  below : Below w.heap.size w wr
  heapT : ∃ c t, wr.heap[w.heap.size]? = some (.cells c t (0, 0))
  heapU : ∃ c t, wr.heap[U]? = some (.cells c t (0, 0))
  x : wr.cell? ⟨X, 1, none⟩ = some (.pointer (some ⟨S, 0, none⟩))
  s : wr.cell? ⟨S, 7, none⟩ = some (.slice none 0 0)
  sf : wr.frozen? ⟨S, 7, none⟩ = false
  rR : ∃ xs, RowAt wr R 75 xs n ∧ ∀ i, i < j → xs[i]? = some (.pointer (some ⟨V + 1 + i, 0, none⟩))
  rL : ∃ xs, RowAt wr L 73 xs n ∧ ∀ i, i < j → xs[i]? = some (.pointer (some (a i)))
  rV : ∃ xs, RowAt wr V 74 xs n ∧ ∀ i, i < j → xs[i]? = some (.int .u8 (if i = tg then 2 else h i))
  lock : ∀ i, i < j → wr.cell? ⟨V + 1 + i, 3, none⟩ = some (.pointer (some (a i)))
  hold : ∀ i, i < j → wr.cell? ⟨V + 1 + i, 7, none⟩ = some (.int .u8 (h i))
  froz : ∀ i, i < j → wr.frozen? ⟨V + 1 + i, 7, none⟩ = false
  kind : ∀ i, i < j → a i = ⟨w.heap.size, 16, none⟩ ∨ a i = ⟨w.heap.size, 7, none⟩ ∨ a i = ⟨U, 16, none⟩
  uniq : ∀ i, i < j → ((a i = ⟨w.heap.size, 16, none⟩ ∧ h i = 1) ↔ i = tg)

theorem row_set {w : World} {b : Nat} {t : TypeId} {xs : List Value} {n : Nat} (h : RowAt w b t xs n) (j : Nat) (v : Value) : RowAt (w.setCell ⟨b, j, none⟩ v) b t (xs.set j v) n := by
  refine ⟨?_, by simpa using h.2⟩
  rw [heap_setCell_same w b j xs.toArray t v h.1]
  simp

theorem heap_set_other (w : World) (b g j : Nat) (v : Value) (h : b ≠ g) : (w.setCell ⟨g, j, none⟩ v).heap[b]? = w.heap[b]? := Below.heap_setCell _ _ _ _ h

theorem get_set {xs : List Value} {n j i : Nat} {v u : Value} (hl : xs.length = n) (hj : j < n) (h1 : i ≠ j → xs[i]? = some u) (h2 : i = j → u = v) : (xs.set j v)[i]? = some u := by
  rw [List.getElem?_set]
  by_cases e : j = i
  · rw [if_pos e, if_pos (by omega), h2 e.symm]
  · rw [if_neg e]
    exact h1 (fun e' => e e'.symm)

theorem obj_cell {w : World} {b : Nat} {cs : Array Value} {t : TypeId} (h : w.heap[b]? = some (.cells cs t (0, 0))) (i : Nat) : w.cell? ⟨b, i, none⟩ = cs[i]? := by
  simp [World.cell?, h]
theorem obj_frozen {w : World} {b : Nat} {cs : Array Value} {t : TypeId} (h : w.heap[b]? = some (.cells cs t (0, 0))) (i : Nat) : w.frozen? ⟨b, i, none⟩ = false := by
  simp [World.frozen?, h]

/-- The request that a round lays. -/
def reqObj (X : Nat) (A : Addr) (H : Int) : Obj := .cells #[.pointer (some ⟨X, 0, none⟩), .bool true, .int .i64 0, .pointer (some A), .int .u8 0, .bool false, .int .u8 0, .int .u8 H, .slice none 0 0, .bool false, .bool false, .pointer none, .pointer none] 83

theorem inv_step {w : World} {U S X R L V n tg j : Nat} {a : Nat → Addr} {h : Nat → Int} {wr : World} (I : Inv w U S X R L V n tg j a h wr) (hord : w.heap.size < U ∧ U < S ∧ S < X ∧ X < R ∧ R < L ∧ L < V) (hj : j < n) (A : Addr) (H VV : Int)
    (hk : A = ⟨w.heap.size, 16, none⟩ ∨ A = ⟨w.heap.size, 7, none⟩ ∨ A = ⟨U, 16, none⟩) (hu : (A = ⟨w.heap.size, 16, none⟩ ∧ H = 1) ↔ j = tg) (hv : VV = if j = tg then 2 else H) :
    ∃ a h, Inv w U S X R L V n tg (j + 1) a h ((((wr.setCell ⟨R, j, none⟩ (.pointer (some ⟨wr.heap.size, 0, none⟩))).setCell ⟨L, j, none⟩ (.pointer (some A))).setCell ⟨V, j, none⟩ (.int .u8 VV)).alloc (reqObj X A H)) := by
  obtain ⟨o1, o2, o3, o4, o5, o6⟩ := hord
  have hsz := I.size
  obtain ⟨W3, hW3⟩ : ∃ W3, W3 = ((wr.setCell ⟨R, j, none⟩ (.pointer (some ⟨wr.heap.size, 0, none⟩))).setCell ⟨L, j, none⟩ (.pointer (some A))).setCell ⟨V, j, none⟩ (.int .u8 VV) := ⟨_, rfl⟩
  rw [← hW3]
  have s3 : W3.heap.size = wr.heap.size := by rw [hW3]; simp [World.setCell]
  have hoth3 : ∀ b, b ≠ R → b ≠ L → b ≠ V → W3.heap[b]? = wr.heap[b]? := fun b h1 h2 h3 => by
    rw [hW3, heap_set_other _ _ _ _ _ h3, heap_set_other _ _ _ _ _ h2, heap_set_other _ _ _ _ _ h1]
  have hoth : ∀ b, b < wr.heap.size → b ≠ R → b ≠ L → b ≠ V → (W3.alloc (reqObj X A H)).heap[b]? = wr.heap[b]? := fun b h0 h1 h2 h3 => by
    rw [Below.heap_alloc _ _ _ (by omega)]
    exact hoth3 b h1 h2 h3
  have hnew : (W3.alloc (reqObj X A H)).heap[V + 1 + j]? = some (reqObj X A H) := by
    rw [← hsz, ← s3]
    exact heap_alloc_new W3 _
  have hcell : ∀ b o, b < wr.heap.size → b ≠ R → b ≠ L → b ≠ V → (W3.alloc (reqObj X A H)).cell? ⟨b, o, none⟩ = wr.cell? ⟨b, o, none⟩ := fun b o h0 h1 h2 h3 => World.cell?_of_block (w := wr) (hoth b h0 h1 h2 h3)
  have hfroz : ∀ b o, b < wr.heap.size → b ≠ R → b ≠ L → b ≠ V → (W3.alloc (reqObj X A H)).frozen? ⟨b, o, none⟩ = wr.frozen? ⟨b, o, none⟩ := fun b o h0 h1 h2 h3 => World.frozen?_of_block (w := wr) (hoth b h0 h1 h2 h3)
  obtain ⟨xs, hR, hR'⟩ := I.rR
  obtain ⟨ls, hL, hL'⟩ := I.rL
  obtain ⟨vs, hV, hV'⟩ := I.rV
  have rowR : RowAt (W3.alloc (reqObj X A H)) R 75 (xs.set j (.pointer (some ⟨wr.heap.size, 0, none⟩))) n := by
    refine ⟨?_, (row_set hR j _).2⟩
    rw [Below.heap_alloc _ _ _ (by omega), hW3, heap_set_other _ _ _ _ _ (by omega), heap_set_other _ _ _ _ _ (by omega)]
    exact (row_set hR j _).1
  have rowL : RowAt (W3.alloc (reqObj X A H)) L 73 (ls.set j (.pointer (some A))) n := by
    have h1 : RowAt (wr.setCell ⟨R, j, none⟩ (.pointer (some ⟨wr.heap.size, 0, none⟩))) L 73 ls n := ⟨by rw [heap_set_other _ _ _ _ _ (by omega)]; exact hL.1, hL.2⟩
    refine ⟨?_, (row_set h1 j _).2⟩
    rw [Below.heap_alloc _ _ _ (by omega), hW3, heap_set_other _ _ _ _ _ (by omega)]
    exact (row_set h1 j _).1
  have rowV : RowAt (W3.alloc (reqObj X A H)) V 74 (vs.set j (.int .u8 VV)) n := by
    have h1 : RowAt ((wr.setCell ⟨R, j, none⟩ (.pointer (some ⟨wr.heap.size, 0, none⟩))).setCell ⟨L, j, none⟩ (.pointer (some A))) V 74 vs n := ⟨by rw [heap_set_other _ _ _ _ _ (by omega), heap_set_other _ _ _ _ _ (by omega)]; exact hV.1, hV.2⟩
    refine ⟨?_, (row_set h1 j _).2⟩
    rw [Below.heap_alloc _ _ _ (by omega), hW3]
    exact (row_set h1 j _).1
  have hbel : Below w.heap.size w (W3.alloc (reqObj X A H)) := by
    have h1 : Below w.heap.size w W3 := by
      rw [hW3]
      exact Below.setCell (Below.setCell (Below.setCell I.below (p := ⟨R, j, none⟩) (by show w.heap.size ≤ R; omega) _) (p := ⟨L, j, none⟩) (by show w.heap.size ≤ L; omega) _) (p := ⟨V, j, none⟩) (by show w.heap.size ≤ V; omega) _
    exact h1.alloc (by omega) _
  refine ⟨fun i => if i = j then A else a i, fun i => if i = j then H else h i, ?_⟩
  refine ⟨by simp; omega, hbel, ?_, ?_, ?_, ?_, ?_, ⟨_, rowR, ?_⟩, ⟨_, rowL, ?_⟩, ⟨_, rowV, ?_⟩, ?_, ?_, ?_, ?_, ?_⟩
  · rw [hoth _ (by omega) (by omega) (by omega) (by omega)]; exact I.heapT
  · rw [hoth _ (by omega) (by omega) (by omega) (by omega)]; exact I.heapU
  · rw [hcell _ _ (by omega) (by omega) (by omega) (by omega)]; exact I.x
  · rw [hcell _ _ (by omega) (by omega) (by omega) (by omega)]; exact I.s
  · rw [hfroz _ _ (by omega) (by omega) (by omega) (by omega)]; exact I.sf
  · intro i hi
    exact get_set hR.2 hj (fun e => hR' i (by omega)) (fun e => by rw [hsz, e])
  · intro i hi
    exact get_set hL.2 hj (fun e => by rw [if_neg e]; exact hL' i (by omega)) (fun e => by rw [if_pos e])
  · intro i hi
    exact get_set hV.2 hj (fun e => by rw [if_neg e]; exact hV' i (by omega)) (fun e => by rw [hv, if_pos e, e])
  · intro i hi
    by_cases e : i = j
    · subst e
      simp only [if_true]
      rw [obj_cell hnew]
      rfl
    · simp only [if_neg e]
      rw [hcell _ _ (by omega) (by omega) (by omega) (by omega)]
      exact I.lock i (by omega)
  · intro i hi
    by_cases e : i = j
    · subst e
      simp only [if_true]
      rw [obj_cell hnew]
      rfl
    · simp only [if_neg e]
      rw [hcell _ _ (by omega) (by omega) (by omega) (by omega)]
      exact I.hold i (by omega)
  · intro i hi
    by_cases e : i = j
    · subst e
      exact obj_frozen hnew 7
    · rw [hfroz _ _ (by omega) (by omega) (by omega) (by omega)]
      exact I.froz i (by omega)
  · intro i hi
    by_cases e : i = j
    · simp only [if_pos e]; exact hk
    · simp only [if_neg e]; exact I.kind i (by omega)
  · intro i hi
    by_cases e : i = j
    · subst e; simp only [if_true]; exact hu
    · simp only [if_neg e]; exact I.uniq i (by omega)

end Go.Proofs.Ybulkbuky
