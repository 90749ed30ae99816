/-
  The law's start, and what stands behind its first loop.
-/
import Derived.Test.YbulkbukyInv
import Derived.Maps.AppendAt
namespace Go.Proofs.Ybulkbuky
open Go.RowKit

/-- Eight new blocks. -/
theorem eight (w : World) (o1 o2 o3 o4 o5 o6 o7 o8 : Obj) :
    ((((((((w.alloc o1).alloc o2).alloc o3).alloc o4).alloc o5).alloc o6).alloc o7).alloc o8).heap.size = w.heap.size + 8 ∧
    Below w.heap.size w ((((((((w.alloc o1).alloc o2).alloc o3).alloc o4).alloc o5).alloc o6).alloc o7).alloc o8) ∧
    ((((((((w.alloc o1).alloc o2).alloc o3).alloc o4).alloc o5).alloc o6).alloc o7).alloc o8).heap[w.heap.size]? = some o1 ∧
    ((((((((w.alloc o1).alloc o2).alloc o3).alloc o4).alloc o5).alloc o6).alloc o7).alloc o8).heap[w.heap.size + 1]? = some o2 ∧
    ((((((((w.alloc o1).alloc o2).alloc o3).alloc o4).alloc o5).alloc o6).alloc o7).alloc o8).heap[w.heap.size + 1 + 1 + 1]? = some o4 ∧
    ((((((((w.alloc o1).alloc o2).alloc o3).alloc o4).alloc o5).alloc o6).alloc o7).alloc o8).heap[w.heap.size + 1 + 1 + 1 + 1]? = some o5 ∧
    ((((((((w.alloc o1).alloc o2).alloc o3).alloc o4).alloc o5).alloc o6).alloc o7).alloc o8).heap[w.heap.size + 1 + 1 + 1 + 1 + 1]? = some o6 ∧
    ((((((((w.alloc o1).alloc o2).alloc o3).alloc o4).alloc o5).alloc o6).alloc o7).alloc o8).heap[w.heap.size + 1 + 1 + 1 + 1 + 1 + 1]? = some o7 ∧
    ((((((((w.alloc o1).alloc o2).alloc o3).alloc o4).alloc o5).alloc o6).alloc o7).alloc o8).heap[w.heap.size + 1 + 1 + 1 + 1 + 1 + 1 + 1]? = some o8 := by
  have hs : ∀ (W : World) (o : Obj), (W.alloc o).heap.size = W.heap.size + 1 := fun W o => by simp
  have hp : ∀ (W : World) (o : Obj) (k : Nat) (x : Obj), W.heap[k]? = some x → (W.alloc o).heap[k]? = some x := fun W o k x h => by
    rw [Below.heap_alloc _ _ _ (by
      rcases Nat.lt_or_ge k W.heap.size with hlt | hge
      · exact hlt
      · rw [Array.getElem?_eq_none hge] at h; cases h)]
    exact h
  have hn : ∀ (W : World) (o : Obj) (k : Nat), k = W.heap.size → (W.alloc o).heap[k]? = some o := fun W o k h => by rw [h]; exact heap_alloc_new W o
  refine ⟨by simp, ?_, ?_, ?_, ?_, ?_, ?_, ?_, ?_⟩
  · have hb : ∀ (W : World) (o : Obj), Below w.heap.size w W → Below w.heap.size w (W.alloc o) := fun W o h => h.alloc h.size _
    exact hb _ _ (hb _ _ (hb _ _ (hb _ _ (hb _ _ (hb _ _ (hb _ _ (hb _ _ (Below.refl _ _))))))))
  · exact hp _ _ _ _ (hp _ _ _ _ (hp _ _ _ _ (hp _ _ _ _ (hp _ _ _ _ (hp _ _ _ _ (hp _ _ _ _ (hn _ _ _ rfl)))))))
  · exact hp _ _ _ _ (hp _ _ _ _ (hp _ _ _ _ (hp _ _ _ _ (hp _ _ _ _ (hp _ _ _ _ (hn _ _ _ (by simp only [hs])))))))
  · exact hp _ _ _ _ (hp _ _ _ _ (hp _ _ _ _ (hp _ _ _ _ (hn _ _ _ (by simp only [hs])))))
  · exact hp _ _ _ _ (hp _ _ _ _ (hp _ _ _ _ (hn _ _ _ (by simp only [hs]))))
  · exact hp _ _ _ _ (hp _ _ _ _ (hn _ _ _ (by simp only [hs])))
  · exact hp _ _ _ _ (hn _ _ _ (by simp only [hs]))
  · exact hn _ _ _ (by simp only [hs])

theorem row_made (z : Value) (n : Nat) : (madeCells #[z] n) = ((madeCells #[z] n).toList).toArray ∧ ((madeCells #[z] n).toList).length = n := ⟨by simp, by simp [madeCells]⟩

/-- The state ahead of the first round. -/
theorem inv_start {w wr : World} {n tg : Nat} {oT oU oS oX : Array Value} {tT tU tS tX : TypeId} (hsz : wr.heap.size = w.heap.size + 8) (hb : Below w.heap.size w wr)
    (h0 : wr.heap[w.heap.size]? = some (.cells oT tT (0, 0))) (h1 : wr.heap[w.heap.size + 1]? = some (.cells oU tU (0, 0)))
    (h3 : wr.heap[w.heap.size + 1 + 1 + 1]? = some (.cells oS tS (0, 0))) (h4 : wr.heap[w.heap.size + 1 + 1 + 1 + 1]? = some (.cells oX tX (0, 0)))
    (h5 : wr.heap[w.heap.size + 1 + 1 + 1 + 1 + 1]? = some (.cells (madeCells #[.pointer none] n) 75 (0, 0))) (h6 : wr.heap[w.heap.size + 1 + 1 + 1 + 1 + 1 + 1]? = some (.cells (madeCells #[.pointer none] n) 73 (0, 0))) (h7 : wr.heap[w.heap.size + 1 + 1 + 1 + 1 + 1 + 1 + 1]? = some (.cells (madeCells #[.int .u8 0] n) 74 (0, 0)))
    (hx : oX[1]? = some (.pointer (some ⟨w.heap.size + 1 + 1 + 1, 0, none⟩))) (hs : oS[7]? = some (.slice none 0 0)) :
    ∃ a h, Inv w (w.heap.size + 1) (w.heap.size + 1 + 1 + 1) (w.heap.size + 1 + 1 + 1 + 1) (w.heap.size + 1 + 1 + 1 + 1 + 1) (w.heap.size + 1 + 1 + 1 + 1 + 1 + 1) (w.heap.size + 1 + 1 + 1 + 1 + 1 + 1 + 1) n tg 0 a h wr := by
  refine ⟨fun _ => ⟨0, 0, none⟩, fun _ => 0, by rw [hsz], hb, ⟨_, _, h0⟩, ⟨_, _, h1⟩, by rw [obj_cell h4]; exact hx, by rw [obj_cell h3]; exact hs, obj_frozen h3 7, ⟨(madeCells #[.pointer none] n).toList, ⟨by rw [h5], (row_made _ n).2⟩, fun i hi => by omega⟩, ⟨(madeCells #[.pointer none] n).toList, ⟨by rw [h6], (row_made _ n).2⟩, fun i hi => by omega⟩, ⟨(madeCells #[.int .u8 0] n).toList, ⟨by rw [h7], (row_made _ n).2⟩, fun i hi => by omega⟩, ?_, ?_, ?_, ?_, ?_⟩
  all_goals (intro i hi; omega)

theorem info75 : (Yba.prog.info? 75).map (fun i => (i.zero, i.size, i.bytes)) = some (some (.pointer none), 1, 8) := by kernel_rfl

/-- What stands behind 's.locks = append(nil, reqs...)'. -/
structure Behind (w : World) (U S X R L V n tg : Nat) (p : Option Addr) (c : Nat) (a : Nat → Addr) (h : Nat → Int) (w3 : World) : Prop where
  below : Below w.heap.size w w3
  reqs : Reqs w.heap.size U (V + 1) n tg a h w3
  x : w3.cell? ⟨X, 1, none⟩ = some (.pointer (some ⟨S, 0, none⟩))
  s : w3.cell? ⟨S, 7, none⟩ = some (.slice p n c)
  q : ∀ i, i < n → ∃ Q, p = some ⟨Q, 0, none⟩ ∧ w3.cell? ⟨Q, i, none⟩ = some (.pointer (some ⟨V + 1 + i, 0, none⟩))
  cR : ∀ i, i < n → w3.cell? ⟨R, i, none⟩ = some (.pointer (some ⟨V + 1 + i, 0, none⟩))
  cL : ∀ i, i < n → w3.cell? ⟨L, i, none⟩ = some (.pointer (some (a i)))
  cV : ∀ i, i < n → w3.cell? ⟨V, i, none⟩ = some (.int .u8 (if i = tg then 2 else h i))

theorem run_locks (ty : TypeId) {w : World} {U S X R L V n tg : Nat} {a : Nat → Addr} {h : Nat → Int} {wr : World} (I : Inv w U S X R L V n tg n a h wr) (hord : w.heap.size < U ∧ U < S ∧ S < X ∧ X < R ∧ R < L ∧ L < V) (hn : n ≤ 1024) :
    ∃ p c w2, (Builtin.append_ #[29, 29] ty #[.slice none 0 0, .slice (some ⟨R, 0, none⟩) n n]).run Yba.prog wr = .ok (.slice p n c) w2 ∧ w2.cell? ⟨S, 7, none⟩ = some (.slice none 0 0) ∧ w2.frozen? ⟨S, 7, none⟩ = false ∧ Hid (Behind w U S X R L V n tg p c a h (w2.setCell ⟨S, 7, none⟩ (.slice p n c))) := by
  obtain ⟨o1, o2, o3, o4, o5, o6⟩ := hord
  obtain ⟨i0, hi, hz0, hz1, hz2⟩ := info_parts info75
  obtain ⟨xs, hR, hR'⟩ := I.rR
  obtain ⟨ls, hL, hL'⟩ := I.rL
  obtain ⟨vs, hV, hV'⟩ := I.rV
  have hsz := I.size
  have hnews : ∀ j u, xs[j]? = some u → wr.cell? ((⟨R, 0, none⟩ : Addr).add j) = some u := fun j u hj => by
    rw [Addr.add_lit, Nat.zero_add, hR.cell]
    exact hj
  have h1 : ∀ u ∈ xs, u.oneCell' = true := fun u hu => by
    obtain ⟨i, hi, e⟩ := List.getElem_of_mem hu
    have := hR' i (by rw [hR.2] at hi; exact hi)
    rw [List.getElem?_eq_getElem hi, e] at this
    cases this
    rfl
  obtain ⟨v', w2, hr, h2, h3, h4⟩ := run_append_own (P := Yba.prog) wr wr.heap.size 29 ty 75 i0 (.pointer none) 1 8 Yba.underlying29 hi hz0 hz1 hz2 rfl (by decide) (.slice none 0 0) 0 [] (World.ownsRow_nil _ _ _ _) ⟨R, 0, none⟩ n n xs (by rw [hR.2]; omega) hnews h1 (by unfold maxLen; omega) (by omega) (Nat.le_refl _)
  rw [Nat.zero_add, List.nil_append] at h2
  have hb2 : Below wr.heap.size wr w2 := (Below.refl _ _).grown h3 (Nat.le_refl _) (fun k hk => by cases hk)
  have hform : ∃ p c, v' = .slice p n c ∧ ∀ i, i < n → ∃ Q, p = some ⟨Q, 0, none⟩ ∧ wr.heap.size ≤ Q ∧ w2.cell? ⟨Q, i, none⟩ = xs[i]? := by
    rcases h2.2 with ⟨rfl, rfl⟩ | ⟨g, cap, cur, rfl, hg, _⟩
    · exact ⟨none, 0, rfl, fun i hi => by omega⟩
    · refine ⟨some ⟨g, 0, none⟩, cap, rfl, fun i hi => ⟨g, rfl, hg, ?_⟩⟩
      exact h2.cellAt i (by omega)
  obtain ⟨p, c, rfl, hq⟩ := hform
  have hc : ∀ b o, b < wr.heap.size → w2.cell? ⟨b, o, none⟩ = wr.cell? ⟨b, o, none⟩ := fun b o hb => hb2.cell (p := ⟨b, o, none⟩) hb
  have hfz : ∀ b o, b < wr.heap.size → w2.frozen? ⟨b, o, none⟩ = wr.frozen? ⟨b, o, none⟩ := fun b o hb => hb2.frozen (p := ⟨b, o, none⟩) hb
  have s0 : w2.cell? ⟨S, 7, none⟩ = some (.slice none 0 0) := (hc S 7 (by omega)).trans I.s
  have sf : w2.frozen? ⟨S, 7, none⟩ = false := (hfz S 7 (by omega)).trans I.sf
  refine ⟨p, c, w2, hr, s0, sf, ?_⟩
  have hh : ∀ b, b ≠ S → (w2.setCell ⟨S, 7, none⟩ (.slice p n c)).heap[b]? = w2.heap[b]? := fun b hb => heap_set_other _ _ _ _ _ hb
  have hc3 : ∀ b o, b < wr.heap.size → b ≠ S → (w2.setCell ⟨S, 7, none⟩ (.slice p n c)).cell? ⟨b, o, none⟩ = wr.cell? ⟨b, o, none⟩ := fun b o hb hs => (World.cell?_of_block (w := w2) (hh b hs)).trans (hc b o hb)
  have hf3 : ∀ b o, b < wr.heap.size → b ≠ S → (w2.setCell ⟨S, 7, none⟩ (.slice p n c)).frozen? ⟨b, o, none⟩ = wr.frozen? ⟨b, o, none⟩ := fun b o hb hs => (World.frozen?_of_block (w := w2) (hh b hs)).trans (hfz b o hb)
  refine ⟨?_, ⟨?_, ?_, ?_, I.kind, I.uniq, ?_, ?_⟩, ?_, ?_, ?_, ?_, ?_, ?_⟩
  · exact Below.setCell (I.below.trans (hb2.mono (by have := I.below.size; omega))) (p := ⟨S, 7, none⟩) (by show w.heap.size ≤ S; omega) _
  · exact fun i hi => (hc3 _ _ (by omega) (by omega)).trans (I.lock i hi)
  · exact fun i hi => (hc3 _ _ (by omega) (by omega)).trans (I.hold i hi)
  · exact fun i hi => (hf3 _ _ (by omega) (by omega)).trans (I.froz i hi)
  · rw [hh _ (by omega), hb2.block _ (by omega)]; exact I.heapT
  · rw [hh _ (by omega), hb2.block _ (by omega)]; exact I.heapU
  · exact (hc3 _ _ (by omega) (by omega)).trans I.x
  · exact World.cell?_setCell_same _ _ _ s0
  · intro i hi
    obtain ⟨Q, e, hQ, hcq⟩ := hq i hi
    refine ⟨Q, e, ?_⟩
    rw [World.cell?_of_block (w := w2) (hh Q (by omega)), hcq]
    exact hR' i hi
  · exact fun i hi => (hc3 _ _ (by omega) (by omega)).trans ((hR.cell i).trans (hR' i hi))
  · exact fun i hi => (hc3 _ _ (by omega) (by omega)).trans ((hL.cell i).trans (hL' i hi))
  · exact fun i hi => (hc3 _ _ (by omega) (by omega)).trans ((hV.cell i).trans (hV' i hi))

/-- What the law's second loop looks at: for every request its holding is the wanted one, its lock the noted one. -/
structure Last (w : World) (R L V n : Nat) (a : Nat → Addr) (ww : Nat → Int) (w4 : World) : Prop where
  below : Below w.heap.size w w4
  cR : ∀ i, i < n → w4.cell? ⟨R, i, none⟩ = some (.pointer (some ⟨V + 1 + i, 0, none⟩))
  cL : ∀ i, i < n → w4.cell? ⟨L, i, none⟩ = some (.pointer (some (a i)))
  cV : ∀ i, i < n → w4.cell? ⟨V, i, none⟩ = some (.int .u8 (ww i))
  lock : ∀ i, i < n → w4.cell? ⟨V + 1 + i, 3, none⟩ = some (.pointer (some (a i)))
  hold : ∀ i, i < n → w4.cell? ⟨V + 1 + i, 7, none⟩ = some (.int .u8 (ww i))

theorem last_kept {w : World} {U S X R L V n tg : Nat} {p : Option Addr} {c : Nat} {a : Nat → Addr} {h : Nat → Int} {w3 : World} (B : Behind w U S X R L V n tg p c a h w3) (hord : w.heap.size < U ∧ U < S ∧ S < X ∧ X < R ∧ R < L ∧ L < V) (k : Nat) : Last w R L V n a (fun i => if i = tg then 2 else h i) ((kept (V + 1) n tg w3).drewN k) := by
  obtain ⟨o1, o2, o3, o4, o5, o6⟩ := hord
  have hcell : ∀ b o, (b ≠ V + 1 + tg ∨ o ≠ 7) → ((kept (V + 1) n tg w3).drewN k).cell? ⟨b, o, none⟩ = w3.cell? ⟨b, o, none⟩ := fun b o hb => by
    rw [drewN_cell]
    unfold kept
    split
    · refine World.cell?_setCell_other _ _ _ _ ?_
      intro e
      cases e
      omega
    · rfl
  refine ⟨?_, ?_, ?_, ?_, ?_, ?_⟩
  · refine below_drewN' ?_ k
    unfold kept
    split
    · exact Below.setCell B.below (p := ⟨V + 1 + tg, 7, none⟩) (by show w.heap.size ≤ V + 1 + tg; omega) _
    · exact B.below
  · exact fun i hi => (hcell _ _ (.inl (by omega))).trans (B.cR i hi)
  · exact fun i hi => (hcell _ _ (.inl (by omega))).trans (B.cL i hi)
  · exact fun i hi => (hcell _ _ (.inl (by omega))).trans (B.cV i hi)
  · exact fun i hi => (hcell _ _ (.inr (by omega))).trans (B.reqs.lock i hi)
  · intro i hi
    by_cases e : i = tg
    · subst e
      rw [drewN_cell, if_pos rfl]
      unfold kept
      rw [if_pos hi]
      exact World.cell?_setCell_same _ _ _ (B.reqs.hold i hi)
    · rw [if_neg e]
      exact (hcell _ _ (.inl (by omega))).trans (B.reqs.hold i hi)

end Go.Proofs.Ybulkbuky
