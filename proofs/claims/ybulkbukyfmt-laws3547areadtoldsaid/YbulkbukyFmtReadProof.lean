/-
  LawS3547ARead: the told and tied card.
-/
import Derived.Test.YbulkbukyFmtCards
import Derived.Test.YbulkbukyFmtTie
import Derived.Test.YbulkbukyFmtLaid
import Derived.Test.YbulkbukyFmtKinds
import Derived.Test.YbulkbukyFmtBig
import Derived.Test.YbulkbukyFmtNum
import Derived.ProofKit
import Derived.ChangeSlices
import Derived.ChangeSame
import Derived.ChangeMaps5
import Derived.JoinedOf
import Derived.Carry
import Derived.Stop.JoinedAt
import Derived.Stop.Texts
import Derived.Stop.JoinedTold
import Derived.Stop.LaidErr
import Derived.SizedLaws
import Derived.SevenToldRow
import Derived.SevenTiedAt
import Derived.OpenShut
import Derived.Deep.DeepWitnessRef
namespace Go.Proofs.YbulkbukyFmt
open Go.ChangeShapes Go.WideShapes Go.ChangeAt Go.RowKit Go.Kit
open Go.Extern.Stop Go.Stop Go.Extern

theorem Ybaf.own : ownKnob Ybaf.prog.godebug = none := by kernel_rfl
theorem Ybaf.laidOut : laidOutB Ybaf.pinned.checked.prog = true := by kernel_rfl
theorem Ybaf.cells5 : Ybaf.prog.cellsOf 5 = 1 := by kernel_rfl
theorem Ybaf.stops : Ybaf.pinned.checked.prog.stops = Rows.lawS3547AReadRow.stops := by kernel_rfl
theorem Ybaf.stopKnobs : Ybaf.pinned.checked.prog.stopKnobs = [] := by kernel_rfl
theorem Ybaf.quiet (os : Os) : Stop.quiet Ybaf.pinned.checked.prog os := by
  intro k hk
  rw [Ybaf.stopKnobs] at hk
  cases hk
theorem Ybaf.star : "*" ++ "errors.errorString" = "*errors.errorString" := by decide
theorem Ybaf.row96 (u : TypeId) (h : Ybaf.prog.typeName? 3 u = some "*errors.errorString") : u = 96 :=
  typeName_ptr_named (nm := "errors.errorString") (by rw [Ybaf.star]; kernel_rfl) (by kernel_rfl) (by decide) u (by rw [Ybaf.star]; exact h)

/-- The law, at every input. -/
theorem law_any (p : Option Addr) (n c k m : Nat) (l : List UInt8) (w : World) (hl : l.length = n) (hL : Lies w p l) (hE : Errs w) (F : Interp) (hF : F.answers w.tape) :
    Calls Ybaf.prog 3 #[.slice p n c, .int .u8 k, .int .u8 m] w fun e w' => e = .returned (.bool true) ∧ Below w.heap.size w w' := by
  by_cases hn : 1024 < n
  · exact law_great p n c k m w hn
  have hn' : n ≤ 1024 := by omega
  have hk : (k : Int) % 4 = 0 ∨ (k : Int) % 4 = 1 ∨ (k : Int) % 4 = 2 ∨ (k : Int) % 4 = 3 := by omega
  have hm : (m : Int) % 3 = 0 ∨ (m : Int) % 3 = 1 ∨ (m : Int) % 3 = 2 := by omega
  rcases hk with hk | hk | hk | hk
  · rcases hx : Lib.parseUintB 63 (digits l).data.toList with u | _ | _
    · rcases hm with hm | hm | hm
      · exact law_num_0 p n c k m l hk hm hn' w hl hL u hx
      · exact law_num_1 p n c k m l hk hm hn' w hl hL F hF u hx
      · exact law_num_2 p n c k m l hk hm hn' w hl hL F hF u hx
    all_goals
      have hbad : ∀ u, Lib.parseUintB 63 (digits l).data.toList ≠ .ok u := fun u e => by rw [hx] at e; cases e
      rcases hm with hm | hm | hm
      · exact law_big_0 p n c k m l hk hm hn' w hl hL hE hbad
      · exact law_big_1 p n c k m l hk hm hn' w hl hL hE hbad
      · exact law_big_2 p n c k m l hk hm hn' w hl hL hE hbad
  · rcases hm with hm | hm | hm
    · exact law_1_0 p n c k m l hk hm hn' w hl hL
    · exact law_1_1 p n c k m l hk hm hn' w hl hL
    · exact law_1_2 p n c k m l hk hm hn' w hl hL
  · rcases hm with hm | hm | hm
    · exact law_2_0 p n c k m l hk hm hn' w hl hL
    · exact law_2_1 p n c k m l hk hm hn' w hl hL
    · exact law_2_2 p n c k m l hk hm hn' w hl hL
  · exact law_3 p n c k m l hk hn' w hl hL

/-- A slice of bytes that came in, as the walks want it. -/
theorem lies_of_row {w : World} {x : Addr} {zs : List Int} {len : Nat} (hl : len ≤ zs.length) (hcell : ∀ i, i < zs.length → w.cell? (x.add i) = some (.int .u8 (zs.getD i 0))) (hwz : ∀ n ∈ zs, (Lit.int .u8 n).wf = true) :
    ∃ l : List UInt8, l.length = len ∧ Lies w (some x) l := by
  refine ⟨(zs.take len).map fun z => UInt8.ofNat z.toNat, by simp; omega, ?_⟩
  rcases Nat.eq_zero_or_pos len with h0 | h0
  · exact .inl (by simp [h0])
  · obtain ⟨b, off, rfl, hc⟩ := ints_at hcell (by omega)
    have hb0 : b < w.heap.size := lt_of_cell (hc 0 (by omega))
    refine .inr ⟨b, off, rfl, hb0, fun j hj => ?_⟩
    have hj' : j < len := by simp at hj; omega
    have hz : (Lit.int .u8 (zs.getD j 0)).wf = true := hwz _ (by
      rw [List.getD_eq_getElem?_getD, List.getElem?_eq_getElem (by omega)]
      exact List.getElem_mem _)
    have hb := bounds_u8 hz
    rw [hc j (by omega)]
    simp [List.getElem_take, List.getD_eq_getElem?_getD, List.getElem?_eq_getElem (show j < zs.length by omega)] at hb ⊢
    omega

set_option maxRecDepth 100000 in
theorem read_lifted (os : Os) (started : os.Started) (H : Type) (enc : TypeId × Value → H) :
    ReturnsInTold none {} Ybaf.checked os 3 .any Input.okWide ((OpenSpec.ofChange Rows.lawS3547AReadSpec).preRow enc Ybaf.prog Ybaf.f3 Rows.lawS3547AReadRow.domain false Rows.lawS3547AReadRow.laid) (fun F => ((OpenSpec.ofChange Rows.lawS3547AReadSpec).at F).post enc Ybaf.prog Ybaf.f3 false true false false) (aloneAtReturn Ybaf.prog) nothingAlways := by
  refine returnsInTold_of_row (C := Ybaf.checked) (s := OpenSpec.ofChange Rows.lawS3547AReadSpec) (by kernel_rfl) Ybaf.own started (by kernel_rfl) Ybaf.func3
    (OpenSpec.witness_stopped_atRef (enc := enc) (C := Ybaf.checked) false (laidWorld os) #[.slice none 0 0, .int .u8 0, .int .u8 0] rfl (by kernel_rfl) (by kernel_rfl) (by kernel_rfl) (witness_row os enc)) ?_
  intro F W base args ds gs before _ hF hval0 hW _ _ hsz hLd _
  have hval : ∀ (j : Nat) t v, Ybaf.f3.params[j]? = some t → args[j]? = some v → Value.okWide Ybaf.prog W .any base t v := hval0
  have hW' := hW
  obtain ⟨p, q, hA0, hV, rfl, _, _⟩ := hW
  have hA : DataW.TrodAll enc Ybaf.prog W 0 (fun _ => true) true Ybaf.f3.params.toList args.toList ds p := hA0
  rw [Ybaf.params3] at hA hval
  obtain ⟨v0, vs0, d0, ds0, p0, q0, hargs, rfl, rfl, h0, r0⟩ := trodAll_cons hA
  obtain ⟨v1, vs1, d1, ds1, p1, q1, rfl, rfl, rfl, h1, r1⟩ := trodAll_cons r0
  obtain ⟨v2, vs2, d2, ds2, p2, q2, rfl, rfl, rfl, h2, r2⟩ := trodAll_cons r1
  obtain ⟨rfl, rfl, rfl⟩ := trodAll_nil r2
  obtain rfl : args = #[v0, v1, v2] := by cases args; simp_all
  obtain ⟨rfl, rfl⟩ := trodVars_none hV
  obtain ⟨a0, len, cap, rfl⟩ := okWide_slice Ybaf.underlying22 (hval 0 22 v0 rfl rfl)
  have k0 := h0
  have lt0 : ∀ x ∈ p0, x.block < W.heap.size := by obtain ⟨m, hm⟩ := k0; exact DataW.trod_lt m _ _ _ hm
  obtain ⟨x1, rfl, rfl, rfl, wx1⟩ := open_int Ybaf.underlying5 (hval 1 5 v1 rfl rfl) h1
  obtain ⟨x2, rfl, rfl, rfl, wx2⟩ := open_int Ybaf.underlying5 (hval 2 5 v2 rfl rfl) h2
  clear hA0 hval0
  have hb1 := bounds_u8 wx1
  have hb2 := bounds_u8 wx2
  obtain ⟨k, rfl⟩ : ∃ k : Nat, x1 = (k : Int) := ⟨x1.toNat, by omega⟩
  obtain ⟨m, rfl⟩ : ∃ m : Nat, x2 = (m : Int) := ⟨x2.toNat, by omega⟩
  have hL' : laidMet Ybaf.prog Rows.lawS3547AReadRow.laid W := hLd
  obtain ⟨a1, t1, hv1, _⟩ := laid_sentinel (g := 1) hL'.tail.tail.tail (by kernel_rfl) (by kernel_rfl) Ybaf.underlying33 Ybaf.row96 Ybaf.underlying96 Ybaf.underlying98 rfl rfl Ybaf.underlying9 (by kernel_rfl) (by kernel_rfl)
  obtain ⟨a2, t2, hv2, _⟩ := laid_sentinel (g := 0) hL'.tail.tail.tail.tail (by kernel_rfl) (by kernel_rfl) Ybaf.underlying33 Ybaf.row96 Ybaf.underlying96 Ybaf.underlying98 rfl rfl Ybaf.underlying9 (by kernel_rfl) (by kernel_rfl)
  have hE : Errs W := ⟨⟨_, _, by have h0 := World.var?_cell (show Ybaf.prog.globalNamed "strconv.ErrSyntax" = some 0 by kernel_rfl) hv2 0; simpa using h0⟩, ⟨_, _, by have h0 := World.var?_cell (show Ybaf.prog.globalNamed "strconv.ErrRange" = some 1 by kernel_rfl) hv1 0; simpa using h0⟩⟩
  suffices hx : ∃ l : List UInt8, l.length = len ∧ Lies W a0 l by
    obtain ⟨l, hl, hL⟩ := hx
    refine (law_any a0 len cap k m l W hl hL hE F.told hF).mono fun e W' ⟨he, bel⟩ => ?_
    subst he
    exact ⟨_, rfl, _, _, _, [], _, [], hW', trodAll_mk1 (shut_bool Ybaf.underlying4 true), (trodAll_cons_mk (Below.trod Ybaf.laidOut (by kernel_rfl) (of_decide_eq_true (by kernel_rfl)) k0 bel lt0) (trodAll_cons_mk (shut_int Ybaf.underlying5 wx1) (trodAll_cons_mk (shut_int Ybaf.underlying5 wx2) trodAll_mk0))), rfl, bel.frame _, fun h => by cases h⟩
  obtain ⟨fuel, hf⟩ := h0
  rcases open_ints Ybaf.underlying22 Ybaf.underlying5 Ybaf.cells5 hf with ⟨hcs, _⟩ | ⟨x, l, c, zs, hcs, _, hl, hm, hz, _, hcell, hwz⟩
  · simp [Value.cells] at hcs
    obtain ⟨rfl, rfl, rfl⟩ := hcs
    exact ⟨[], rfl, .inl rfl⟩
  · simp [Value.cells] at hcs
    obtain ⟨rfl, rfl, rfl⟩ := hcs
    simp only [if_true] at hz
    exact lies_of_row (len := len) (by omega) hcell hwz

theorem read_told : Rows.LawS3547AReadToldSaid :=
  Claim7.holds_of_told_tied_any_at .later 3 Ybaf.f3 _ _ [] _ _ _ _ _ (by kernel_rfl) rfl rfl rfl Ybaf.laidOut (by kernel_rfl) rfl ⟨rfl, rfl, rfl, rfl, rfl, rfl, rfl⟩ rfl rfl (by kernel_rfl) (by kernel_rfl) Ybaf.func3 (by kernel_rfl)
    (of_decide_eq_true (by kernel_rfl)) (of_decide_eq_true (by kernel_rfl)) Ybaf.stops.symm rfl Ybaf.stopKnobs.symm (by kernel_rfl)
    (by kernel_rfl) (by kernel_rfl) (by kernel_rfl) (by kernel_rfl) (by kernel_rfl) (by kernel_rfl) (by kernel_rfl) (by kernel_rfl) (by kernel_rfl) rfl (by kernel_rfl) rfl rfl
    rfl rfl
    rfl (by kernel_rfl) (by kernel_rfl) (by kernel_rfl) (by decide) (by kernel_rfl) lawS3547ARead_row_tie
    (OpenClaim.moreEntering_of (by kernel_rfl) (by kernel_rfl) (by kernel_rfl) (by kernel_rfl) (by kernel_rfl) (by kernel_rfl) (by kernel_rfl) (by kernel_rfl) (by kernel_rfl) (by kernel_rfl))
    ⟨_, WideRow.started_initial, Ybaf.quiet _⟩
    (fun os started _ H enc _ => read_lifted os started H enc)
end Go.Proofs.YbulkbukyFmt
