/-
  LawS3545ABoundary: the told card.
-/
import Derived.Test.YbulkbujwFmtExactProof
import Derived.Test.YbulkbujwFmtBound
namespace Go.Proofs.YbulkbujwFmt
open Go.ChangeShapes Go.WideShapes Go.ChangeAt Go.RowKit Go.Kit
open Go.Extern.Stop Go.Stop Go.Extern

set_option maxRecDepth 100000 in
theorem bound_lifted (os : Os) (started : os.Started) (H : Type) (enc : TypeId × Value → H) :
    ReturnsInTold none {} Ybaf.checked os 4 .any Input.okWide ((OpenSpec.ofChange Rows.lawS3545ABoundarySpec).preRow enc Ybaf.prog Ybaf.f4 [] false []) (fun F => ((OpenSpec.ofChange Rows.lawS3545ABoundarySpec).at F).post enc Ybaf.prog Ybaf.f4 false true false false) (aloneAtReturn Ybaf.prog) nothingAlways := by
  refine returnsInTold_of_row (C := Ybaf.checked) (s := OpenSpec.ofChange Rows.lawS3545ABoundarySpec) (by kernel_rfl) Ybaf.own started (by kernel_rfl) Ybaf.func4
    (OpenSpec.witness_stopped (enc := enc) (C := Ybaf.checked) false ⟨#[], #[.int .u16 0, .int .u8 0, .int .u8 0], []⟩ 8 (by kernel_rfl) (by kernel_rfl) (by kernel_rfl) (by kernel_rfl)) ?_
  intro F W base args ds gs before _ hF hval0 hW _ _ hsz _ _
  have hval : ∀ (j : Nat) t v, Ybaf.f4.params[j]? = some t → args[j]? = some v → Value.okWide Ybaf.prog W .any base t v := hval0
  have hW' := hW
  obtain ⟨p, q, hA0, hV, rfl, _, _⟩ := hW
  have hA : DataW.TrodAll enc Ybaf.prog W 0 (fun _ => true) true Ybaf.f4.params.toList args.toList ds p := hA0
  rw [Ybaf.params4] at hA hval
  obtain ⟨v0, v1, v2, d0, d1, d2, p0, p1, p2, rfl, rfl, rfl, h0, h1, h2⟩ := trodAll_three hA
  obtain ⟨rfl, rfl⟩ := trodVars_none hV
  obtain ⟨x, rfl, rfl, rfl, wx⟩ := open_int Ybaf.underlying22 (hval 0 22 v0 rfl rfl) h0
  obtain ⟨k, rfl, rfl, rfl, wk⟩ := open_int Ybaf.underlying5 (hval 1 5 v1 rfl rfl) h1
  obtain ⟨f, rfl, rfl, rfl, wf⟩ := open_int Ybaf.underlying5 (hval 2 5 v2 rfl rfl) h2
  clear hA0 hval0
  simp only [List.append_nil] at hW'
  have hxb := bounds_u16 wx
  have hkb := bounds_u8 wk
  have hfb := bounds_u8 wf
  obtain ⟨xn, rfl⟩ : ∃ n : Nat, x = (n : Int) := ⟨x.toNat, by omega⟩
  obtain ⟨kn, rfl⟩ : ∃ n : Nat, k = (n : Int) := ⟨k.toNat, by omega⟩
  obtain ⟨fn, rfl⟩ : ∃ n : Nat, f = (n : Int) := ⟨f.toNat, by omega⟩
  refine (bound_any F.told xn kn fn (by omega) (by omega) (by omega) W hF).mono fun e W' ⟨he, hnx⟩ => ?_
  subst he
  refine ⟨_, rfl, _, _, _, [], [] ++ ([] ++ []), [], hW', ?_, trodAll_mk3 (p := []) (p' := []) (p'' := []) (shut_int Ybaf.underlying22 wx) (shut_int Ybaf.underlying5 wk) (shut_int Ybaf.underlying5 wf), rfl, hnx.frame _, fun h => by cases h⟩
  exact trodAll_mk1 (shut_bool Ybaf.underlying4 true)

theorem bound_told : Rows.LawS3545ABoundaryToldSaid :=
  Claim7.holds_of_told_any 4 Ybaf.f4 _ _ [] _ _ _ (by kernel_rfl) rfl rfl rfl Ybaf.laidOut (by kernel_rfl) rfl ⟨rfl, rfl, rfl, rfl, rfl, rfl, rfl⟩ rfl rfl (by kernel_rfl) (by kernel_rfl) Ybaf.func4 (by kernel_rfl)
    (of_decide_eq_true (by kernel_rfl)) (of_decide_eq_true (by kernel_rfl)) Ybaf.stops.symm rfl Ybaf.stopKnobs.symm (by kernel_rfl)
    (by kernel_rfl) (by kernel_rfl) (by kernel_rfl) (by kernel_rfl) (by kernel_rfl) (by kernel_rfl) (by kernel_rfl) (by kernel_rfl) (by kernel_rfl) rfl (by kernel_rfl) rfl rfl
    rfl rfl
    rfl (by kernel_rfl) (by kernel_rfl) (by kernel_rfl) (by decide) (by kernel_rfl)
    (OpenClaim.moreEntering_of (by kernel_rfl) (by kernel_rfl) (by kernel_rfl) (by kernel_rfl) (by kernel_rfl) (by kernel_rfl) (by kernel_rfl) (by kernel_rfl) (by kernel_rfl) (by kernel_rfl))
    ⟨_, WideRow.started_initial, Ybaf.quiet _⟩
    (fun os started _ H enc _ => bound_lifted os started H enc)

end Go.Proofs.YbulkbujwFmt
