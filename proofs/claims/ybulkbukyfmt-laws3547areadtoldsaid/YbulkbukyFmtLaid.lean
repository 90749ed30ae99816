/-
  LawS3547ARead: a world in which the five listed variables hold what their initialisers lay.
-/
import Derived.Test.YbulkbukyFmtRows
import Derived.Deep.DeepWitnessRowRef
import Derived.Lib.LaidIn
import Derived.ProofKit
namespace Go.Proofs.YbulkbukyFmt
open Go

def z2 : List Int := [1, 10, 100, 1000, 10000, 100000, 1000000, 10000000, 100000000, 1000000000, 10000000000, 100000000000, 1000000000000, 10000000000000, 100000000000000, 1000000000000000, 10000000000000000, 100000000000000000, 1000000000000000000, 10000000000000000000]
def z3 : List Int := [0, 1, 28, 2, 29, 14, 24, 3, 30, 22, 20, 15, 25, 17, 4, 8, 31, 27, 13, 23, 21, 19, 16, 7, 26, 12, 18, 6, 11, 5, 10, 9]
def z4 : List Int := [0, 1, 56, 2, 57, 49, 28, 3, 61, 58, 42, 50, 38, 29, 17, 4, 62, 47, 59, 36, 45, 43, 51, 22, 53, 39, 33, 30, 24, 18, 12, 5, 63, 55, 48, 27, 60, 41, 37, 16, 46, 35, 44, 21, 52, 32, 23, 11, 54, 26, 40, 15, 34, 20, 31, 10, 25, 14, 19, 9, 13, 8, 7, 6]

noncomputable def laidWorld (os : Os) : World :=
  let N := (World.settled Ybaf.prog os).heap.size
  let w0 := World.holding Ybaf.prog os ⟨#[.cells #[.string ⟨#[118, 97, 108, 117, 101, 32, 111, 117, 116, 32, 111, 102, 32, 114, 97, 110, 103, 101]⟩] 98, .cells #[.string ⟨#[105, 110, 118, 97, 108, 105, 100, 32, 115, 121, 110, 116, 97, 120]⟩] 98], #[], []⟩
  let put (h : Array Obj) (g : Nat) (cs : Array Value) : Array Obj := h.modify g fun
    | .cells _ t frozen => .cells cs t frozen
    | o => o
  let h0 := put (put w0.heap 0 #[.iface 96 (.pointer (some ⟨N + 1, 0, none⟩))]) 1 #[.iface 96 (.pointer (some ⟨N, 0, none⟩))]
  let h1 := put (put (put h0 7 (z2.map (Value.int .u64)).toArray) 8 (z3.map (Value.int .u8)).toArray) 9 (z4.map (Value.int .u8)).toArray
  { w0 with heap := h1 }

noncomputable abbrev N0 : Nat := (World.settled Ybaf.prog default).heap.size
set_option maxRecDepth 1000000 in
theorem piece (os : Os) (args : Array Value) : LaidIn Ybaf.prog ((laidWorld os).forCall (fun _ _ => 0) ⟨#[], args, []⟩).memory Rows.lawS3547AReadRow.laid [8, 9, 7, 1, N0, 0, N0 + 1] :=
  LaidIn.of_run [8, 9, 7, 1, N0, 0, N0 + 1] 10 (by kernel_rfl) (by kernel_rfl) (by kernel_rfl) (by kernel_rfl)

theorem laid_met (os : Os) (args : Array Value) : laidMet Ybaf.prog Rows.lawS3547AReadRow.laid ((laidWorld os).forCall (fun _ _ => 0) ⟨#[], args, []⟩).memory := (piece os args).met

theorem witness_row (os : Os) {H : Type} (enc : TypeId × Value → H) :
    (OpenSpec.ofChange Rows.lawS3547AReadSpec).preRow enc Ybaf.prog Ybaf.f3 Rows.lawS3547AReadRow.domain false Rows.lawS3547AReadRow.laid ((laidWorld os).forCall (fun _ _ => 0) ⟨#[], #[.slice none 0 0, .int .u8 0, .int .u8 0], []⟩).memory #[.slice none 0 0, .int .u8 0, .int .u8 0] := by
  have hw : (DataW.whole enc Ybaf.prog ((laidWorld os).forCall (fun _ _ => 0) ⟨#[], #[.slice none 0 0, .int .u8 0, .int .u8 0], []⟩).memory Ybaf.f3.params.toList (OpenSpec.ofChange Rows.lawS3547AReadSpec).vars false #[Value.slice none 0 0, .int .u8 0, .int .u8 0].toList 8).map (fun x => (x.1, x.2.1)) =
      some ([.nil, .lit (.int .u8 0), .lit (.int .u8 0)], []) := by kernel_rfl
  obtain ⟨⟨x1, x2, x3⟩, hx, hx1⟩ := Option.map_eq_some_iff.1 hw
  simp only [Prod.mk.injEq] at hx1
  obtain ⟨rfl, rfl⟩ := hx1
  exact OpenSpec.preRow_of_cond 8 hx (by kernel_rfl) (fun k hk => by cases hk) (by kernel_rfl) (laid_met os _)
end Go.Proofs.YbulkbukyFmt
