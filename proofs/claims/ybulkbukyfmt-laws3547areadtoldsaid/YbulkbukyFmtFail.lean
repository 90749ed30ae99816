import Derived.Test.YbulkbukyFmtParse
import Derived.Deep.RegionWith
namespace Go.Proofs.YbulkbukyFmt
open Go.RowKit

theorem Ps.drew {B T n c : Nat} {src : ByteArray} {pos : Nat} {w : World} (h : Ps B T n c src pos w) : Ps B T n c src pos w.drew := ⟨h.src, h.toks, h.pos, h.froz⟩
theorem Tok.drew {T i : Nat} {kd : Int} {tx : ByteArray} {tp : Nat} {w : World} (h : Tok T i kd tx tp w) : Tok T i kd tx tp w.drew := ⟨h.kd, h.tx, h.tp⟩

theorem fld2 (a b c : Value) (W : World) : (Instr.field 25 (.agg #[a, b, c]) 2).run Ybaf.prog W = .ok c W := by
  unfold Instr.field part asAgg
  go_simp

/-- What (*parser).fail hands back. -/
def Failed (off : Nat) (near msg : ByteArray) (w : World) (e : Ending) (w' : World) : Prop :=
  ∃ N, w.heap.size ≤ N ∧ e = .returned (.iface 49 (.pointer (some ⟨N, 0, none⟩))) ∧ Err N off near msg w' ∧ Below w.heap.size w w'

set_option maxHeartbeats 1000000 in
set_option maxRecDepth 100000 in
theorem fail_any (B T n c : Nat) (src msg : ByteArray) (i : Nat) (kd : Int) (tx : ByteArray) (tp : Nat) (w : World) (hP : Ps B T n c src i w) (hT : Tok T i kd tx tp w) (hi : i < n) (hn : n ≤ 8)
    (ho : tp ≤ src.size) (hm : src.size ≤ 4096) (ha : ∀ c ∈ src.data.toList, c.toNat < 128) :
    Calls Ybaf.prog 18 #[.pointer (some ⟨B, 0, none⟩), .string msg] w fun e w' => Failed tp (nearB src tp) msg w e w' := by
  have HC := hid (fun (W : World) => syntaxError_any src msg tp ho hm ha W)
  have HK := hid (peek_any B T n c src i kd tx tp _ hP.drew hT.drew hi hn)
  have hs := hP.src
  have hl : B < w.heap.size := lt_of_cell hP.src
  have HB := hid (fun (W : World) (h : Below w.heap.size w.drew W) => (h.cell (p := ⟨B, 0, none⟩) hl).trans hP.drew.src)
  have hfld := fld2 (.int .u8 kd) (.string tx) (.int .i64 tp)
  clear ha hP hT hl
  go_enter Ybaf.func18, Ybaf.ntmps18
  go_wp2
  go_region_with (first
    | (go_at_call 21; refine HK.out.mono ?_; rintro e W1 ⟨rfl, hb1⟩; have hs1 := HB.out W1 hb1)
    | (go_at_call 24; refine (HC.out _).mono ?_; rintro e W2 ⟨N, hN, rfl, hE, hb2⟩))
  all_goals
    (go_wp2
     go_ret
     exact ⟨N, Nat.le_trans hb1.size hN, rfl, hE, ((Below.refl _ _).drew.trans hb1).trans (hb2.mono hb1.size)⟩)
end Go.Proofs.YbulkbukyFmt
