/-
  (*Session).lockOn and (*transaction).keepIntention over a row of requests.
-/
import Derived.Test.YbulkbukyProg
import Derived.WalkKit
import Derived.WalkSpells
import Derived.LaidEqlPtr
import Derived.Lib.Builder
import Derived.Deep.QuietTactic
import Derived.BigQuiet
namespace Go.Proofs.Ybulkbuky
open Go.RowKit

theorem hid {p : Prop} (h : p) : Hid p := h

/-- n requests, the i-th in block B0 + i: its lock a i, its holding h i; the locks are of three kinds; just the request tg is on t's table lock and held for the statement. -/
structure Reqs (T U B0 n tg : Nat) (a : Nat → Addr) (h : Nat → Int) (w : World) : Prop where
  lock : ∀ i, i < n → w.cell? ⟨B0 + i, 3, none⟩ = some (.pointer (some (a i)))
  hold : ∀ i, i < n → w.cell? ⟨B0 + i, 7, none⟩ = some (.int .u8 (h i))
  froz : ∀ i, i < n → w.frozen? ⟨B0 + i, 7, none⟩ = false
  kind : ∀ i, i < n → a i = ⟨T, 16, none⟩ ∨ a i = ⟨T, 7, none⟩ ∨ a i = ⟨U, 16, none⟩
  uniq : ∀ i, i < n → ((a i = ⟨T, 16, none⟩ ∧ h i = 1) ↔ i = tg)
  heapT : ∃ c t, w.heap[T]? = some (.cells c t (0, 0))
  heapU : ∃ c t, w.heap[U]? = some (.cells c t (0, 0))

theorem info36 : (Yba.prog.info? 36).map (fun i => decide (i.size ≠ 0)) = some true := by kernel_rfl

theorem eql_lock_same (x : Addr) (w : World) : (binOp .eql 73 (.pointer (some x)) (.pointer (some x))).run Yba.prog w = .ok (.bool true) w := by
  obtain ⟨j, hj, _⟩ := Option.map_eq_some_iff.1 info36
  exact run_eql_ptr_same w x Yba.underlying73 hj
theorem neq_lock_same (x : Addr) (w : World) : (binOp .neq 73 (.pointer (some x)) (.pointer (some x))).run Yba.prog w = .ok (.bool false) w := by
  obtain ⟨j, hj, _⟩ := Option.map_eq_some_iff.1 info36
  exact Lib.run_neq_ptr_same w x Yba.underlying73 hj
theorem eql_lock_other (x y : Addr) (w : World) (hne : x ≠ y) (hx : ∃ c t, w.heap[x.block]? = some (.cells c t (0, 0))) (hy : ∃ c t, w.heap[y.block]? = some (.cells c t (0, 0))) : (binOp .eql 73 (.pointer (some x)) (.pointer (some y))).run Yba.prog w = .ok (.bool false) w := by
  obtain ⟨j, hj, hs⟩ := Option.map_eq_some_iff.1 info36
  obtain ⟨_, _, hx⟩ := hx
  obtain ⟨_, _, hy⟩ := hy
  exact run_eql_ptr_other w Yba.underlying73 hj (by simpa using hs) hne hx hy

theorem Reqs.at {T U B0 n tg : Nat} {a : Nat → Addr} {h : Nat → Int} {w : World} (R : Reqs T U B0 n tg a h w) (i : Nat) (hi : i < n) : ∃ c t, w.heap[(a i).block]? = some (.cells c t (0, 0)) := by
  rcases R.kind i hi with e | e | e
  · rw [e]; exact R.heapT
  · rw [e]; exact R.heapT
  · rw [e]; exact R.heapU

/-- What lockOn finds. -/
def found (B0 n tg : Nat) : Value := if tg < n then .pointer (some ⟨B0 + tg, 0, none⟩) else .pointer none

set_option maxHeartbeats 1000000 in
theorem lockOn_any (S T U B0 n tg c : Nat) (p : Option Addr) (a : Nat → Addr) (h : Nat → Int) (w : World) (R : Reqs T U B0 n tg a h w) (hn : n ≤ 1024)
    (hs : w.cell? ⟨S, 7, none⟩ = some (.slice p n c)) (hq : ∀ i, i < n → ∃ Q, p = some ⟨Q, 0, none⟩ ∧ w.cell? ⟨Q, i, none⟩ = some (.pointer (some ⟨B0 + i, 0, none⟩))) :
    Calls Yba.prog 5 #[.pointer (some ⟨S, 0, none⟩), .pointer (some ⟨T, 16, none⟩), .int .u8 1] w fun e w' => e = .returned (found B0 n tg) ∧ w' = w := by
  have HR := hid R
  have HQ := hid hq
  clear R hq
  go_enter Yba.func5, Yba.ntmps5
  go_wp2
  go_loop [14] (fun i => ∃ j : Nat, j ≤ n ∧ i = .int .i64 j ∧ Hid (∀ i, i < j → i ≠ tg)) (fun i => n - (intOf i).toNat)
  case atStart => exact ⟨0, by omega, rfl, fun i hi => by omega⟩
  case round =>
    obtain ⟨j, hj, rfl, hno⟩ := hrel
    by_cases hlt : j < n
    · obtain ⟨Q, rfl, hc⟩ := HQ.out j hlt
      have hl := HR.out.lock j hlt
      have hh := HR.out.hold j hlt
      have hu := hid (HR.out.uniq j hlt)
      by_cases ha : a j = ⟨T, 16, none⟩
      · rw [ha] at hl
        have he := eql_lock_same ⟨T, 16, none⟩
        by_cases h1 : h j = 1
        · rw [h1] at hh
          have htg : Hid (j = tg) := hu.out.1 ⟨ha, h1⟩
          clear ha h1 hu
          go_wp2
          go_ret
          refine ⟨?_, rfl⟩
          rw [found, ← htg.out, if_pos hlt]
          rfl
        · have h1b : (h j == 1) = false := by simpa using h1
          have htg : Hid (j ≠ tg) := fun e => h1 (hu.out.2 e).2
          clear ha h1 hu
          go_wp2
          go_round
          case rel => exact ⟨j + 1, by omega, by go_num, fun i hi => by
            rcases Nat.lt_or_ge i j with h | h
            · exact hno.out i h
            · have : i = j := by omega
              subst this
              exact htg.out⟩
          case measure => simp [intOf]; omega
      · have he := eql_lock_other (a j) ⟨T, 16, none⟩ w ha (HR.out.at j hlt) HR.out.heapT
        have htg : Hid (j ≠ tg) := fun e => ha (hu.out.2 e).1
        clear ha hu
        go_wp2
        go_round
        case rel => exact ⟨j + 1, by omega, by go_num, fun i hi => by
          rcases Nat.lt_or_ge i j with h | h
          · exact hno.out i h
          · have : i = j := by omega
            subst this
            exact htg.out⟩
        case measure => simp [intOf]; omega
    · have hjn : j = n := by omega
      subst hjn
      go_wp2
      go_ret
      refine ⟨?_, rfl⟩
      have : ¬ tg < j := fun hc => hno.out tg hc rfl
      rw [found, if_neg this]
      rfl

/-- What keepIntention leaves. -/
def kept (B0 n tg : Nat) (w : World) : World := if tg < n then w.setCell ⟨B0 + tg, 7, none⟩ (.int .u8 2) else w

theorem below_drewN' {B : Nat} {a w : World} (h : Below B a w) (k : Nat) : Below B a (w.drewN k) := by
  induction k with
  | zero => exact h
  | succ k ih => exact ih.drew

theorem drewN_heap (w : World) (k : Nat) : (w.drewN k).heap = w.heap := by
  induction k with
  | zero => rfl
  | succ k ih => exact ih
theorem drewN_cell (w : World) (k : Nat) (x : Addr) : (w.drewN k).cell? x = w.cell? x := World.cell?_of_block (w := w) (by rw [drewN_heap])
theorem drewN_frozen (w : World) (k : Nat) (x : Addr) : (w.drewN k).frozen? x = w.frozen? x := World.frozen?_of_block (w := w) (by rw [drewN_heap])

theorem Reqs.drewN {T U B0 n tg : Nat} {a : Nat → Addr} {h : Nat → Int} {w : World} (R : Reqs T U B0 n tg a h w) (k : Nat) : Reqs T U B0 n tg a h (w.drewN k) :=
  ⟨fun i hi => (drewN_cell w k _).trans (R.lock i hi), fun i hi => (drewN_cell w k _).trans (R.hold i hi), fun i hi => (drewN_frozen w k _).trans (R.froz i hi), R.kind, R.uniq, by rw [drewN_heap]; exact R.heapT, by rw [drewN_heap]; exact R.heapU⟩

set_option maxHeartbeats 1000000 in
theorem keep_any (X S T U B0 n tg c : Nat) (p : Option Addr) (a : Nat → Addr) (h : Nat → Int) (w : World) (R : Reqs T U B0 n tg a h w) (hn : n ≤ 1024) (hx : w.cell? ⟨X, 1, none⟩ = some (.pointer (some ⟨S, 0, none⟩)))
    (hs : w.cell? ⟨S, 7, none⟩ = some (.slice p n c)) (hq : ∀ i, i < n → ∃ Q, p = some ⟨Q, 0, none⟩ ∧ w.cell? ⟨Q, i, none⟩ = some (.pointer (some ⟨B0 + i, 0, none⟩))) :
    Calls Yba.prog 4 #[.pointer (some ⟨X, 0, none⟩), .pointer (some ⟨T, 0, none⟩)] w fun e w' => e = .returned (.tuple #[]) ∧ ∃ k, w' = (kept B0 n tg w).drewN k := by
  have HL := hid (fun k : Nat => Calls.quiet_of_same (lockOn_any S T U B0 n tg c p a h (w.drewN k) (R.drewN k) hn ((drewN_cell w k _).trans hs) (fun i hi => by
    obtain ⟨Q, e, hc⟩ := hq i hi
    exact ⟨Q, e, (drewN_cell w k _).trans hc⟩)))
  by_cases hl : tg < n
  · have hc := R.hold tg hl
    have hz := R.froz tg hl
    have e1 : found B0 n tg = .pointer (some ⟨B0 + tg, 0, none⟩) := if_pos hl
    have e2 : kept B0 n tg w = w.setCell ⟨B0 + tg, 7, none⟩ (.int .u8 2) := if_pos hl
    rw [e1] at HL
    rw [e2]
    clear R hq e1 e2
    go_enter Yba.func4, Yba.ntmps4
    go_wp2
    go_quiet ((go_at_call 5; exact HL.out _))
    go_wp2
    go_end0
    exact ⟨rfl, _, rfl⟩
  · have e1 : found B0 n tg = .pointer none := if_neg hl
    have e2 : kept B0 n tg w = w := if_neg hl
    rw [e1] at HL
    rw [e2]
    clear R hq e1 e2
    go_enter Yba.func4, Yba.ntmps4
    go_wp2
    go_quiet ((go_at_call 5; exact HL.out _))
    go_wp2
    go_end0
    exact ⟨rfl, _, rfl⟩

end Go.Proofs.Ybulkbuky
