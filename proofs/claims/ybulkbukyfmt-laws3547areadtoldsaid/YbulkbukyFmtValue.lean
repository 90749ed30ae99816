/-
  zzs3547avalue and zzs3547aerr.
-/
import Derived.Test.YbulkbukyFmtSecs
import Derived.BigGuard
namespace Go.Proofs.YbulkbukyFmt
open Go.RowKit

theorem assert49 (p : Value) (w : World) : (Instr.typeAssert (.iface 49 p) 33 49 true).run Ybaf.prog w = .ok (.tuple #[p, .bool true]) w := by kernel_rfl
theorem assert39 (p : Value) (w : World) : (Instr.typeAssert (.iface 39 p) 31 39 true).run Ybaf.prog w = .ok (.tuple #[p, .bool true]) w := by kernel_rfl

set_option maxHeartbeats 1000000 in
set_option maxRecDepth 100000 in
theorem err_same (N : Nat) (src msg : ByteArray) (off : Nat) (w : World) (hE : Err N off (nearB src off) msg w) (ho : off ≤ src.size) (hm : src.size ≤ 4096) :
    Calls Ybaf.prog 6 #[.iface 49 (.pointer (some ⟨N, 0, none⟩)), .string src, .int .i64 off, .string msg, .bool true] w fun e w' => e = .returned (.bool true) ∧ ∃ k, w' = w.drewN k := by
  have h0 := hE.off
  have h1 := hE.near
  have h2 := hE.msg
  have HN := hid (fun k : Nat => Calls.quiet_of_same (near_any src off ho hm (w.drewN k)))
  have has := assert49 (.pointer (some ⟨N, 0, none⟩))
  have hs1 : ((nearB src off).toList == (nearB src off).toList) = true := by simp
  have hs2 : (msg.toList == msg.toList) = true := by simp
  clear hE ho hm
  go_enter Ybaf.func6, Ybaf.ntmps6
  go_wp2
  go_quiet ((go_at_call 14; exact HN.out _))
  go_wp2
  go_ret
  exact ⟨rfl, _, rfl⟩

set_option maxHeartbeats 1000000 in
set_option maxRecDepth 100000 in
theorem err_any (N : Nat) (src msg m : ByteArray) (off : Nat) (w : World) (hE : Err N off (nearB src off) msg w) (ho : off ≤ src.size) (hm : src.size ≤ 4096) :
    Calls Ybaf.prog 6 #[.iface 49 (.pointer (some ⟨N, 0, none⟩)), .string src, .int .i64 off, .string m, .bool false] w fun e w' => e = .returned (.bool true) ∧ ∃ k, w' = w.drewN k := by
  have h0 := hE.off
  have h1 := hE.near
  have HN := hid (fun k : Nat => Calls.quiet_of_same (near_any src off ho hm (w.drewN k)))
  have has := assert49 (.pointer (some ⟨N, 0, none⟩))
  have hs1 : ((nearB src off).toList == (nearB src off).toList) = true := by simp
  clear hE ho hm
  go_enter Ybaf.func6, Ybaf.ntmps6
  go_wp2
  go_quiet ((go_at_call 14; exact HN.out _))
  go_wp2
  go_ret
  exact ⟨rfl, _, rfl⟩

/-- What zzs3547avalue hands back. -/
def valueOf : Lib.NumEnd Nat → Value
  | .ok u => .tuple #[.int .i64 u, .bool true]
  | _ => .tuple #[.int .i64 0, .bool false]

theorem step_over (acc : Nat) (c : UInt8) (r : List UInt8) (h0 : 48 ≤ c.toNat) (h1 : c.toNat ≤ 57) (h : 9223372036854775807 < acc * 10 + (c.toNat - 48)) : Lib.parseUintM 9223372036854775807 acc (c :: r) = .range := by
  by_cases hc : 1844674407370955162 ≤ acc
  · simp [Lib.parseUintM, h0, h1, hc]
  · simp [Lib.parseUintM, h0, h1, hc, h]
theorem step_on (acc : Nat) (c : UInt8) (r : List UInt8) (h0 : 48 ≤ c.toNat) (h1 : c.toNat ≤ 57) (h : acc * 10 + (c.toNat - 48) ≤ 9223372036854775807) : Lib.parseUintM 9223372036854775807 acc (c :: r) = Lib.parseUintM 9223372036854775807 (acc * 10 + (c.toNat - 48)) r := by
  have hc : ¬ 1844674407370955162 ≤ acc := by omega
  have hv : ¬ 9223372036854775807 < acc * 10 + (c.toNat - 48) := by omega
  simp [Lib.parseUintM, h0, h1, hc, hv]

set_option maxHeartbeats 4000000 in
set_option maxRecDepth 100000 in
theorem value_any (t : ByteArray) (hd : ∀ c ∈ t.data.toList, 48 ≤ c.toNat ∧ c.toNat ≤ 57) (hm : t.size ≤ 4096) (w : World) :
    Calls Ybaf.prog 7 #[.string t] w fun e w' => e = .returned (valueOf (Lib.parseUintB 63 t.data.toList)) ∧ w' = w := by
  by_cases h0 : t.size = 0
  · have ht : t = ⟨#[]⟩ := by
      apply ByteArray.ext
      exact Array.eq_empty_of_size_eq_zero h0
    subst ht
    clear hd h0
    go_enter Ybaf.func7, Ybaf.ntmps7
    go_wp2
    go_ret2
    exact ⟨rfl, rfl⟩
  · have hne : t.data.toList ≠ [] := fun h => h0 (by rw [Lib.size_eq, h]; rfl)
    have eM : (2 : Nat) ^ 63 - 1 = 9223372036854775807 := by decide
    rw [Lib.parseUintB, if_neg hne, eM]
    clear eM hne
    have HD := hid hd
    have hn0 : (t.size == 0) = false := by simpa using h0
    clear hd
    go_enter Ybaf.func7, Ybaf.ntmps7
    go_wp2
    go_loop [4, 5] (fun vn vi => ∃ (k acc : Nat) (a : Int), vn = .int .u64 a ∧ vi = .int .i64 k ∧ k ≤ t.size ∧ Hid (a = (acc : Int) ∧ acc ≤ 9223372036854775807 ∧ Lib.parseUintM 9223372036854775807 0 t.data.toList = Lib.parseUintM 9223372036854775807 acc (t.data.toList.drop k)))
      (fun _ vi => t.size - (intOf vi).toNat)
    case atStart => exact ⟨0, 0, 0, rfl, rfl, by omega, rfl, by omega, rfl⟩
    case round =>
      obtain ⟨k, acc, a, rfl, rfl, hk, hh⟩ := hrel
      by_cases hkn : k < t.size
      · have hdrop : t.data.toList.drop k = t[k] :: t.data.toList.drop (k + 1) := by
          rw [List.drop_eq_getElem_cons (by rw [← Lib.size_eq]; exact hkn)]
          rfl
        have HG := hid hdrop
        have hdk : 48 ≤ t[k].toNat ∧ t[k].toNat ≤ 57 := HD.out _ (Array.mem_toList_iff.2 (Array.getElem_mem (xs := t.data) hkn))
        have HDk := hid hdk
        clear hdrop hdk
        go_wp2
        case roundEnd =>
          rename_i hle
          obtain ⟨ha, hacc, hdec⟩ := hh.out
          obtain ⟨hd0, hd1⟩ := HDk.out
          have hle' : acc * 10 + (t[k].toNat - 48) ≤ 9223372036854775807 := by omega
          have e1 : IntKind.u64.wrap (IntKind.u64.wrap (a * 10) + ((t[k].toNat : Int) - 48) % 256) = ((acc * 10 + (t[k].toNat - 48) : Nat) : Int) := by
            rw [IntKind.wrap_u64, IntKind.wrap_u64]
            omega
          refine ⟨⟨k + 1, acc * 10 + (t[k].toNat - 48), _, rfl, rfl, by omega, hid ⟨e1, hle', ?_⟩⟩, by simp [intOf]; omega⟩
          rw [hdec, HG.out, step_on _ _ _ hd0 hd1 hle']
        · rename_i hov
          obtain ⟨ha, hacc, hdec⟩ := hh.out
          obtain ⟨hd0, hd1⟩ := HDk.out
          have hov' : 9223372036854775807 < acc * 10 + (t[k].toNat - 48) := by omega
          go_ret2
          refine ⟨?_, rfl⟩
          rw [hdec, HG.out, step_over _ _ _ hd0 hd1 hov']
          rfl
      · have hkk : k = t.size := by omega
        subst hkk
        go_wp2
        go_ret2
        obtain ⟨ha, hacc, hdec⟩ := hh.out
        refine ⟨?_, rfl⟩
        rw [hdec, List.drop_eq_nil_of_le (by rw [Lib.size_eq]; omega)]
        have hw : wrap64 a = (acc : Int) := by
          unfold wrap64
          omega
        show Ending.returned (.tuple #[.int .i64 (wrap64 a), .bool true]) = .returned (.tuple #[.int .i64 (acc : Int), .bool true])
        rw [hw]
end Go.Proofs.YbulkbukyFmt
