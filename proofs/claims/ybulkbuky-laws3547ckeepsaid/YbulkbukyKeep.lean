/-
  The walk of LawS3547CKeep.
-/
import Derived.Test.YbulkbukyInv2
import Derived.Lib.SlFresh
namespace Go.Proofs.Ybulkbuky
open Go.RowKit

/-- The slice at p bears the bytes l (no byte: wherever, nil too). -/
def Lies (w : World) (p : Option Addr) (l : List UInt8) : Prop := l = [] ∨ ∃ g o, p = some ⟨g, o, none⟩ ∧ g < w.heap.size ∧ ∀ j (hj : j < l.length), w.cell? ⟨g, o + j, none⟩ = some (.int .u8 (l[j]).toNat)

theorem Lies.byte {w wr : World} {p : Option Addr} {l : List UInt8} (h : Lies w p l) (hb : Below w.heap.size w wr) (j : Nat) (hj : j < l.length) : ∃ g o, ∃ z : Nat, p = some ⟨g, o, none⟩ ∧ wr.cell? ⟨g, o + j, none⟩ = some (.int .u8 z) ∧ z < 256 := by
  rcases h with rfl | ⟨g, o, rfl, hg, hc⟩
  · simp at hj
  · exact ⟨g, o, (l[j]).toNat, rfl, (hb.cell (p := ⟨g, o + j, none⟩) hg).trans (hc j hj), (l[j]).toNat_lt⟩

theorem made_ptr (t e n : Nat) (ht : Yba.prog.underlying t = some (.slice e)) (hi : (Yba.prog.info? e).map (fun i => (i.zero, i.size, i.bytes)) = some (some (.pointer none), 1, 8)) (hn : n ≤ 1024) (w : World) :
    (Instr.makeSlice t (.int .i64 n) (.int .i64 n)).run Yba.prog w = .ok (.slice (some ⟨w.heap.size, 0, none⟩) n n) (w.alloc (.cells (madeCells #[.pointer none] n) e)) := by
  obtain ⟨i0, hi, hz0, hz1, hz2⟩ := info_parts hi
  have := run_make (P := Yba.prog) w t e i0 (.pointer none) ht hi hz0 .i64 .i64 n n (by omega) (Int.le_refl _) (by rw [hz2]; omega) (by omega)
  rw [hz1, Int.toNat_natCast, Nat.mul_one] at this
  exact this
theorem made_u8 (t e n : Nat) (ht : Yba.prog.underlying t = some (.slice e)) (hi : (Yba.prog.info? e).map (fun i => (i.zero, i.size, i.bytes)) = some (some (.int .u8 0), 1, 1)) (hn : n ≤ 1024) (w : World) :
    (Instr.makeSlice t (.int .i64 n) (.int .i64 n)).run Yba.prog w = .ok (.slice (some ⟨w.heap.size, 0, none⟩) n n) (w.alloc (.cells (madeCells #[.int .u8 0] n) e)) := by
  obtain ⟨i0, hi, hz0, hz1, hz2⟩ := info_parts hi
  have := run_make (P := Yba.prog) w t e i0 (.int .u8 0) ht hi hz0 .i64 .i64 n n (by omega) (Int.le_refl _) (by rw [hz2]; omega) (by omega)
  rw [hz1, Int.toNat_natCast, Nat.mul_one] at this
  exact this

theorem set_set (w : World) (b o : Nat) (u v : Value) : (w.setCell ⟨b, o, none⟩ u).setCell ⟨b, o, none⟩ v = w.setCell ⟨b, o, none⟩ v := by
  have h : ∀ (i : Nat), ((w.setCell ⟨b, o, none⟩ u).setCell ⟨b, o, none⟩ v).heap[i]? = (w.setCell ⟨b, o, none⟩ v).heap[i]? := by
    intro i
    simp only [World.setCell, Array.getElem?_modify]
    by_cases e : b = i
    · simp only [if_pos e]
      cases w.heap[i]? with
      | none => rfl
      | some x => cases x <;> simp
    · simp only [if_neg e]
  have h2 : ((w.setCell ⟨b, o, none⟩ u).setCell ⟨b, o, none⟩ v).heap = (w.setCell ⟨b, o, none⟩ v).heap := Array.ext_getElem? h
  show ({ (w.setCell ⟨b, o, none⟩ u) with heap := ((w.setCell ⟨b, o, none⟩ u).setCell ⟨b, o, none⟩ v).heap } : World) = { w with heap := (w.setCell ⟨b, o, none⟩ v).heap }
  rw [h2]
  rfl

set_option maxHeartbeats 400000 in
set_option maxRecDepth 100000 in
theorem law_great (p q : Option Addr) (n c m d : Nat) (k : Int) (w : World) (hn : 1024 < n) :
    Calls Yba.prog 3 #[.slice p n c, .slice q m d, .int .u8 k] w fun e w' => e = .returned (.bool true) ∧ Below w.heap.size w w' := by
  have hn' : (1024 : Int) < (n : Int) := by omega
  go_enter Yba.func3, Yba.ntmps3
  go_wp2
  go_ret
  exact ⟨rfl, Below.refl _ _⟩

set_option maxHeartbeats 16000000 in
set_option maxRecDepth 100000 in
theorem law_small (p q : Option Addr) (n c m d k tg : Nat) (l1 l2 : List UInt8) (hn : n ≤ 1024) (hk : k < 256) (w : World) (htg : (k : Int) % ((n : Int) + 1) = (tg : Int))
    (hl1 : l1.length = n) (hl2 : l2.length = m) (hL1 : Lies w p l1) (hL2 : Lies w q l2) :
    Calls Yba.prog 3 #[.slice p n c, .slice q m d, .int .u8 k] w fun e w' => e = .returned (.bool true) ∧ Below w.heap.size w w' := by
  have hmk29 := made_ptr 29 75 n Yba.underlying29 info75 hn
  have hmk71 := made_ptr 71 73 n Yba.underlying71 (by kernel_rfl) hn
  have hmk72 := made_u8 72 74 n Yba.underlying72 (by kernel_rfl) hn
  have hn' : (n : Int) ≤ 1024 := by omega
  have HL1 := hid hL1
  have HL2 := hid hL2
  clear hL1 hL2
  go_enter Yba.func3, Yba.ntmps3
  go_wp2
  have HE := hid (eight w)
  generalize hV : w.heap.size + 1 + 1 + 1 + 1 + 1 + 1 + 1 = V
  generalize hL : w.heap.size + 1 + 1 + 1 + 1 + 1 + 1 = L
  generalize hR : w.heap.size + 1 + 1 + 1 + 1 + 1 = R
  generalize hX : w.heap.size + 1 + 1 + 1 + 1 = X
  generalize hS : w.heap.size + 1 + 1 + 1 = S
  generalize hDB : w.heap.size + 1 + 1 = DB
  generalize hU : w.heap.size + 1 = U
  go_loopw [17] (fun i wr => ∃ j : Nat, j ≤ n ∧ i = .int .i64 j ∧ Hid (∃ a h, Inv w U S X R L V n tg j a h wr)) (fun i _ => n - (intOf i).toNat)
  case atStart =>
    refine ⟨0, by omega, rfl, ?_⟩
    subst hV hL hR hX hS hDB hU
    obtain ⟨e0, e1, e2, e3, e4, e5, e6, e7, e8⟩ := HE.out _ _ _ _ _ _ _ _
    exact inv_start e0 e1 e2 e3 e4 e5 e6 e7 e8 rfl rfl
  case round =>
    obtain ⟨j, hj, rfl, hI⟩ := hrel
    have hord : w.heap.size < U ∧ U < S ∧ S < X ∧ X < R ∧ R < L ∧ L < V := by omega
    have HO := hid hord
    have d56 : R ≠ L := by omega
    have d57 : R ≠ V := by omega
    have d67 : L ≠ V := by omega
    have d65 : L ≠ R := by omega
    have d75 : V ≠ R := by omega
    have d76 : V ≠ L := by omega
    obtain ⟨a, h, I⟩ := hI.out
    clear hmk29 hmk71 hmk72 hI hV hL hR hX hS hDB hU HE hord
    by_cases hlt : j < n
    · have h5 : R < wr.heap.size := by have := I.size; have := HO.out; omega
      have h6 : L < wr.heap.size := by have := I.size; have := HO.out; omega
      have h7 : V < wr.heap.size := by have := I.size; omega
      obtain ⟨v5, e5, f5⟩ := (show ∃ v, wr.cell? ⟨R, j, none⟩ = some v ∧ wr.frozen? ⟨R, j, none⟩ = false from by obtain ⟨xs, hr, _⟩ := I.rR; exact hr.some j hlt)
      obtain ⟨v6, e6, f6⟩ := (show ∃ v, wr.cell? ⟨L, j, none⟩ = some v ∧ wr.frozen? ⟨L, j, none⟩ = false from by obtain ⟨xs, hr, _⟩ := I.rL; exact hr.some j hlt)
      obtain ⟨v7, e7, f7⟩ := (show ∃ v, wr.cell? ⟨V, j, none⟩ = some v ∧ wr.frozen? ⟨V, j, none⟩ = false from by obtain ⟨xs, hr, _⟩ := I.rV; exact hr.some j hlt)
      obtain ⟨b, o, z, rfl, hc1, hz2⟩ := HL1.out.byte I.below j (by omega)
      have HB := hid I.below
      have HN := hid (fun A H VV hk hu hv => inv_step I HO.out hlt A H VV hk hu hv)
      clear I
      have hzs : (z : Int) % 3 = 0 ∨ (z : Int) % 3 = 1 ∨ (z : Int) % 3 = 2 := by omega
      by_cases ht : j = tg
      · have htb : ((j : Int) == (tg : Int)) = true := by simp; omega
        have HT := hid ht
        clear ht
        by_cases hm : j < m
        · obtain ⟨b2, o2, y, rfl, hc2, hy2⟩ := HL2.out.byte HB.out j (by omega)
          have hm' : (j : Int) < (m : Int) := by omega
          rcases hzs with hz | hz | hz
          · go_wp2
            go_roundw
            case rel => exact ⟨j + 1, by omega, by go_num, by rw [set_set]; exact HN.out ⟨w.heap.size, 16, none⟩ 1 2 (.inl rfl) ⟨fun _ => HT.out, fun _ => ⟨rfl, rfl⟩⟩ (by rw [if_pos HT.out])⟩
            case measure => simp [intOf]; omega
          · go_wp2
            go_roundw
            case rel => exact ⟨j + 1, by omega, by go_num, by rw [set_set]; exact HN.out ⟨w.heap.size, 16, none⟩ 1 2 (.inl rfl) ⟨fun _ => HT.out, fun _ => ⟨rfl, rfl⟩⟩ (by rw [if_pos HT.out])⟩
            case measure => simp [intOf]; omega
          · go_wp2
            go_roundw
            case rel => exact ⟨j + 1, by omega, by go_num, by rw [set_set]; exact HN.out ⟨w.heap.size, 16, none⟩ 1 2 (.inl rfl) ⟨fun _ => HT.out, fun _ => ⟨rfl, rfl⟩⟩ (by rw [if_pos HT.out])⟩
            case measure => simp [intOf]; omega
        · have hm' : ¬ (j : Int) < (m : Int) := by omega
          rcases hzs with hz | hz | hz
          · go_wp2
            go_roundw
            case rel => exact ⟨j + 1, by omega, by go_num, by rw [set_set]; exact HN.out ⟨w.heap.size, 16, none⟩ 1 2 (.inl rfl) ⟨fun _ => HT.out, fun _ => ⟨rfl, rfl⟩⟩ (by rw [if_pos HT.out])⟩
            case measure => simp [intOf]; omega
          · go_wp2
            go_roundw
            case rel => exact ⟨j + 1, by omega, by go_num, by rw [set_set]; exact HN.out ⟨w.heap.size, 16, none⟩ 1 2 (.inl rfl) ⟨fun _ => HT.out, fun _ => ⟨rfl, rfl⟩⟩ (by rw [if_pos HT.out])⟩
            case measure => simp [intOf]; omega
          · go_wp2
            go_roundw
            case rel => exact ⟨j + 1, by omega, by go_num, by rw [set_set]; exact HN.out ⟨w.heap.size, 16, none⟩ 1 2 (.inl rfl) ⟨fun _ => HT.out, fun _ => ⟨rfl, rfl⟩⟩ (by rw [if_pos HT.out])⟩
            case measure => simp [intOf]; omega
      · have htb : ((j : Int) == (tg : Int)) = false := by simp; omega
        have HT := hid ht
        clear ht
        by_cases hm : j < m
        · obtain ⟨b2, o2, y, rfl, hc2, hy2⟩ := HL2.out.byte HB.out j (by omega)
          have hm' : (j : Int) < (m : Int) := by omega
          obtain ⟨hh, hy⟩ : ∃ hh : Nat, (y : Int) % 4 + 1 = (hh : Int) := ⟨y % 4 + 1, by omega⟩
          have hb1 : 1 ≤ hh := by omega
          have hb4 : hh ≤ 4 := by omega
          rcases hzs with hz | hz | hz
          · by_cases h1 : hh = 1
            · have h1b : ((hh : Int) == 1) = true := by simp; omega
              clear h1
              go_wp2
              go_roundw
              case rel => exact ⟨j + 1, by omega, by go_num, HN.out ⟨w.heap.size, 16, none⟩ 3 3 (.inl rfl) ⟨fun hc => absurd hc.2 (by decide), fun e => absurd e HT.out⟩ (by rw [if_neg HT.out])⟩
              case measure => simp [intOf]; omega
            · have h1b : ((hh : Int) == 1) = false := by simp; omega
              have H1 := hid h1
              clear h1
              go_wp2
              go_roundw
              case rel => exact ⟨j + 1, by omega, by go_num, HN.out ⟨w.heap.size, 16, none⟩ (hh : Int) (hh : Int) (.inl rfl) ⟨fun hc => absurd hc.2 (by have := H1.out; omega), fun e => absurd e HT.out⟩ (by rw [if_neg HT.out])⟩
              case measure => simp [intOf]; omega
          · go_wp2
            go_roundw
            case rel => exact ⟨j + 1, by omega, by go_num, HN.out ⟨w.heap.size, 7, none⟩ (hh : Int) (hh : Int) (.inr (.inl rfl)) ⟨fun hc => absurd hc.1 (by simp), fun e => absurd e HT.out⟩ (by rw [if_neg HT.out])⟩
            case measure => simp [intOf]; omega
          · go_wp2
            go_roundw
            case rel => exact ⟨j + 1, by omega, by go_num, HN.out ⟨U, 16, none⟩ (hh : Int) (hh : Int) (.inr (.inr rfl)) ⟨fun hc => absurd hc.1 (fun e' => by have h1 : U = w.heap.size := congrArg Addr.block e'; have h2 := HO.out.1; omega), fun e => absurd e HT.out⟩ (by rw [if_neg HT.out])⟩
            case measure => simp [intOf]; omega
        · have hm' : ¬ (j : Int) < (m : Int) := by omega
          rcases hzs with hz | hz | hz
          · go_wp2
            go_roundw
            case rel => exact ⟨j + 1, by omega, by go_num, HN.out ⟨w.heap.size, 16, none⟩ 3 3 (.inl rfl) ⟨fun hc => absurd hc.2 (by decide), fun e => absurd e HT.out⟩ (by rw [if_neg HT.out])⟩
            case measure => simp [intOf]; omega
          · go_wp2
            go_roundw
            case rel => exact ⟨j + 1, by omega, by go_num, HN.out ⟨w.heap.size, 7, none⟩ 1 1 (.inr (.inl rfl)) ⟨fun hc => absurd hc.1 (by simp), fun e => absurd e HT.out⟩ (by rw [if_neg HT.out])⟩
            case measure => simp [intOf]; omega
          · go_wp2
            go_roundw
            case rel => exact ⟨j + 1, by omega, by go_num, HN.out ⟨U, 16, none⟩ 1 1 (.inr (.inr rfl)) ⟨fun hc => absurd hc.1 (fun e' => by have h1 : U = w.heap.size := congrArg Addr.block e'; have h2 := HO.out.1; omega), fun e => absurd e HT.out⟩ (by rw [if_neg HT.out])⟩
            case measure => simp [intOf]; omega
    · have hjn : j = n := by omega
      subst hjn
      obtain ⟨p', c', w2, hr, s0, sf, HBe⟩ := run_locks 29 I HO.out hn
      have HR := hid hr
      have hS2 : S < w2.heap.size := by
        rcases Nat.lt_or_ge S w2.heap.size with hx | hx
        · exact hx
        · simp [World.cell?, Array.getElem?_eq_none hx] at s0
      have HK := hid (keep_any X S w.heap.size U (V + 1) j tg c' p' a h _ HBe.out.reqs hn HBe.out.x HBe.out.s HBe.out.q)
      have HLa := hid (fun k : Nat => last_kept HBe.out HO.out k)
      clear I hr HBe HL1 HL2 hl1 hl2
      go_wp2_with (at_builtin; refine Lib.wpList_append_run_sl _ rfl _ _ 29 rfl _ _ rfl rfl HR.out ?_)
      refine HK.out.mono ?_
      rintro e w4 ⟨rfl, k4, rfl⟩
      have hLa := hid (HLa.out k4)
      generalize (kept (V + 1) j tg (w2.setCell ⟨S, 7, none⟩ (.slice p' j c'))).drewN k4 = w4 at hLa ⊢
      clear HK HLa HR s0 sf hS2
      go_wp2
      go_loopw [22] (fun i wr => ∃ t : Nat, t ≤ j ∧ i = .int .i64 t ∧ Hid (∃ k, wr = w4.drewN k)) (fun i _ => j - (intOf i).toNat)
      case atStart => exact ⟨0, by omega, rfl, ⟨0, rfl⟩⟩
      case round =>
        obtain ⟨t, ht, rfl, hW⟩ := hrel
        obtain ⟨k5, rfl⟩ := hW.out
        clear hW
        by_cases htl : t < j
        · have c1 := hLa.out.cR t htl
          have c2 := hLa.out.cL t htl
          have c3 := hLa.out.cV t htl
          have c4 := hLa.out.lock t htl
          have c5 := hLa.out.hold t htl
          have hnq := neq_lock_same (a t)
          have htl' : (t : Int) < (j : Int) := by omega
          generalize (if t = tg then 2 else h t) = ww at c3 c5
          go_wp2
          go_quiet (fail)
          go_wp2
          go_roundw
          case rel => exact ⟨t + 1, by omega, by go_num, ⟨_, rfl⟩⟩
          case measure => simp [intOf]; omega
        · have htj : t = j := by omega
          subst htj
          go_wp2
          go_ret
          exact ⟨rfl, below_drewN' hLa.out.below _⟩

/-- LawS3547CKeep returns true, and writes nothing that was there. -/
theorem law_any (p q : Option Addr) (n c m d k : Nat) (l1 l2 : List UInt8) (hk : k < 256) (w : World)
    (hl1 : l1.length = n) (hl2 : l2.length = m) (hL1 : Lies w p l1) (hL2 : Lies w q l2) :
    Calls Yba.prog 3 #[.slice p n c, .slice q m d, .int .u8 k] w fun e w' => e = .returned (.bool true) ∧ Below w.heap.size w w' := by
  by_cases hn : 1024 < n
  · exact law_great p q n c m d k w hn
  · exact law_small p q n c m d k (k % (n + 1)) l1 l2 (by omega) hk w (by simp) hl1 hl2 hL1 hL2
end Go.Proofs.Ybulkbuky
