/-
  Walks: whether an attribute, a node and units are right.
-/
import Derived.Test.YtklcoppfkfenfaaGreatDoorFP08
set_option linter.all false
set_option linter.unusedVariables false
set_option linter.unusedSimpArgs false
namespace Go.Proofs.YtklcoppfkfenfaaGreatDoor
set_option maxRecDepth 100000
open Go Go.RowKit

theorem validCover_list (K : Bs) (x1 x2 x3 x4 x5 x6 x7 x8 x9 x10 x11 x12 x13 : Value) (list : List ItemD) (lv : Value) (w : World) (hit : ItemsAt K w lv list) (hk : ∀ k, K k → k < w.heap.size) :
    Calls Tryz.prog 33 #[.agg #[.int .i64 5, x1, x2, x3, x4, x5, x6, x7, x8, x9, x10, x11, x12, x13], .agg #[.bool false, .int .u64 0, .bool false, .bool false, .int .u64 0, .bool false, lv, .bool false]] w (Says w True) :=
  (validCover_any K 5 x1 x2 x3 x4 x5 x6 x7 x8 x9 x10 x11 x12 x13 ⟨false, 0, false, false, 0, false, list, false⟩ lv w (show (0 : Nat) < 18446744073709551616 by decide) (show (0 : Nat) < 18446744073709551616 by decide) hit hk).mono
    fun _ _ ⟨b, h1, h2, _⟩ => ⟨b, h1, h2, fun _ => trivial⟩

set_option maxHeartbeats 4000000 in
theorem validAttr_any (K : Bs) (u : UnitD) (av kv : Value) (a : AttrD) (da la : Option Addr) (dc lc : Nat) (w : World) (h1 : a.attr < 4294967296) (h2 : a.form < 4294967296)
    (hrd : Rd K w (.slice da a.data.length dc) a.data) (hit : ItemsAt K w (.slice la a.list.length lc) a.list) (hk : ∀ k, K k → k < w.heap.size) :
    Calls Tryz.prog 40 #[.agg (unitV u av kv), .agg (attrV a (.slice da a.data.length dc) (.slice la a.list.length lc))] w (Says w (AttrP u.version a)) := by
  obtain ⟨v, wide, address, late, root, typed, sig, typ⟩ := u
  obtain ⟨attr, form, n, data, list⟩ := a
  unfold unitV attrV
  dsimp only at *
  generalize hS : strxF form = sx
  generalize hA : addrxF form = ax
  have HS := Lib.hid hS; clear hS
  have HA := Lib.hid hA; clear hA
  obtain ⟨⟨_, da', dc', hde, hdc, hdm, _, hdcell⟩, _⟩ := hrd
  simp only [Value.slice.injEq, true_and] at hde
  obtain ⟨rfl, rfl⟩ := hde
  unfold maxLen at hdm
  have HD := Lib.hid hdcell; clear hdcell
  have hf0 : Frame no w ((w.alloc (.cells #[.int .i64 v, .bool wide, .int .i64 address, .bool late, .int .u32 (root.tag : Int), av, .bool root.opn, kv, .bool typed, .int .u64 (sig : Int), .int .i64 typ] 31)).alloc (.cells #[.int .u32 (attr : Int), .int .u32 (form : Int), .int .u64 (n : Int), .slice da data.length dc, .slice la list.length lc] 73)) := ((Frame.refl _ _).alloc _).alloc _
  go_enter Tryz.func40, Tryz.ntmps40
  by_cases hl1 : 50 < data.length
  · go_wp2_with fail
    go_ret
    exact ⟨_, rfl, hf0, fun h => by simp at h⟩
  by_cases hl2 : 8 < list.length
  · go_wp2_with fail
    go_ret
    exact ⟨_, rfl, hf0, fun h => by simp at h⟩
  have hl1' : data.length ≤ 50 := by omega
  have hl2' : list.length ≤ 8 := by omega
  clear hl1 hl2
  go_upto_block 0 with fail
  go_cut [6, 20] (fun _ _ wx => (∀ x ∈ data, x ≠ 0) ∧ wx = ((w.alloc (.cells #[.int .i64 v, .bool wide, .int .i64 address, .bool late, .int .u32 (root.tag : Int), av, .bool root.opn, kv, .bool typed, .int .u64 (sig : Int), .int .i64 typ] 31)).alloc (.cells #[.int .u32 (attr : Int), .int .u32 (form : Int), .int .u64 (n : Int), .slice da data.length dc, .slice la list.length lc] 73)))
  case first =>
    go_wp2_with fail
    go_loop [6, 20] (fun _ i => ∃ k : Nat, k ≤ data.length ∧ i = .int .i64 k ∧ ∀ j (h : j < data.length), j < k → data[j] ≠ 0) (fun _ i => data.length - (intOf i).toNat)
    case atStart => exact ⟨0, Nat.zero_le _, rfl, fun _ _ h => by omega⟩
    case round =>
    obtain ⟨k, hk', rfl, hz⟩ := hrel
    have HZ := Lib.hid hz; clear hz
    by_cases hlt : k < data.length
    · obtain ⟨b, o, rfl, hb, hc⟩ := HD.out k (by simpa using hlt)
      rw [bv_get] at hc
      have hc2 := hf0.cell hc id
      clear hc
      generalize hx : data[k] = x at *
      have HX := Lib.hid hx; clear hx
      by_cases hx0 : x = 0
      · subst hx0
        go_wp2_with fail
        go_ret
        exact ⟨_, rfl, hf0, fun h => by simp at h⟩
      · have hne : ((x : Int) == 0) = false := by simp; omega
        go_wp2_with fail
        go_round
        case rel =>
          refine ⟨k + 1, by omega, by go_num, fun j hj hjk => ?_⟩
          by_cases e : j = k
          · subst e; rw [HX.out]; exact hx0
          · exact HZ.out j hj (by omega)
        case measure => simp [intOf]; omega
    · go_wp2_with fail
      go_meet
      case rel => exact ⟨fun x hx => by obtain ⟨i, hi, rfl⟩ := List.getElem_of_mem hx; exact HZ.out i hi (by omega), rfl⟩
  case rest =>
    obtain ⟨hz, rfl⟩ := hcut
    have HZ := Lib.hid hz; clear hz
    have hk2 : ∀ (y : Int) k, K k → k < ((w.alloc (.cells #[.int .i64 v, .bool wide, .int .i64 address, .bool late, .int .u32 (root.tag : Int), av, .bool root.opn, kv, .bool typed, .int .u64 (sig : Int), .int .i64 typ] 31)).alloc (.cells #[.int .u32 (attr : Int), .int .u32 y, .int .u64 (n : Int), .slice da data.length dc, .slice la list.length lc] 73)).heap.size := fun y k hK => by have := hk k hK; simp; omega
    have hit2 : ∀ y : Int, ItemsAt K ((w.alloc (.cells #[.int .i64 v, .bool wide, .int .i64 address, .bool late, .int .u32 (root.tag : Int), av, .bool root.opn, kv, .bool typed, .int .u64 (sig : Int), .int .i64 typ] 31)).alloc (.cells #[.int .u32 (attr : Int), .int .u32 y, .int .u64 (n : Int), .slice da data.length dc, .slice la list.length lc] 73)) (.slice la list.length lc) list := fun y => hit.keep ((((Frame.refl no w).alloc _).alloc _).same fun k hK => ⟨hk k hK, id⟩)
    clear hit
    go_wp2_with (first
      | (go_at_call 39; ((with_reducible refine (isAddrx_any form _ h2).mono ?_); rintro e w' ⟨rfl, rfl⟩); rw [HA.out])
      | (go_at_call 21; ((with_reducible refine (isStrx_any form _ h2).mono ?_); rintro e w' ⟨rfl, rfl⟩); rw [HS.out]))
    all_goals first
      | (go_ret
         refine ⟨_, rfl, ?_, fun h => ?_⟩
         · with_reducible exact ((Frame.refl _ _).alloc _).alloc _
         go_light
         refine ⟨by dsimp only; omega, by dsimp only; omega, HZ.out, fun hv => ?_⟩
         dsimp only
         first
           | (simp at h; done)
           | (simp only [beq_iff_eq, beq_eq_false_iff_ne, ne_eq] at *; done)
           | (simp only [beq_iff_eq, beq_eq_false_iff_ne, ne_eq] at *; norm_cast at *; done)
           | (simp only [beq_iff_eq, beq_eq_false_iff_ne, ne_eq] at *; norm_cast at *; omega)
           | (simp only [beq_iff_eq, beq_eq_false_iff_ne, ne_eq] at *; norm_cast at *; simp at h; omega)
           | (simp at *; omega))
      | (with_reducible refine (validCover_list K _ _ _ _ _ _ _ _ _ _ _ _ _ list _ _ (hit2 _) (hk2 _)).mono ?_
         rintro e w' ⟨b, rfl, hf5, _⟩
         go_wp2_with fail
         go_ret
         refine ⟨_, rfl, (((Frame.refl no w).alloc _).alloc _).trans hf5 (fun _ h => h.elim), fun h => ?_⟩
         go_light
         refine ⟨by dsimp only; omega, by dsimp only; omega, HZ.out, fun hv => ?_⟩
         omega)

end Go.Proofs.YtklcoppfkfenfaaGreatDoor
