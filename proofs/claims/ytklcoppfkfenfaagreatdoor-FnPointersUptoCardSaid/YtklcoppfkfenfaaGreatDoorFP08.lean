/-
  Walks: whether an attribute, a node and units are right.
-/
import Derived.Test.YtklcoppfkfenfaaGreatDoorFP07
set_option linter.all false
set_option linter.unusedVariables false
set_option linter.unusedSimpArgs false
namespace Go.Proofs.YtklcoppfkfenfaaGreatDoor
set_option maxRecDepth 100000
open Go Go.RowKit

/-- what is told of an attribute that is right, in versions 2 to 4 -/
def AttrP (v : Int) (a : AttrD) : Prop :=
  a.data.length ≤ 50 ∧ a.list.length ≤ 8 ∧ (∀ x ∈ a.data, x ≠ 0) ∧
  (v < 5 → ((a.attr = 3 ∨ a.attr = 37 ∨ a.attr = 27) ∧ (a.form = 8 ∨ a.form = 14)) ∨ ((a.attr = 17 ∨ a.attr = 18) ∧ a.form = 1) ∨
    (a.attr = 28 ∧ (a.form = 11 ∨ a.form = 5 ∨ a.form = 6 ∨ a.form = 7 ∨ a.form = 13 ∨ a.form = 15)) ∨
    ((a.attr = 16 ∨ a.attr = 67) ∧ ((v < 4 ∧ (a.form = 6 ∨ a.form = 7)) ∨ (4 ≤ v ∧ (a.form = 23 ∨ a.form = 6)))))

/-- a list of addresses by value -/
structure CoverD where
  hasLow : Bool
  low : Nat
  hasHigh : Bool
  offset : Bool
  high : Nat
  hasList : Bool
  list : List ItemD
  indexed : Bool

abbrev coverV (c : CoverD) (lv : Value) : Array Value := #[.bool c.hasLow, .int .u64 (c.low : Int), .bool c.hasHigh, .bool c.offset, .int .u64 (c.high : Int), .bool c.hasList, lv, .bool c.indexed]
def ItemP (v : Int) (x : ItemD) : Prop := x.a < 2147483648 ∧ x.b < 2147483648 ∧ 0 ≤ x.kind ∧ x.kind ≤ 6 ∧ (2 ≤ x.kind → 5 ≤ v) ∧ (x.kind = 0 ∨ x.kind = 2 ∨ x.kind = 5 → x.a < x.b) ∧ (x.kind = 3 ∨ x.kind = 6 → x.b ≠ 0)
def CoverH (v : Int) (c : CoverD) : Prop := c.low < 2147483648 ∧ c.high < 2147483648 ∧ (c.offset = true → 4 ≤ v) ∧ (c.indexed = true → 5 ≤ v) ∧ c.list.length ≤ 8 ∧ (c.hasHigh = true → c.hasLow = true ∧ (c.offset = true ∨ c.low ≤ c.high))
def CoverP (v : Int) (c : CoverD) : Prop := CoverH v c ∧ ∀ x ∈ c.list, ItemP v x

set_option maxHeartbeats 2000000 in
theorem validCover_any (K : Bs) (v : Int) (x1 x2 x3 x4 x5 x6 x7 x8 x9 x10 x11 x12 x13 : Value) (c : CoverD) (lv : Value) (w : World) (h1 : c.low < 18446744073709551616) (h2 : c.high < 18446744073709551616) (hit : ItemsAt K w lv c.list) (hk : ∀ k, K k → k < w.heap.size) :
    Calls Tryz.prog 33 #[.agg #[.int .i64 v, x1, x2, x3, x4, x5, x6, x7, x8, x9, x10, x11, x12, x13], .agg (coverV c lv)] w (Says w (CoverP v c)) := by
  obtain ⟨la, lc, rfl, hlc, hlm, hli⟩ := hit.elem
  unfold maxLen at hlm
  have HLI := Lib.hid hli; clear hli hit
  unfold coverV
  obtain ⟨hasLow, low, hasHigh, offset, high, hasList, list, indexed⟩ := c
  dsimp only at *
  generalize hl : (low : Int) = li at *
  generalize hh : (high : Int) = hi at *
  have hl0 : 0 ≤ li ∧ li < 18446744073709551616 := by omega
  have hh0 : 0 ≤ hi ∧ hi < 18446744073709551616 := by omega
  have HL := Lib.hid hl; clear hl h1
  have HH := Lib.hid hh; clear hh h2
  go_enter Tryz.func33, Tryz.ntmps33
  have hf0 : Frame no w ((w.alloc (Obj.cells #[.int .i64 v, x1, x2, x3, x4, x5, x6, x7, x8, x9, x10, x11, x12, x13] 56)).alloc (Obj.cells #[.bool hasLow, .int .u64 li, .bool hasHigh, .bool offset, .int .u64 hi, .bool hasList, .slice la list.length lc, .bool indexed] 53)) := ((Frame.refl _ _).alloc _).alloc _
  go_upto_region 1 with fail
  go_cut [1, 59] (fun _ s59 wx => ∃ q : Bool, s59 = .bool q ∧ wx = (w.alloc (Obj.cells #[.int .i64 v, x1, x2, x3, x4, x5, x6, x7, x8, x9, x10, x11, x12, x13] 56)).alloc (Obj.cells #[.bool hasLow, .int .u64 li, .bool hasHigh, .bool offset, .int .u64 hi, .bool hasList, .slice la list.length lc, .bool indexed] 53) ∧ (q = false → CoverH v ⟨hasLow, low, hasHigh, offset, high, hasList, list, indexed⟩))
  case first =>
    all_goals go_wp2_with fail
    all_goals go_meet
    all_goals (case rel => go_light; refine ⟨_, rfl, by first | rfl | simp only [*], ?_⟩; intro h; have e1 := HL.out; have e2 := HH.out; unfold CoverH; first | (simp at *; done) | (simp at *; omega) | (simp at *; refine ⟨by omega, by omega, ?_, ?_, by omega, ?_⟩ <;> first | assumption | (simp_all; done) | (simp_all; omega)))
  case rest =>
  obtain ⟨q, rfl, rfl, hq⟩ := hcut
  have HQ := Lib.hid hq; clear hq
  cases q
  · have e0 : ((w.alloc (Obj.cells #[.int .i64 v, x1, x2, x3, x4, x5, x6, x7, x8, x9, x10, x11, x12, x13] 56)).alloc (Obj.cells #[.bool hasLow, .int .u64 li, .bool hasHigh, .bool offset, .int .u64 hi, .bool hasList, .slice la list.length lc, .bool indexed] 53)).cell? ⟨w.heap.size, 0, none⟩ = some (.int .i64 v) := cell_alloc (cell_new _ _ _ _) _
    go_wp2_with fail
    go_loopw [6, 63] (fun _ i wr => ∃ j : Nat, j ≤ list.length ∧ i = .int .i64 j ∧ (∀ i < j, ∀ (h : i < list.length), ItemP v list[i]) ∧ Frame no w wr ∧ wr.cell? ⟨w.heap.size, 0, none⟩ = some (.int .i64 v)) (fun _ i _ => list.length - (intOf i).toNat)
    case atStart => exact ⟨0, Nat.zero_le _, rfl, fun _ h => by omega, hf0, e0⟩
    case round =>
    obtain ⟨j, hj', rfl, hpr, hf, e1⟩ := hrel
    have HPR := Lib.hid hpr; clear hpr
    by_cases hjt : j < list.length
    · obtain ⟨ib, io, rfl, hib, i0, i1, i2, ⟨ik1, ik2⟩, ia, ibb⟩ := HLI.out j hjt
      replace i0 := hf.cell i0 id
      replace i1 := hf.cell i1 id
      replace i2 := hf.cell i2 id
      generalize hI : list[j] = I at *
      have HIe := Lib.hid hI; clear hI
      obtain ⟨ikd, iaa, ibc⟩ := I
      dsimp only at *
      generalize hia : (iaa : Int) = ai at *
      generalize hib' : (ibc : Int) = bi at *
      have ha0 : 0 ≤ ai ∧ ai < 18446744073709551616 := by omega
      have hb0 : 0 ≤ bi ∧ bi < 18446744073709551616 := by omega
      have HA := Lib.hid hia; clear hia ia
      have HB := Lib.hid hib'; clear hib' ibb
      have e2 := cell_alloc e1 (.cells #[.int .i64 ikd, .int .u64 ai, .int .u64 bi] 116)
      go_upto_region 6 with fail
      go_cut [94] (fun s94 wx => ∃ q : Bool, s94 = .bool q ∧ wx = wr.alloc (.cells #[.int .i64 ikd, .int .u64 ai, .int .u64 bi] 116) ∧ (q = false → ai < 2147483648 ∧ bi < 2147483648 ∧ 0 ≤ ikd ∧ ikd ≤ 6 ∧ (2 ≤ ikd → 5 ≤ v)))
      case first =>
        go_wp2_with fail
        all_goals go_meet
        all_goals (case rel => go_light; refine ⟨_, rfl, by first | rfl | simp only [*], ?_⟩; intro h; first | (simp at *; done) | (simp at *; omega))
      case rest =>
      obtain ⟨q, rfl, rfl, hq⟩ := hcut
      cases q
      · obtain ⟨q1, q2, q3, q4, q5⟩ := hq rfl
        clear hq
        obtain hki | hki | hki | hki | hki | hki | hki : ikd = 0 ∨ ikd = 1 ∨ ikd = 2 ∨ ikd = 3 ∨ ikd = 4 ∨ ikd = 5 ∨ ikd = 6 := by omega
        · subst hki
          by_cases hlb : ai < bi
          · go_wp2_with fail
            go_roundw
            case rel =>
              refine ⟨j + 1, by omega, by go_num, fun i hi hi' => (Nat.lt_or_ge i j).elim (fun h => HPR.out i h hi') (fun h => ?_), hf.alloc _, cell_alloc e1 _⟩
              have e : i = j := by omega
              subst e
              rw [HIe.out]
              have e3 := HA.out; have e4 := HB.out
              unfold ItemP; simp only; omega
            case measure => simp [intOf]; omega
          · have hlb' : bi ≤ ai := by omega
            go_wp2_with fail
            go_ret; exact ⟨_, rfl, hf.alloc _, fun h => by simp at h⟩
        · subst hki
          go_wp2_with fail
          · go_roundw
            case rel =>
              refine ⟨j + 1, by omega, by go_num, fun i hi hi' => (Nat.lt_or_ge i j).elim (fun h => HPR.out i h hi') (fun h => ?_), hf.alloc _, cell_alloc e1 _⟩
              have e : i = j := by omega
              subst e
              rw [HIe.out]
              have e3 := HA.out; have e4 := HB.out
              unfold ItemP; simp only; omega
            case measure => simp [intOf]; omega
        · subst hki
          by_cases hlb : ai < bi
          · go_wp2_with fail
            go_roundw
            case rel =>
              refine ⟨j + 1, by omega, by go_num, fun i hi hi' => (Nat.lt_or_ge i j).elim (fun h => HPR.out i h hi') (fun h => ?_), hf.alloc _, cell_alloc e1 _⟩
              have e : i = j := by omega
              subst e
              rw [HIe.out]
              have e3 := HA.out; have e4 := HB.out
              unfold ItemP; simp only; omega
            case measure => simp [intOf]; omega
          · have hlb' : bi ≤ ai := by omega
            go_wp2_with fail
            go_ret; exact ⟨_, rfl, hf.alloc _, fun h => by simp at h⟩
        · subst hki
          by_cases hlb : bi = 0
          · subst hlb
            go_wp2_with fail
            go_ret; exact ⟨_, rfl, hf.alloc _, fun h => by simp at h⟩
          · go_wp2_with fail
            go_roundw
            case rel =>
              refine ⟨j + 1, by omega, by go_num, fun i hi hi' => (Nat.lt_or_ge i j).elim (fun h => HPR.out i h hi') (fun h => ?_), hf.alloc _, cell_alloc e1 _⟩
              have e : i = j := by omega
              subst e
              rw [HIe.out]
              have e3 := HA.out; have e4 := HB.out
              unfold ItemP; simp only; omega
            case measure => simp [intOf]; omega
        · subst hki
          go_wp2_with fail
          · go_roundw
            case rel =>
              refine ⟨j + 1, by omega, by go_num, fun i hi hi' => (Nat.lt_or_ge i j).elim (fun h => HPR.out i h hi') (fun h => ?_), hf.alloc _, cell_alloc e1 _⟩
              have e : i = j := by omega
              subst e
              rw [HIe.out]
              have e3 := HA.out; have e4 := HB.out
              unfold ItemP; simp only; omega
            case measure => simp [intOf]; omega
        · subst hki
          by_cases hlb : ai < bi
          · go_wp2_with fail
            go_roundw
            case rel =>
              refine ⟨j + 1, by omega, by go_num, fun i hi hi' => (Nat.lt_or_ge i j).elim (fun h => HPR.out i h hi') (fun h => ?_), hf.alloc _, cell_alloc e1 _⟩
              have e : i = j := by omega
              subst e
              rw [HIe.out]
              have e3 := HA.out; have e4 := HB.out
              unfold ItemP; simp only; omega
            case measure => simp [intOf]; omega
          · have hlb' : bi ≤ ai := by omega
            go_wp2_with fail
            go_ret; exact ⟨_, rfl, hf.alloc _, fun h => by simp at h⟩
        · subst hki
          by_cases hlb : bi = 0
          · subst hlb
            go_wp2_with fail
            go_ret; exact ⟨_, rfl, hf.alloc _, fun h => by simp at h⟩
          · go_wp2_with fail
            go_roundw
            case rel =>
              refine ⟨j + 1, by omega, by go_num, fun i hi hi' => (Nat.lt_or_ge i j).elim (fun h => HPR.out i h hi') (fun h => ?_), hf.alloc _, cell_alloc e1 _⟩
              have e : i = j := by omega
              subst e
              rw [HIe.out]
              have e3 := HA.out; have e4 := HB.out
              unfold ItemP; simp only; omega
            case measure => simp [intOf]; omega
      · clear hq
        go_wp2_with fail
        go_ret
        exact ⟨_, rfl, hf.alloc _, fun h => by simp at h⟩
    · go_wp2_with fail
      go_ret
      exact ⟨_, rfl, hf, fun _ => ⟨HQ.out trivial, fun x hx => by have hx' : x ∈ list := hx; obtain ⟨i, hi, rfl⟩ := List.getElem_of_mem hx'; exact HPR.out i (by omega) hi⟩⟩
  · go_wp2_with fail
    go_ret
    exact ⟨_, rfl, hf0, fun h => by simp at h⟩

end Go.Proofs.YtklcoppfkfenfaaGreatDoor
