/-
  Walks: whether units are right.
-/
import Derived.Test.YtklcoppfkfenfaaGreatDoorFP10
set_option linter.all false
set_option linter.unusedVariables false
set_option linter.unusedSimpArgs false
namespace Go.Proofs.YtklcoppfkfenfaaGreatDoor
set_option maxRecDepth 100000
open Go Go.RowKit

/-- a unit with the values of its root's two slices -/
abbrev UnitVv := UnitD × Value × Value
def unitC (p : UnitVv) : List Value :=
  [.int .i64 p.1.version, .bool p.1.wide, .int .i64 p.1.address, .bool p.1.late, .int .u32 (p.1.root.tag : Int), p.2.1, .bool p.1.root.opn, p.2.2, .bool p.1.typed, .int .u64 (p.1.signature : Int), .int .i64 p.1.type]
def UnitAt (d : Nat) (K : Bs) (w : World) (p : UnitVv) : Prop :=
  (-9223372036854775808 ≤ p.1.version ∧ p.1.version ≤ 9223372036854775807) ∧ (-9223372036854775808 ≤ p.1.address ∧ p.1.address ≤ 9223372036854775807) ∧ (-9223372036854775808 ≤ p.1.type ∧ p.1.type ≤ 9223372036854775807) ∧ p.1.signature < 18446744073709551616 ∧ NodeAt d K w (p.1.root, p.2.1, p.2.2)
def UnitsAt (d : Nat) (K : Bs) (w : World) (v : Value) (us : List UnitD) : Prop :=
  ∃ ps : List UnitVv, ps.map Prod.fst = us ∧ Ar K w 11 v ps unitC ∧ ∀ p ∈ ps, UnitAt d K w p
theorem UnitsAt.keep {d : Nat} {K : Bs} {w w' : World} {v : Value} {us : List UnitD} (h : UnitsAt d K w v us) (hs : Same K w w') : UnitsAt d K w' v us := by
  obtain ⟨ps, h1, h2, h3⟩ := h
  exact ⟨ps, h1, h2.keep hs, fun p hp => ⟨(h3 p hp).1, (h3 p hp).2.1, (h3 p hp).2.2.1, (h3 p hp).2.2.2.1, (h3 p hp).2.2.2.2.keep hs⟩⟩
theorem UnitsAt.elem {d : Nat} {K : Bs} {w : World} {v : Value} {us : List UnitD} (h : UnitsAt d K w v us) :
    ∃ a cap, v = .slice a us.length cap ∧ us.length ≤ cap ∧ cap ≤ maxLen ∧ ∀ k (hk : k < us.length), ∃ b o x cx y cy, a = some ⟨b, o, none⟩ ∧ K b ∧
      w.cell? ⟨b, o + k * 11, none⟩ = some (.int .i64 us[k].version) ∧ w.cell? ⟨b, o + k * 11 + 1, none⟩ = some (.bool us[k].wide) ∧ w.cell? ⟨b, o + k * 11 + 2, none⟩ = some (.int .i64 us[k].address) ∧
      w.cell? ⟨b, o + k * 11 + 3, none⟩ = some (.bool us[k].late) ∧ w.cell? ⟨b, o + k * 11 + 4, none⟩ = some (.int .u32 (us[k].root.tag : Int)) ∧
      w.cell? ⟨b, o + k * 11 + 5, none⟩ = some (.slice x us[k].root.attrs.length cx) ∧ w.cell? ⟨b, o + k * 11 + 6, none⟩ = some (.bool us[k].root.opn) ∧ w.cell? ⟨b, o + k * 11 + 7, none⟩ = some (.slice y us[k].root.kids.length cy) ∧
      w.cell? ⟨b, o + k * 11 + 8, none⟩ = some (.bool us[k].typed) ∧ w.cell? ⟨b, o + k * 11 + 9, none⟩ = some (.int .u64 (us[k].signature : Int)) ∧ w.cell? ⟨b, o + k * 11 + 10, none⟩ = some (.int .i64 us[k].type) ∧
      UnitAt d K w (us[k], .slice x us[k].root.attrs.length cx, .slice y us[k].root.kids.length cy) := by
  obtain ⟨ps, rfl, har, hok⟩ := h
  obtain ⟨a, cap, hv, h1, h2, h3⟩ := har.elem (by decide)
  refine ⟨a, cap, by rw [List.length_map]; exact hv, by rw [List.length_map]; exact h1, h2, fun k hk0 => ?_⟩
  have hk : k < ps.length := by simpa using hk0
  obtain ⟨b, o, ha, hb, hc⟩ := h3 k hk
  have hu := hok ps[k] (List.getElem_mem hk)
  have hn := hu.2.2.2.2
  cases d with
  | zero => exact hn.elim
  | succ d =>
  obtain ⟨x, cx, y, cy, e1, e2, _⟩ := hn.elem
  simp only [List.getElem_map]
  have c5 := hc 5 _ rfl
  have c7 := hc 7 _ rfl
  have hu' : UnitAt (d + 1) K w (ps[k].1, .slice x ps[k].1.root.attrs.length cx, .slice y ps[k].1.root.kids.length cy) := by rw [← e1, ← e2]; exact hu
  dsimp only at e1 e2
  rw [e1] at c5
  rw [e2] at c7
  exact ⟨b, o, x, cx, y, cy, ha, hb, hc 0 _ rfl, hc 1 _ rfl, hc 2 _ rfl, hc 3 _ rfl, hc 4 _ rfl, c5, hc 6 _ rfl, c7, hc 8 _ rfl, hc 9 _ rfl, hc 10 _ rfl, hu'⟩

def nodesU (us : List UnitD) : Nat := (us.map fun u => nodesF u.root).sum
theorem nodesU_take_succ (us : List UnitD) (k : Nat) (h : k < us.length) : nodesU (us.take (k + 1)) = nodesU (us.take k) + nodesF us[k].root := by
  unfold nodesU; rw [List.take_succ_eq_append_getElem h, List.map_append, List.sum_append]; simp
theorem nodesU_take_le (us : List UnitD) (k : Nat) : nodesU (us.take k) ≤ nodesU us := by
  conv => rhs; rw [← List.take_append_drop k us]
  unfold nodesU; rw [List.map_append, List.sum_append]; omega
def UnitP (u : UnitD) : Prop := u.typed = false ∧ 2 ≤ u.version ∧ u.version ≤ 5 ∧ (u.address = 4 ∨ u.address = 8) ∧ (u.wide = true → 3 ≤ u.version) ∧ AllN (NodeP u.version) u.root
def UnitsP (us : List UnitD) : Prop := 1 ≤ us.length ∧ us.length ≤ 4 ∧ nodesU us ≤ 40 ∧ ∀ u ∈ us, UnitP u

/-- a unit lies in block B -/
structure UnitIn (w : World) (B : Nat) (u : UnitD) (x y : Value) (wx : World) : Prop where
  frame : Frame no w wx
  unit : wx.heap[B]? = some (.cells (unitV u x y) 31)
theorem UnitIn.step {w wr w2 : World} {B : Nat} {u : UnitD} {x y : Value} (h : UnitIn w B u x y wr) (hf : Frame no wr w2) : UnitIn w B u x y w2 :=
  ⟨h.frame.trans hf (fun _ h => h.elim), (hf.block _ (block_lt h.unit) id).trans h.unit⟩
theorem UnitIn.start {w wr : World} (h : Frame no w wr) (u : UnitD) (x y : Value) : UnitIn w wr.heap.size u x y (wr.alloc (.cells (unitV u x y) 31)) :=
  ⟨h.alloc _, heap_alloc_new _ _⟩

set_option maxHeartbeats 4000000 in
theorem validUnits_any (d : Nat) (K : Bs) (v : Value) (us : List UnitD) (w : World) (h : UnitsAt d K w v us) (hk : ∀ k, K k → k < w.heap.size) (hN : nodesU us ≤ 1099511627776) :
    Calls Tryz.prog 7 #[v] w (Says w (UnitsP us)) := by
  obtain ⟨a, cap, rfl, hc1, hc2, hel⟩ := h.elem
  unfold maxLen at hc2
  have HEL := Lib.hid hel; clear hel h
  go_enter Tryz.func7, Tryz.ntmps7
  go_upto_block 0 with fail
  go_cut [3, 5, 7, 8, 9, 10, 13] (fun s3 _ _ _ _ _ _ wx => s3 = .int .i64 (nodesU us : Int) ∧ (∀ u ∈ us, UnitP u) ∧ Frame no w wx)
  case first =>
    go_wp2_with fail
    go_loopw [3, 5, 7, 8, 9, 10, 13] (fun s3 _ _ _ _ _ i wr => ∃ k : Nat, k ≤ us.length ∧ i = .int .i64 k ∧ s3 = .int .i64 (nodesU (us.take k) : Int) ∧ (∀ j (h : j < us.length), j < k → UnitP us[j]) ∧ Frame no w wr) (fun _ _ _ _ _ _ i _ => us.length - (intOf i).toNat)
    case atStart => exact ⟨0, Nat.zero_le _, rfl, rfl, fun _ _ h => by omega, Frame.refl _ _⟩
    case round =>
    obtain ⟨k, hk', rfl, rfl, hpr, hf⟩ := hrel
    have HPR := Lib.hid hpr; clear hpr
    by_cases hlt : k < us.length
    · obtain ⟨b, o, x, cx, y, cy, rfl, hb, c0, c1, c2, c3, c4, c5, c6, c7, c8, c9, c10, hU⟩ := HEL.out k hlt
      replace c0 := hf.cell c0 id
      replace c1 := hf.cell c1 id
      replace c2 := hf.cell c2 id
      replace c3 := hf.cell c3 id
      replace c4 := hf.cell c4 id
      replace c5 := hf.cell c5 id
      replace c6 := hf.cell c6 id
      replace c7 := hf.cell c7 id
      replace c8 := hf.cell c8 id
      replace c9 := hf.cell c9 id
      replace c10 := hf.cell c10 id
      have hNs := nodesU_take_succ us k hlt
      have hNl := nodesU_take_le us (k + 1)
      generalize hA : us[k] = A at *
      have HA := Lib.hid hA; clear hA
      obtain ⟨hv, had, htp, hsg, hnode⟩ := hU
      cases d with
      | zero => exact hnode.elim
      | succ d =>
      obtain ⟨_, _, _, _, he1, he2, hkc, hkm, htag, hal, _⟩ := hnode.elem
      simp only [Value.slice.injEq, true_and] at he1 he2
      obtain ⟨rfl, rfl⟩ := he1
      obtain ⟨rfl, rfl⟩ := he2
      dsimp only at hkc hkm htag hal
      obtain ⟨_, _, he, hac, hacm, hal2⟩ := hal.elem
      simp only [Value.slice.injEq, true_and] at he
      obtain ⟨rfl, rfl⟩ := he
      unfold maxLen at hkm hacm
      have HAL := Lib.hid hal2; clear hal2 hal
      have HNO := Lib.hid hnode; clear hnode
      obtain ⟨wo, rfl⟩ : ∃ wo : World, wo = wr := ⟨_, rfl⟩
      have hUI := UnitIn.start hf A (.slice x A.root.attrs.length cx) (.slice y A.root.kids.length cy)
      have hsr := hf.size
      have hkr : ∀ wx, Frame no w wx → Same K w wx := fun wx h => h.same fun k hK => ⟨hk k hK, id⟩
      have HSM := Lib.hid hkr; clear hkr
      obtain ⟨u0, u1, u2, u3, u4, u5, u6, u7, u8, u9, u10⟩ := unit_cells hUI.unit
      go_wp2_with fail
      clear u0 u1 u2 u3 u4 u5 u6 u7 u8 u9 u10 c0 c1 c2 c3 c4 c5 c6 c7 c8 c9 c10
      go_loopw [7, 21] (fun _ i wx => ∃ j : Nat, j ≤ A.root.attrs.length ∧ i = .int .i64 j ∧ UnitIn w wo.heap.size A (.slice x A.root.attrs.length cx) (.slice y A.root.kids.length cy) wx) (fun _ i _ => A.root.attrs.length - (intOf i).toNat)
      case atStart => exact ⟨0, Nat.zero_le _, rfl, hUI⟩
      case round =>
      clear hUI
      obtain ⟨j, hj', rfl, hUI⟩ := hrel
      have hf2 := hUI.frame
      by_cases hjl : j < A.root.attrs.length
      · obtain ⟨b2, o2, da, dc, la, lc, rfl, hb2, c0, c1, c2, c3, c4, ha1, ha2, ha3, hrd, hit⟩ := HAL.out j hjl
        clear hrd hit
        replace c0 := hf2.cell c0 id
        replace c1 := hf2.cell c1 id
        replace c2 := hf2.cell c2 id
        replace c3 := hf2.cell c3 id
        replace c4 := hf2.cell c4 id
        generalize A.root.attrs[j] = T at *
        generalize hS : strxF T.form = sx
        have HS := Lib.hid hS; clear hS
        by_cases hsx : 0 ≤ sx
        · go_wp2_with (go_at_call 21; (with_reducible refine (isStrx_any T.form _ ha2).mono ?_); rintro e w' ⟨rfl, rfl⟩; rw [HS.out])
          go_ret
          exact ⟨_, rfl, hf2.alloc _, fun h => by simp at h⟩
        · go_wp2_with (go_at_call 21; (with_reducible refine (isStrx_any T.form _ ha2).mono ?_); rintro e w' ⟨rfl, rfl⟩; rw [HS.out])
          go_roundw
          case rel => exact ⟨j + 1, by omega, by go_num, hUI.step ((Frame.refl _ _).alloc _)⟩
          case measure => simp [intOf]; omega
      · obtain ⟨u0, u1, u2, u3, u4, u5, u6, u7, u8, u9, u10⟩ := unit_cells hUI.unit
        have hkw : ∀ k, K k → k < wr.heap.size := fun k hK => by have := hk k hK; have := hf2.size; omega
        have hw : IntKind.i64.wrap ((nodesF A.root : Nat) : Int) = (nodesF A.root : Nat) := by rw [IntKind.wrap_i64]; omega
        have HW := Lib.hid hw; clear hw
        have hn1 : (nodesF A.root : Int) ≤ 1099511627776 := by omega
        have hn2 : (nodesU (us.take k) : Int) ≤ 1099511627776 := by omega
        go_wp2_with fail
        (with_reducible refine (within_any (d + 1) K (A.root, .slice x A.root.attrs.length cx, .slice y A.root.kids.length cy) _ (HNO.out.keep (HSM.out _ hf2)) hkw).mono ?_)
        rintro e w5 ⟨rfl, hf5⟩
        rw [HW.out]
        clear u0 u1 u2 u3 u4 u5 u6 u7 u8 u9 u10
        have hUI5 := hUI.step hf5
        obtain ⟨u0, u1, u2, u3, u4, u5, u6, u7, u8, u9, u10⟩ := unit_cells hUI5.unit
        have hk5 : ∀ k, K k → k < w5.heap.size := fun k hK => by have := hk k hK; have := hUI5.frame.size; omega
        go_wp2_with fail
        (with_reducible refine (counts_any (d + 1) K (A.root, .slice x A.root.attrs.length cx, .slice y A.root.kids.length cy) _ (HNO.out.keep (HSM.out _ hUI5.frame)) hk5).mono ?_)
        rintro e w6 ⟨rfl, hf6⟩
        generalize IntKind.i64.wrap ((countF A.root).1 : Int) = q1
        generalize IntKind.i64.wrap ((countF A.root).2.1 : Int) = q2
        generalize IntKind.i64.wrap ((countF A.root).2.2 : Int) = q3
        clear u0 u1 u2 u3 u4 u5 u6 u7 u8 u9 u10
        have hUI6 := hUI5.step hf6
        obtain ⟨u0, u1, u2, u3, u4, u5, u6, u7, u8, u9, u10⟩ := unit_cells hUI6.unit
        have hk6 : ∀ k, K k → k < w6.heap.size := fun k hK => by have := hk k hK; have := hUI6.frame.size; omega
        clear hUI hUI5 hf5 hf6 hf2
        generalize hAv : A.version = v at *
        generalize hAw : A.wide = wide at *
        generalize hAa : A.address = addr at *
        generalize hAt : A.typed = typed at *
        have HAv := Lib.hid hAv; have HAw := Lib.hid hAw; have HAa := Lib.hid hAa; have HAt := Lib.hid hAt
        clear hAv hAw hAa hAt
        go_wp2_with fail
        all_goals first
          | (go_ret
             exact ⟨_, rfl, hUI6.frame, fun h => by simp at h⟩)
          | ((with_reducible refine (validNode_any ⟨v, _, _, _, A.root, _, _, _⟩ _ _ (d + 1) K (A.root, .slice x A.root.attrs.length cx, .slice y A.root.kids.length cy) _ (HNO.out.keep (HSM.out _ hUI6.frame)) hk6).mono ?_)
             rintro e w7 ⟨bb, rfl, hf7, hP⟩
             dsimp only at hP
             have HP := Lib.hid hP; clear hP
             cases bb
             · go_wp2_with fail
               go_ret
               exact ⟨_, rfl, hUI6.frame.trans hf7 (fun _ h => h.elim), fun h => by simp at h⟩
             · go_wp2_with fail
               all_goals first
                 | (go_ret
                    exact ⟨_, rfl, hUI6.frame.trans hf7 (fun _ h => h.elim), fun h => by simp at h⟩)
                 | (go_roundw
                    case rel =>
                      refine ⟨k + 1, by omega, by go_num, ?_, fun i hi hik => ?_, hUI6.frame.trans hf7 (fun _ h => h.elim)⟩
                      · rw [hNs]; go_num
                      · by_cases e : i = k
                        · subst e; rw [HA.out]
                          have e1 := HAv.out; have e2 := HAw.out; have e3 := HAa.out; have e4 := HAt.out
                          refine ⟨?_, by omega, by omega, by omega, ?_, ?_⟩
                          · rw [e4]; exact Bool.eq_false_iff.2 (by assumption)
                          · intro hw; rw [e2] at hw; first | omega | exact absurd hw (by assumption)
                          · rw [HAv.out]; exact HP.out trivial
                        · exact HPR.out i hi (by omega)
                    case measure => simp [intOf]; omega))
    · have HT := Lib.hid (show us.take k = us from List.take_of_length_le (by omega))
      go_wp2_with fail
      go_meet
      case rel => exact ⟨by rw [HT.out], fun x hx => by obtain ⟨i, hi, rfl⟩ := List.getElem_of_mem hx; exact HPR.out i hi (by omega), hf⟩
  case rest =>
  obtain ⟨rfl, hP, hf⟩ := hcut
  have HP := Lib.hid hP; clear hP
  go_wp2_with fail
  all_goals go_ret
  all_goals
    refine ⟨_, rfl, hf, fun h => ?_⟩
    go_light
    refine ⟨?_, ?_, ?_, HP.out⟩ <;> first | (simp at h; done) | (simp at h; omega) | (simp at *; omega)

end Go.Proofs.YtklcoppfkfenfaaGreatDoor
