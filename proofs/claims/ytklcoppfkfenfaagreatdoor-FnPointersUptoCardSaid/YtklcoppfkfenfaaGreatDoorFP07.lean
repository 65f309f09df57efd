/-
  Walks: the numbers of texts, addresses and lists in tables.
-/
import Derived.Test.YtklcoppfkfenfaaGreatDoorFP06
set_option linter.all false
set_option linter.unusedVariables false
set_option linter.unusedSimpArgs false
namespace Go.Proofs.YtklcoppfkfenfaaGreatDoor
set_option maxRecDepth 100000
open Go Go.RowKit

def itemN (m : Nat) (x : ItemD) : Nat := if x.kind = 4 ∨ x.kind = 6 then m + 1 else if x.kind = 5 then m + 2 else m
def attrN (p : Nat × Nat × Nat) (a : AttrD) : Nat × Nat × Nat :=
  (if 0 ≤ strxF a.form then p.1 + 1 else p.1, a.list.foldl itemN (if 0 ≤ addrxF a.form then p.2.1 + 1 else p.2.1), if a.attr = 85 ∧ (a.form = 35 ∨ a.form = 23) then p.2.2 + 1 else p.2.2)
theorem countA_eq (al : List AttrD) : countA al = al.foldl attrN (0, 0, 0) := rfl
theorem countA_take (al : List AttrD) (k : Nat) (h : k < al.length) : countA (al.take (k + 1)) = attrN (countA (al.take k)) al[k] := by
  rw [countA_eq, countA_eq, List.take_succ_eq_append_getElem h, List.foldl_append]; rfl
theorem itemN_take (l : List ItemD) (m k : Nat) (h : k < l.length) : (l.take (k + 1)).foldl itemN m = itemN ((l.take k).foldl itemN m) l[k] := by
  rw [List.take_succ_eq_append_getElem h, List.foldl_append]; rfl
theorem countL_append (a b : List NodeD) : countL (a ++ b) = ((countL a).1 + (countL b).1, (countL a).2.1 + (countL b).2.1, (countL a).2.2 + (countL b).2.2) := by
  induction a with
  | nil => simp [countL]
  | cons x a ih => simp [countL, ih, Nat.add_assoc]
theorem countL_take (l : List NodeD) (k : Nat) (h : k < l.length) : countL (l.take (k + 1)) = ((countL (l.take k)).1 + (countF l[k]).1, (countL (l.take k)).2.1 + (countF l[k]).2.1, (countL (l.take k)).2.2 + (countF l[k]).2.2) := by
  rw [List.take_succ_eq_append_getElem h, countL_append]; simp [countL]
theorem countF_eq (nd : NodeD) : countF nd = ((countA nd.attrs).1 + (countL nd.kids).1, (countA nd.attrs).2.1 + (countL nd.kids).2.1, (countA nd.attrs).2.2 + (countL nd.kids).2.2) := by cases nd; simp [countF, NodeD.attrs, NodeD.kids]

abbrev wr64 (n : Nat) : Value := .int .i64 (IntKind.i64.wrap (n : Int))
theorem wr_inc (n m : Nat) (c : Int) (h : (m : Int) = n + c) : Value.int .i64 (wrap64 (wrap64 (n : Int) + c)) = wr64 m := by
  have e : wrap64 (wrap64 (n : Int) + c) = IntKind.i64.wrap (m : Int) := by
    rw [h, IntKind.wrap_i64]
    unfold wrap64
    omega
  unfold wr64
  rw [e]
theorem wr_add (n m k : Nat) (h : k = n + m) : Value.int .i64 (wrap64 (wrap64 (n : Int) + wrap64 (m : Int))) = wr64 k := by
  unfold wr64
  rw [wrap_add _ _ (k : Int) (by omega)]

set_option maxHeartbeats 2000000 in
theorem counts_any (d : Nat) : ∀ (K : Bs) (p : NodeV) (w : World) (_ : NodeAt d K w p) (_ : ∀ k, K k → k < w.heap.size),
    Calls Tryz.prog 23 #[.agg #[.int .u32 (p.1.tag : Int), p.2.1, .bool p.1.opn, p.2.2]] w fun e w' => e = .returned (.tuple #[wr64 (countF p.1).1, wr64 (countF p.1).2.1, wr64 (countF p.1).2.2]) ∧ Frame no w w' := by
  induction d with
  | zero => intro _ _ _ h; exact h.elim
  | succ d ih =>
  intro K p w h hk
  obtain ⟨a, cap, ka, kc, he1, he2, hkc, hkm, htag, hal, hkids⟩ := h.elem
  have hcf := countF_eq p.1
  obtain ⟨nd, av, kv⟩ := p
  dsimp only at *
  subst he1; subst he2
  obtain ⟨_, _, he, hac, hacm, hel⟩ := hal.elem
  simp only [Value.slice.injEq, true_and] at he
  obtain ⟨rfl, rfl⟩ := he
  unfold maxLen at hkm hacm
  have IH := Lib.hid ih; clear ih
  have HCF := Lib.hid hcf; clear hcf
  have HKD := Lib.hid hkids; clear hkids
  have HEL := Lib.hid hel; clear hel hal
  go_enter Tryz.func23, Tryz.ntmps23
  have g3 : (w.alloc (.cells #[.int .u32 (nd.tag : Int), .slice a nd.attrs.length cap, .bool nd.opn, .slice ka nd.kids.length kc] 28)).cell? ⟨w.heap.size, 3, none⟩ = some (.slice ka nd.kids.length kc) := cell_new _ _ _ _
  have hf0 : Frame no w (w.alloc (.cells #[.int .u32 (nd.tag : Int), .slice a nd.attrs.length cap, .bool nd.opn, .slice ka nd.kids.length kc] 28)) := (Frame.refl _ _).alloc _
  go_upto_block 0 with fail
  go_cut [5, 6, 7] (fun s5 s6 s7 wx => s5 = wr64 (countA nd.attrs).1 ∧ s6 = wr64 (countA nd.attrs).2.1 ∧ s7 = wr64 (countA nd.attrs).2.2 ∧ Frame no (w.alloc (.cells #[.int .u32 (nd.tag : Int), .slice a nd.attrs.length cap, .bool nd.opn, .slice ka nd.kids.length kc] 28)) wx)
  case first =>
    go_wp2_with fail
    go_loopw [5, 6, 7, 20] (fun s5 s6 s7 i wr => ∃ k : Nat, k ≤ nd.attrs.length ∧ i = .int .i64 k ∧ s5 = wr64 (countA (nd.attrs.take k)).1 ∧ s6 = wr64 (countA (nd.attrs.take k)).2.1 ∧ s7 = wr64 (countA (nd.attrs.take k)).2.2 ∧
      Frame no (w.alloc (.cells #[.int .u32 (nd.tag : Int), .slice a nd.attrs.length cap, .bool nd.opn, .slice ka nd.kids.length kc] 28)) wr) (fun _ _ _ i _ => nd.attrs.length - (intOf i).toNat)
    case atStart => exact ⟨0, Nat.zero_le _, rfl, rfl, rfl, rfl, Frame.refl _ _⟩
    case round =>
    obtain ⟨k, hk', rfl, rfl, rfl, rfl, hf⟩ := hrel
    by_cases hlt : k < nd.attrs.length
    · obtain ⟨b, o, da, dc, la, lc, rfl, hb, c0, c1, c2, c3, c4, ha1, ha2, ha3, hrd, hit⟩ := HEL.out k hlt
      have hf2 := hf0.trans hf (fun _ h => h.elim)
      have HCA := Lib.hid (countA_take nd.attrs k hlt)
      generalize hP : countA (nd.attrs.take k) = P at *
      have HP := Lib.hid hP; clear hP
      obtain ⟨x, y, z⟩ := P
      replace c0 := hf2.cell c0 id
      replace c1 := hf2.cell c1 id
      replace c2 := hf2.cell c2 id
      replace c3 := hf2.cell c3 id
      replace c4 := hf2.cell c4 id
      replace hit := hit.keep (hf2.same fun k hK => ⟨hk k hK, id⟩)
      clear hrd
      generalize hA : nd.attrs[k] = A at *
      clear hA
      obtain ⟨_, _, he, hlc, hlm, hli⟩ := hit.elem
      simp only [Value.slice.injEq, true_and] at he
      obtain ⟨rfl, rfl⟩ := he
      unfold maxLen at hlm
      have HLI := Lib.hid hli; clear hli hit
      dsimp only
      go_upto_if 27 with (go_at_call 21; (with_reducible refine (isStrx_any A.form _ ha2).mono ?_); rintro e w' ⟨rfl, rfl⟩)
      go_cut [5] (fun s5 wx => s5 = wr64 (if 0 ≤ strxF A.form then x + 1 else x) ∧ wx = (wr.alloc (.cells #[.int .u32 (A.attr : Int), .int .u32 (A.form : Int), .int .u64 (A.n : Int), .slice da A.data.length dc, .slice la A.list.length lc] 73)))
      case first =>
        go_wp2_with fail
        all_goals go_meet
        all_goals (case rel => refine ⟨?_, rfl⟩; go_light; first | (rw [if_pos (by omega)]; exact wr_inc _ _ _ (by omega)) | (rw [if_neg (by omega)]))
      case rest =>
      obtain ⟨rfl, rfl⟩ := hcut
      generalize hX : (if 0 ≤ strxF A.form then x + 1 else x) = x' at *
      have HX := Lib.hid hX; clear hX
      go_upto_if 33 with (go_at_call 39; (with_reducible refine (isAddrx_any A.form _ ha2).mono ?_); rintro e w' ⟨rfl, rfl⟩)
      go_cut [6] (fun s6 wx => s6 = wr64 (if 0 ≤ addrxF A.form then y + 1 else y) ∧ wx = (wr.alloc (.cells #[.int .u32 (A.attr : Int), .int .u32 (A.form : Int), .int .u64 (A.n : Int), .slice da A.data.length dc, .slice la A.list.length lc] 73)))
      case first =>
        go_wp2_with fail
        all_goals go_meet
        all_goals (case rel => refine ⟨?_, rfl⟩; go_light; first | (rw [if_pos (by omega)]; exact wr_inc _ _ _ (by omega)) | (rw [if_neg (by omega)]))
      case rest =>
      obtain ⟨rfl, rfl⟩ := hcut
      generalize hY : (if 0 ≤ addrxF A.form then y + 1 else y) = y' at *
      have HY := Lib.hid hY; clear hY
      go_upto_region 9 with fail
      go_cut [48] (fun s48 wx => s48 = .bool (decide (A.attr = 85 ∧ (A.form = 35 ∨ A.form = 23))) ∧ wx = (wr.alloc (.cells #[.int .u32 (A.attr : Int), .int .u32 (A.form : Int), .int .u64 (A.n : Int), .slice da A.data.length dc, .slice la A.list.length lc] 73)))
      case first =>
        go_wp2_with fail
        all_goals go_meet
        all_goals (case rel => refine ⟨?_, by first | rfl | simp only [*]⟩; go_light; refine congrArg Value.bool ?_; rw [Bool.eq_iff_iff]; simp at *; omega)
      case rest =>
      obtain ⟨rfl, rfl⟩ := hcut
      generalize hq : decide (A.attr = 85 ∧ (A.form = 35 ∨ A.form = 23)) = q at *
      have HQ := Lib.hid hq; clear hq
      go_upto_if 48 with fail
      go_cut [7] (fun s7 wx => s7 = wr64 (if A.attr = 85 ∧ (A.form = 35 ∨ A.form = 23) then z + 1 else z) ∧ wx = (wr.alloc (.cells #[.int .u32 (A.attr : Int), .int .u32 (A.form : Int), .int .u64 (A.n : Int), .slice da A.data.length dc, .slice la A.list.length lc] 73)))
      case first =>
        cases q
        · go_wp2_with fail
          go_meet
          case rel => exact ⟨by rw [if_neg (by simpa using HQ.out)], rfl⟩
        · go_wp2_with fail
          go_meet
          case rel => exact ⟨by rw [if_pos (by simpa using HQ.out)]; exact wr_inc _ _ _ (by omega), rfl⟩
      case rest =>
      obtain ⟨rfl, rfl⟩ := hcut
      generalize hZ : (if A.attr = 85 ∧ (A.form = 35 ∨ A.form = 23) then z + 1 else z) = z' at *
      have HZ := Lib.hid hZ; clear hZ
      have c4' : (wr.alloc (.cells #[.int .u32 (A.attr : Int), .int .u32 (A.form : Int), .int .u64 (A.n : Int), .slice da A.data.length dc, .slice la A.list.length lc] 73)).cell? ⟨wr.heap.size, 4, none⟩ = some (.slice la A.list.length lc) := cell_new _ _ _ _
      go_wp2_with fail
      go_loopw [6, 54] (fun s6 i wx => ∃ j : Nat, j ≤ A.list.length ∧ i = .int .i64 j ∧ s6 = wr64 ((A.list.take j).foldl itemN y') ∧ Frame no wr wx) (fun _ i _ => A.list.length - (intOf i).toNat)
      case atStart => exact ⟨0, Nat.zero_le _, rfl, rfl, (Frame.refl _ _).alloc _⟩
      case round =>
      obtain ⟨j, hj', rfl, rfl, hfj⟩ := hrel
      by_cases hjt : j < A.list.length
      · obtain ⟨ib, io, rfl, hib, i0, i1, i2, ⟨ik1, ik2⟩, ia, ibb⟩ := HLI.out j hjt
        replace i0 := hfj.cell i0 id
        replace i1 := hfj.cell i1 id
        replace i2 := hfj.cell i2 id
        have HIT := Lib.hid (itemN_take A.list y' j hjt)
        generalize hI : A.list[j] = I at *
        clear hI
        generalize hm : (A.list.take j).foldl itemN y' = m at *
        clear hm
        obtain ⟨ikd, iaa, ibc⟩ := I
        dsimp only at *
        by_cases k4 : ikd = 4
        · subst k4
          go_wp2_with fail
          go_roundw
          case rel => exact ⟨j + 1, by omega, by go_num, by rw [HIT.out]; rw [show itemN m ⟨4, iaa, ibc⟩ = m + 1 from rfl]; exact wr_inc _ _ _ (by omega), hfj.alloc _⟩
          case measure => simp [intOf]; omega
        by_cases k6 : ikd = 6
        · subst k6
          go_wp2_with fail
          go_roundw
          case rel => exact ⟨j + 1, by omega, by go_num, by rw [HIT.out]; rw [show itemN m ⟨6, iaa, ibc⟩ = m + 1 from rfl]; exact wr_inc _ _ _ (by omega), hfj.alloc _⟩
          case measure => simp [intOf]; omega
        by_cases k5 : ikd = 5
        · subst k5
          go_wp2_with fail
          go_roundw
          case rel => exact ⟨j + 1, by omega, by go_num, by rw [HIT.out]; rw [show itemN m ⟨5, iaa, ibc⟩ = m + 2 from rfl]; exact wr_inc _ _ _ (by omega), hfj.alloc _⟩
          case measure => simp [intOf]; omega
        have HK := Lib.hid (show itemN m ⟨ikd, iaa, ibc⟩ = m from by unfold itemN; simp [k4, k5, k6])
        go_wp2_with fail
        · rename_i h _; exact (h.elim (fun h => k4 (eq_of_beq h)) (fun h => k6 (eq_of_beq h))).elim
        · go_roundw
          case rel => exact ⟨j + 1, by omega, by go_num, by rw [HIT.out]; rw [HK.out], hfj.alloc _⟩
          case measure => simp [intOf]; omega
      · have HT := Lib.hid (show A.list.take j = A.list from List.take_of_length_le (by omega))
        go_wp2_with fail
        go_roundw
        case rel =>
          refine ⟨k + 1, by omega, by go_num, ?_, ?_, ?_, hf.trans hfj (fun _ h => h.elim)⟩
          · rw [HCA.out]; unfold attrN; rw [HX.out]
          · rw [HCA.out]; unfold attrN; rw [HY.out, HT.out]
          · rw [HCA.out]; unfold attrN; rw [HZ.out]
        case measure => simp [intOf]; omega
    · have HT := Lib.hid (show nd.attrs.take k = nd.attrs from List.take_of_length_le (by omega))
      go_wp2_with fail
      go_meet
      case rel => rw [HT.out]; exact ⟨rfl, rfl, rfl, hf⟩
  case rest =>
  obtain ⟨rfl, rfl, rfl, hcut⟩ := hcut
  have g4 := hcut.cell g3 id
  generalize hPA : countA nd.attrs = PA at *
  have HPA := Lib.hid hPA; clear hPA
  obtain ⟨x, y, z⟩ := PA
  go_wp2_with fail
  go_loopw [5, 6, 7, 78] (fun s5 s6 s7 i wr => ∃ k : Nat, k ≤ nd.kids.length ∧ i = .int .i64 k ∧ s5 = wr64 (x + (countL (nd.kids.take k)).1) ∧ s6 = wr64 (y + (countL (nd.kids.take k)).2.1) ∧ s7 = wr64 (z + (countL (nd.kids.take k)).2.2) ∧ Frame no w wr) (fun _ _ _ i _ => nd.kids.length - (intOf i).toNat)
  case atStart => exact ⟨0, Nat.zero_le _, rfl, rfl, rfl, rfl, hf0.trans hcut (fun _ h => h.elim)⟩
  case round =>
  obtain ⟨k, hk', rfl, rfl, rfl, rfl, hf⟩ := hrel
  have hs4 := hf.size
  by_cases hlt : k < nd.kids.length
  · obtain ⟨b, o, ka1, kn1, kb1, kc1, rfl, hb, g0, g1, g2, g3, hNk⟩ := HKD.out k hlt
    replace g0 := hf.cell g0 id
    replace g1 := hf.cell g1 id
    replace g2 := hf.cell g2 id
    replace g3 := hf.cell g3 id
    have HT := Lib.hid (countL_take nd.kids k hlt)
    have hNk' := hNk.keep (hf.same fun k hK => ⟨by have := hk k hK; omega, id⟩)
    clear hNk
    generalize hkd : nd.kids[k] = kd at *
    clear hkd
    generalize hcl : countL (nd.kids.take k) = C at *
    clear hcl
    obtain ⟨cx, cy, cz⟩ := C
    dsimp only
    generalize hm1 : x + cx = m1
    generalize hm2 : y + cy = m2
    generalize hm3 : z + cz = m3
    have HM1 := Lib.hid hm1; clear hm1
    have HM2 := Lib.hid hm2; clear hm2
    have HM3 := Lib.hid hm3; clear hm3
    go_wp2_with fail
    have hfa : Frame no wr (wr.alloc (.cells #[.int .u32 (kd.tag : Int), .slice ka1 kd.attrs.length kn1, .bool kd.opn, .slice kb1 kd.kids.length kc1] 28)) := (Frame.refl _ _).alloc _
    (with_reducible refine (IH.out K (kd, .slice ka1 kd.attrs.length kn1, .slice kb1 kd.kids.length kc1) _ (hNk'.keep (hfa.same fun k hK => ⟨by have := hk k hK; omega, id⟩)) (fun k hK => by have := hk k hK; simp; omega)).mono ?_)
    rintro e w5 ⟨rfl, hf5⟩
    dsimp only
    generalize hcf : countF kd = cf at *
    have HCK := Lib.hid hcf; clear hcf
    obtain ⟨fx, fy, fz⟩ := cf
    go_wp2_with fail
    go_roundw
    case rel =>
      refine ⟨k + 1, by omega, by go_num, ?_, ?_, ?_, (hf.alloc _).trans hf5 (fun _ h => h.elim)⟩
      · rw [HT.out]; exact wr_add _ _ _ (by have := HM1.out; dsimp only; omega)
      · rw [HT.out]; exact wr_add _ _ _ (by have := HM2.out; dsimp only; omega)
      · rw [HT.out]; exact wr_add _ _ _ (by have := HM3.out; dsimp only; omega)
    case measure => simp [intOf]; omega
  · have HT := Lib.hid (show nd.kids.take k = nd.kids from List.take_of_length_le (by omega))
    have HR : Hid (countF nd = (x + (countL (nd.kids.take k)).1, y + (countL (nd.kids.take k)).2.1, z + (countL (nd.kids.take k)).2.2)) := show _ = _ by rw [HT.out]; exact HCF.out
    go_wp2_with fail
    refine bodyPost_ret (v := .tuple #[wr64 (x + (countL (nd.kids.take k)).1), wr64 (y + (countL (nd.kids.take k)).2.1), wr64 (z + (countL (nd.kids.take k)).2.2)]) ?_ rfl ?_
    · simp [results, Tryz.results23, go_sem]
    · exact ⟨by rw [HR.out], hf⟩

end Go.Proofs.YtklcoppfkfenfaaGreatDoor
