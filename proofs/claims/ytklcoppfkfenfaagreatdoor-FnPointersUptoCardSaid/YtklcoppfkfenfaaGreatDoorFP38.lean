/-
  The reader: a new one, which stands at the first entry. The reader: on to the next unit where one is at its end. The reader: an attribute that an entry has not. The program's valueOf: a value of the package as the statement's value.
-/
import Derived.Test.YtklcoppfkfenfaaGreatDoorFP37
import Derived.Test.YtklcoppfkfenfaaGreatDoorFP15
import Derived.Test.YtklcoppfkfenfaaGreatDoorFP32
import Derived.Laws.IdiomStrings
set_option linter.all false
set_option linter.unusedVariables false
set_option linter.unusedSimpArgs false
namespace Go.Proofs.YtklcoppfkfenfaaGreatDoor
set_option maxRecDepth 100000
open Go Go.RowKit

set_option maxHeartbeats 2000000 in
theorem seek_start (B D R : Nat) (KX : Bs) (big : Bool) (str : List Nat) (us : List UV) (w : World) (hd : DatAt w D R KX big str us) (h0 : 0 < us.length) (hn : us[0].near)
    (hb : w.heap[B]? = some (.cells #[.pointer none, .bool false, .nilIface, .string ⟨#[]⟩, .int .u32 0, .slice none 0 0, .nilIface, .pointer (some ⟨D, 0, none⟩), .nilIface, .int .i64 0, .bool false, .bool false, .int .u32 0, .pointer none] 137)) (hB : ∀ k, KX k → ¬ k = B) :
    Calls Tryz.prog 36 #[.pointer (some ⟨B, 0, none⟩), .int .u32 0] w (fun e w' => e = .returned (.tuple #[]) ∧ RdrAt w' B D R KX big 0 us[0].start (piecesB us[0].r.ps) ∧ Frame (fun k => k = B) w w') := by
  have r7 : w.cell? ⟨B, 7, none⟩ = some (.pointer (some ⟨D, 0, none⟩)) := cell_of_row _ _ _ _ _ _ hb
  have r8 : w.cell? ⟨B, 8, none⟩ = some .nilIface := cell_of_row _ _ _ _ _ _ hb
  have r11 : w.cell? ⟨B, 11, none⟩ = some (.bool false) := cell_of_row _ _ _ _ _ _ hb
  have r9 : w.cell? ⟨B, 9, none⟩ = some (.int .i64 0) := cell_of_row _ _ _ _ _ _ hb
  have hfz : ∀ i, w.frozen? ⟨B, i, none⟩ = false := fun i => by simp [World.frozen?, hb]
  have f8 := hfz 8; have f9 := hfz 9; have f11 := hfz 11
  have u17 := hd.units
  have hlen := hd.ne
  have hDB := hB D hd.hD
  have HDD := Lib.hid hd; have HB := Lib.hid hb; have HBB := Lib.hid hB; have HN := Lib.hid hn
  have hz : ((us.length : Int) == 0) = false := by rw [beq_eq_false_iff_ne]; omega
  clear hd hb hB hn hfz
  go_enter Tryz.func36, Tryz.ntmps36
  go_upto_if 19 with fail
  have hf1 : Frame (fun k => k = B) w ((w.setCell ⟨B, 8, none⟩ .nilIface).setCell ⟨B, 11, none⟩ (.bool false)) := Frame.set (Frame.set (Frame.refl (fun k => k = B) w) (.inl rfl) _) (.inl rfl) _
  have hb1 := heap_setCell_row (heap_setCell_row HB.out (i := 8) .nilIface) (i := 11) (.bool false)
  generalize (w.setCell ⟨B, 8, none⟩ .nilIface).setCell ⟨B, 11, none⟩ (.bool false) = w1 at *
  simp only [List.setIfInBounds_toArray, List.set_cons_succ, List.set_cons_zero] at hb1
  replace u17 := hf1.cell u17 hDB
  have r9' : w1.cell? ⟨B, 9, none⟩ = some (.int .i64 0) := cell_of_row _ _ _ _ _ _ hb1
  have f9' : w1.frozen? ⟨B, 9, none⟩ = false := by simp [World.frozen?, hb1]
  clear r7 r8 r9 r11 f8 f9 f11
  have HB1 := Lib.hid hb1; have HF1 := Lib.hid hf1; clear hb1 hf1
  go_upto_region 7 with fail
  have hf2 : Frame (fun k => k = B) w1 (w1.setCell ⟨B, 9, none⟩ (.int .i64 0)) := Frame.set (Frame.refl (fun k => k = B) w1) (.inl rfl) _
  have hb2 := heap_setCell_row HB1.out (i := 9) (.int .i64 0)
  generalize w1.setCell ⟨B, 9, none⟩ (.int .i64 0) = w2 at *
  simp only [List.setIfInBounds_toArray, List.set_cons_succ, List.set_cons_zero] at hb2
  clear r9' f9' u17
  have hf12 := HF1.out.trans' hf2
  have hd2 := HDD.out.keep hf12 (fun k hk => HBB.out k hk)
  have r7 : w2.cell? ⟨B, 7, none⟩ = some (.pointer (some ⟨D, 0, none⟩)) := cell_of_row _ _ _ _ _ _ hb2
  have u1 := hd2.cell 0 h0 1 _ rfl (o := 1) rfl
  have u2 := hd2.cell 0 h0 2 _ rfl (o := 2) rfl
  have u6 := hd2.cell 0 h0 6 _ rfl (o := 6) rfl
  have hdv := (hd2.each us[0] (List.getElem_mem h0)).1
  generalize hU : us[0] = U at *
  obtain ⟨da, dc, hdve⟩ := hdv.shape
  rw [hdve] at u2 hdv
  have HU := Lib.hid hU; have HDVE := Lib.hid hdve; have HDV := Lib.hid hdv; have HD2 := Lib.hid hd2; have HF2 := Lib.hid hf12; have HB2 := Lib.hid hb2
  have hord := hd2.order
  clear hU hdve hdv hd2 hf2 hf12 hb2
  refine wp_region_seq no 18 [(0, true), (1, true), (2, true), (3, true), (4, true), (5, true), (6, true), (7, true), (8, true), (9, true), (10, true), (11, true), (12, true), (13, true), (14, true), (15, false), (16, false), (17, true), (18, false)] (by kernel_rfl) (by kernel_rfl) (fun _ _ _ d _ h => by cases d <;> exact h) ?_
  simp only [pickB, List.getElem?_toArray, List.getElem?_cons_zero, List.getElem?_cons_succ, Option.getD_some, Bool.false_eq_true, ↓reduceIte, Nat.reduceLT]
  iterate 15
    refine seq_val (v := ?_) (fun w' hX => ?_) ?_
    rotate_left
    · have x0 := hX.cell r7 id; have x1 := hX.cell u1 id; have x2 := hX.cell u2 id; clear hX; go_simp; try with_reducible rfl
    try simp only [Act.put, List.setIfInBounds_toArray, List.set_cons_zero, List.set_cons_succ]
  refine seq_new (fun KK hK => ?_)
  go_wp2_with fail
  have hordd : w2.drew.cell? ⟨D, 14, none⟩ = some (.bool big) := hord
  (with_reducible refine (makeBuf_any D 138 (.pointer (some ⟨R, 0, none⟩)) _ _ da (piecesB U.r.ps).length dc big _ hordd).mono ?_)
  rintro e w3 ⟨rfl, hf3⟩
  go_wp2_with fail
  refine ⟨hf3, ?_⟩
  have HF3 := Lib.hid ((Frame.refl no w2).drew.trans hf3 fun _ h => h.elim)
  refine seq_new (fun _ _ => ?_)
  go_wp2_with fail
  refine ⟨Frame.refl _ _, ?_⟩
  iterate 1
    refine seq_val (v := ?_) (fun w' hX => ?_) ?_
    rotate_left
    · clear hX; go_simp; try with_reducible rfl
    try simp only [Act.put, List.setIfInBounds_toArray, List.set_cons_zero, List.set_cons_succ]
  refine seq_out (fun KK hK => ?_)
  have hlt : B < w2.heap.size := (Array.getElem?_eq_some_iff.1 HB2.out).1
  have hX3 := (HF3.out.block B hlt id).trans HB2.out
  have y0 := cell_of_row _ B 0 _ _ _ hX3
  have y1 := cell_of_row _ B 1 _ _ _ hX3
  have y2 := cell_of_row _ B 2 _ _ _ hX3
  have y3 := cell_of_row _ B 3 _ _ _ hX3
  have y4 := cell_of_row _ B 4 _ _ _ hX3
  have y5 := cell_of_row _ B 5 _ _ _ hX3
  have y6 := cell_of_row _ B 6 _ _ _ hX3
  simp only [List.getElem?_toArray, List.getElem?_cons_zero, List.getElem?_cons_succ] at y0 y1 y2 y3 y4 y5 y6
  have hfz : ∀ i, w3.frozen? ⟨B, i, none⟩ = false := fun i => by simp [World.frozen?, hX3]
  have z0 := hfz 0; have z1 := hfz 1; have z2 := hfz 2; have z3 := hfz 3; have z4 := hfz 4; have z5 := hfz 5; have z6 := hfz 6
  have HX3 := Lib.hid hX3
  clear hX3 hfz
  go_wp2_with fail
  refine seq_nil ?_
  have hdv3 := HDV.out.keep (HF3.out.same fun k hk => ⟨HD2.out.lt k hk, id⟩)
  obtain ⟨hb4, hf4⟩ := Buf.reset (rest := [.pointer (some ⟨D, 0, none⟩), .nilIface, .int .i64 0, .bool false, .bool false, .int .u32 0, .pointer none]) HX3.out (.pointer (some ⟨D, 0, none⟩)) big (.iface 138 (.pointer (some ⟨R, 0, none⟩))) (.string ⟨#[105, 110, 102, 111]⟩) (U.off + U.r.hd) da _ dc _ hdv3 (fun k hk => ⟨Nat.lt_of_lt_of_le (HD2.out.lt k hk) HF3.out.size, HBB.out k hk⟩) HN.out.2 (z := (U.off : Int) + (U.r.hd : Int)) (by omega)
  have HF4 := Lib.hid (HF3.out.of_no.trans' hf4)
  have u6' := hf4.cell (HF3.out.cell u6 id) (HBB.out R HDD.out.hR)
  have HB4 := Lib.hid hb4
  clear hb4 hf4 y0 y1 y2 y3 y4 y5 y6 z0 z1 z2 z3 z4 z5 z6 u1 u2 u6 r7 hord hordd
  generalize (((((((w3.setCell ⟨B, 0, none⟩ (.pointer (some ⟨D, 0, none⟩))).setCell ⟨B, 1, none⟩ (.bool big)).setCell ⟨B, 2, none⟩ (.iface 138 (.pointer (some ⟨R, 0, none⟩)))).setCell ⟨B, 3, none⟩ (.string ⟨#[105, 110, 102, 111]⟩)).setCell ⟨B, 4, none⟩ (.int .u32 ((U.off : Int) + (U.r.hd : Int)))).setCell ⟨B, 5, none⟩ (.slice da (piecesB U.r.ps).length dc)).setCell ⟨B, 6, none⟩ .nilIface) = w4 at *
  have hnv := HN.out.1
  have hold := Lib.hid (bases_old B R 0 U.r.version w4 u6' hnv)
  clear hnv u6'
  obtain ⟨r13, f13⟩ := HB4.out.restCell 6 _ rfl (o := 13) rfl
  go_wp2_with fail
  (with_reducible refine hold.out.mono ?_)
  rintro e w6 ⟨rfl, rfl⟩
  go_wp2_with fail
  obtain ⟨hb5, hf5⟩ := HB4.out.setRest 6 (.pointer none) (o := 13) rfl
  have h2 := HU.out
  subst h2
  refine bodyPost_ret (v := .tuple #[]) ?_ rfl ⟨rfl, ⟨false, false, 0, none, ?_⟩, (HF2.out.trans' HF4.out).trans' hf5⟩
  · simp [results, Tryz.results36, go_sem]
  · exact hb5

theorem reader_any (D R : Nat) (KX : Bs) (big : Bool) (str : List Nat) (us : List UV) (w : World) (hd : DatAt w D R KX big str us) (h0 : 0 < us.length) (hn : us[0].near) :
    Calls Tryz.prog 28 #[.pointer (some ⟨D, 0, none⟩)] w (fun e w' => ∃ B, e = .returned (.pointer (some ⟨B, 0, none⟩)) ∧ w.heap.size ≤ B ∧ RdrAt w' B D R KX big 0 us[0].start (piecesB us[0].r.ps) ∧ Frame no w w') := by
  have HD := Lib.hid hd; have HN := Lib.hid hn; clear hd hn
  go_enter Tryz.func28, Tryz.ntmps28
  go_wp2_with fail
  have hal : Frame no w (w.alloc (.cells #[.pointer none, .bool false, .nilIface, .string ⟨#[]⟩, .int .u32 0, .slice none 0 0, .nilIface, .pointer (some ⟨D, 0, none⟩), .nilIface, .int .i64 0, .bool false, .bool false, .int .u32 0, .pointer none] 137)) := (Frame.refl _ _).alloc _
  have hd1 := HD.out.keep hal (fun _ _ => id)
  have hk := fun k hk => Nat.ne_of_lt (HD.out.lt k hk)
  have hnn := HN.out
  (with_reducible refine (seek_start w.heap.size D R KX big str us _ hd1 h0 hnn (heap_alloc_new _ _) hk).mono ?_)
  rintro e w2 ⟨rfl, hr, hf⟩
  go_wp2_with fail
  go_ret
  exact ⟨_, rfl, Nat.le_refl _, hr, (hal.trans hf fun k hk => .inr (by rw [hk]; exact Nat.le_refl _))⟩
end Go.Proofs.YtklcoppfkfenfaaGreatDoor
namespace Go.Proofs.YtklcoppfkfenfaaGreatDoor
set_option maxRecDepth 100000
open Go Go.RowKit

theorem piecesB_ne {ps : List PieceD} (h : ps ≠ []) : piecesB ps ≠ [] := by
  cases ps with
  | nil => exact absurd rfl h
  | cons p ps =>
    have := uleb_pos p.code
    intro e
    have := congrArg List.length e
    simp only [piecesB_cons, PieceD.bytes, List.length_append, List.length_nil] at this
    omega
/-- the number of the unit in which the reader in block B is -/
def unitIx (w : World) (B : Nat) : Nat := match w.cell? ⟨B, 9, none⟩ with | some (.int _ z) => z.toNat | _ => 0
theorem RdrAt.ix {w : World} {B D R : Nat} {KX : Bs} {big : Bool} {j off : Nat} {l : List Nat} (h : RdrAt w B D R KX big j off l) : unitIx w B = j := by
  obtain ⟨lu, lc, ls, cu, hb⟩ := h.ex
  have r9 := (hb.restCell 2 _ rfl rfl).1
  simp only [Nat.reduceAdd] at r9
  unfold unitIx
  rw [r9]
  simp
/-- where the reader is behind 'maybeNextUnit' -/
structure MuSt (w : World) (B D R : Nat) (KX : Bs) (big : Bool) (str : List Nat) (us : List UV) (j off : Nat) (l : List Nat) (j' off' : Nat) (l' : List Nat) (w' : World) : Prop where
  rdr : RdrAt w' B D R KX big j' off' l'
  dat : DatAt w' D R KX big str us
  frame : Frame (fun k => k = B) w w'
  how : (j' = j ∧ off' = off ∧ l' = l) ∨ (l = [] ∧ ∃ h : j + 1 < us.length, j' = j + 1 ∧ off' = us[j + 1].start ∧ l' = piecesB us[j + 1].r.ps)

set_option maxHeartbeats 2000000 in
theorem maybe_any (B D R : Nat) (KX : Bs) (big : Bool) (str : List Nat) (us : List UV) (j off : Nat) (l : List Nat) (w : World) (hd : DatAt w D R KX big str us) (hr : RdrAt w B D R KX big j off l) (hj : j < us.length) (hn : ∀ u ∈ us, u.near ∧ u.r.ps ≠ []) :
    Calls Tryz.prog 46 #[.pointer (some ⟨B, 0, none⟩)] w (fun e w' => e = .returned (.tuple #[]) ∧ ∃ j' off' l', MuSt w B D R KX big str us j off l j' off' l' w' ∧ (l' ≠ [] ∨ j' + 1 = us.length)) := by
  have HN := Lib.hid hn; clear hn
  have hlen := hd.ne.2
  go_enter Tryz.func46, Tryz.ntmps46
  go_wp2_with fail
  go_loopw [24] (fun _ wr => ∃ j' off' l', MuSt w B D R KX big str us j off l j' off' l' wr) (fun _ wr => us.length - unitIx wr B)
  case atStart => exact ⟨j, off, l, ⟨hr, hd, Frame.refl _ _, .inl ⟨rfl, rfl, rfl⟩⟩⟩
  case round =>
  clear hd hr
  obtain ⟨j', off', l', hs⟩ := hrel
  obtain ⟨lu, lc, ls, cu, hb⟩ := hs.rdr.ex
  have hix := hs.rdr.ix
  have hB : ∀ k, KX k → ¬ k = B := fun k hk => (hb.apart k hk).2
  have r7 := (hb.restCell 0 _ rfl rfl).1
  have r9 := (hb.restCell 2 _ rfl rfl).1
  simp only [Nat.reduceAdd] at r7 r9
  have u17 := hs.dat.units
  have hjl : j' < us.length := by rcases hs.how with ⟨h, _⟩ | ⟨_, h, h2, _⟩ <;> omega
  have hwr : wrap64 ((j' : Int) + 1) = (j' : Int) + 1 := by unfold wrap64; omega
  have hwr2 : IntKind.i64.wrap ((j' : Int) + 1) = (j' : Int) + 1 := by rw [IntKind.wrap_i64]; omega
  obtain ⟨ba, bn, bcap, hbx, hbr⟩ := hb.ex
  have hbn : bn = l'.length := by obtain ⟨⟨_, _, _, he, _⟩, _⟩ := hbr; simp only [Value.slice.injEq] at he; exact he.2.1
  have r5 : wr.cell? ⟨B, 5, none⟩ = some (.slice ba bn bcap) := (buf_cells hbx).2.2.2.2.1
  have HS := Lib.hid hs; have HB := Lib.hid hB
  clear hs hb hB hbx hbr
  by_cases hl : l' = []
  · have hbn0 : bn = 0 := by rw [hbn, hl]; rfl
    subst hbn0
    have HL := Lib.hid hl; clear hl hbn
    by_cases hlt : j' + 1 < us.length
    · have hlt' : (j' : Int) + 1 < (us.length : Int) := by omega
      go_upto_region 0 with fail
      refine wp_region_seqG no 23 [(0, true), (1, true), (2, true), (3, true), (4, true), (5, true), (6, true), (7, true), (8, true), (9, true), (10, true), (11, true), (12, true), (13, true), (14, true), (15, true), (16, true), (17, true), (18, true), (19, true), (20, true), (21, true), (22, true)] (by kernel_rfl) (by kernel_rfl) (fun _ _ _ d _ h => by cases d <;> exact h) ?_
      simp only [pickB, List.getElem?_toArray, List.getElem?_cons_zero, List.getElem?_cons_succ, Option.getD_some, Bool.false_eq_true, ↓reduceIte, Nat.reduceLT]
      iterate 23
        refine seqG_val (v := ?_) rfl (fun w' hX => ?_) ?_
        rotate_left
        · have x0 := hX.cell r5 id; have x1 := hX.cell r7 id; have x2 := hX.cell r9 id; have x3 := hX.cell u17 id; clear hX; go_simp; try with_reducible rfl
        try simp only [Act.put, List.setIfInBounds_toArray, List.set_cons_zero, List.set_cons_succ]
      refine seqG_nil ?_
      go_wp2_with fail
      obtain ⟨hlt2, hn2⟩ : ∃ h : j' + 1 < us.length, us[j' + 1].near ∧ us[j' + 1].r.ps ≠ [] := ⟨hlt, HN.out _ (List.getElem_mem hlt)⟩
      have hrd := HS.out.rdr.keep (Frame.refl no wr).drew id (fun _ _ => id)
      have hdd := HS.out.dat.keep (Frame.refl no wr).drew (fun _ _ => id)
      (with_reducible refine (nextUnit_any B D R KX big str us j' off' l' wr.drew hdd hrd hlt hn2.1).mono ?_)
      rintro e w5 ⟨rfl, hr5, hf5⟩
      go_wp2_with fail
      go_roundw
      case rel =>
        have hhow : j' = j ∧ off' = off ∧ l' = l := by
          rcases HS.out.how with h | ⟨_, h, _, _, h2⟩
          · exact h
          · exact absurd (h2.symm.trans HL.out) (piecesB_ne (HN.out _ (List.getElem_mem h)).2)
        have hjj := hhow.1
        subst hjj
        exact ⟨_, _, _, ⟨hr5, hdd.keep hf5 (fun k hk => HB.out k hk), HS.out.frame.drew.trans' hf5, .inr ⟨hhow.2.2.symm.trans HL.out, hlt, rfl, rfl, rfl⟩⟩⟩
      case measure => rw [hr5.ix, hix]; omega
    · have hlt' : ¬ (j' : Int) + 1 < (us.length : Int) := by omega
      go_upto_region 0 with fail
      refine wp_region_seqG no 23 [(0, true), (1, true), (2, true), (3, true), (4, true), (5, true), (6, true), (7, true), (8, true), (9, true), (10, true), (11, true), (12, true), (13, true), (14, true), (15, true), (16, true), (17, true), (18, true), (19, true), (20, true), (21, true), (22, true)] (by kernel_rfl) (by kernel_rfl) (fun _ _ _ d _ h => by cases d <;> exact h) ?_
      simp only [pickB, List.getElem?_toArray, List.getElem?_cons_zero, List.getElem?_cons_succ, Option.getD_some, Bool.false_eq_true, ↓reduceIte, Nat.reduceLT]
      iterate 23
        refine seqG_val (v := ?_) rfl (fun w' hX => ?_) ?_
        rotate_left
        · have x0 := hX.cell r5 id; have x1 := hX.cell r7 id; have x2 := hX.cell r9 id; have x3 := hX.cell u17 id; clear hX; go_simp; try with_reducible rfl
        try simp only [Act.put, List.setIfInBounds_toArray, List.set_cons_zero, List.set_cons_succ]
      refine seqG_nil ?_
      go_wp2_with fail
      go_end0
      exact ⟨rfl, _, _, _, ⟨HS.out.rdr.keep (Frame.refl no wr).drew id (fun _ _ => id), HS.out.dat.keep (Frame.refl no wr).drew (fun _ _ => id), HS.out.frame.drew, HS.out.how⟩, .inr (by omega)⟩
  · have hbn0 : 0 < bn := by rw [hbn]; exact List.length_pos_iff.2 hl
    have hz : ¬ (bn : Int) = 0 := by omega
    have hz2 : ((bn : Int) == 0) = false := by rw [beq_eq_false_iff_ne]; omega
    clear hbn
    go_upto_region 0 with fail
    refine wp_region_seqG no 23 [(0, true), (1, true), (2, true), (3, true), (4, true), (5, true), (6, true), (7, true), (8, true), (9, true), (10, true), (11, true), (12, true), (13, true), (14, true), (15, true), (16, true), (17, true), (18, true), (19, true), (20, true), (21, true), (22, true)] (by kernel_rfl) (by kernel_rfl) (fun _ _ _ d _ h => by cases d <;> exact h) ?_
    simp only [pickB, List.getElem?_toArray, List.getElem?_cons_zero, List.getElem?_cons_succ, Option.getD_some, Bool.false_eq_true, ↓reduceIte, Nat.reduceLT]
    iterate 8
      refine seqG_val (v := ?_) rfl (fun w' hX => ?_) ?_
      rotate_left
      · have x0 := hX.cell r5 id; clear hX; go_simp; try with_reducible rfl
      try simp only [Act.put, List.setIfInBounds_toArray, List.set_cons_zero, List.set_cons_succ]
    refine seqG_skip rfl ?_
    try simp only [Act.put, List.setIfInBounds_toArray, List.set_cons_zero, List.set_cons_succ]
    refine seqG_skip rfl ?_
    try simp only [Act.put, List.setIfInBounds_toArray, List.set_cons_zero, List.set_cons_succ]
    refine seqG_skip rfl ?_
    try simp only [Act.put, List.setIfInBounds_toArray, List.set_cons_zero, List.set_cons_succ]
    refine seqG_skip rfl ?_
    try simp only [Act.put, List.setIfInBounds_toArray, List.set_cons_zero, List.set_cons_succ]
    refine seqG_skip rfl ?_
    try simp only [Act.put, List.setIfInBounds_toArray, List.set_cons_zero, List.set_cons_succ]
    refine seqG_skip rfl ?_
    try simp only [Act.put, List.setIfInBounds_toArray, List.set_cons_zero, List.set_cons_succ]
    refine seqG_skip rfl ?_
    try simp only [Act.put, List.setIfInBounds_toArray, List.set_cons_zero, List.set_cons_succ]
    refine seqG_skip rfl ?_
    try simp only [Act.put, List.setIfInBounds_toArray, List.set_cons_zero, List.set_cons_succ]
    refine seqG_skip rfl ?_
    try simp only [Act.put, List.setIfInBounds_toArray, List.set_cons_zero, List.set_cons_succ]
    refine seqG_skip rfl ?_
    try simp only [Act.put, List.setIfInBounds_toArray, List.set_cons_zero, List.set_cons_succ]
    refine seqG_skip rfl ?_
    try simp only [Act.put, List.setIfInBounds_toArray, List.set_cons_zero, List.set_cons_succ]
    refine seqG_skip rfl ?_
    try simp only [Act.put, List.setIfInBounds_toArray, List.set_cons_zero, List.set_cons_succ]
    refine seqG_skip rfl ?_
    try simp only [Act.put, List.setIfInBounds_toArray, List.set_cons_zero, List.set_cons_succ]
    refine seqG_skip rfl ?_
    try simp only [Act.put, List.setIfInBounds_toArray, List.set_cons_zero, List.set_cons_succ]
    iterate 1
      refine seqG_val (v := ?_) rfl (fun w' hX => ?_) ?_
      rotate_left
      · have x0 := hX.cell r5 id; clear hX; go_simp; try with_reducible rfl
      try simp only [Act.put, List.setIfInBounds_toArray, List.set_cons_zero, List.set_cons_succ]
    refine seqG_nil ?_
    go_wp2_with fail
    go_end0
    exact ⟨rfl, _, _, _, ⟨HS.out.rdr.keep (Frame.refl no wr).drew id (fun _ _ => id), HS.out.dat.keep (Frame.refl no wr).drew (fun _ _ => id), HS.out.frame.drew, HS.out.how⟩, .inl hl⟩
end Go.Proofs.YtklcoppfkfenfaaGreatDoor
namespace Go.Proofs.YtklcoppfkfenfaaGreatDoor
set_option maxRecDepth 100000
open Go Go.RowKit

theorem EntR.keep {K : Bs} {w w' : World} {E0 : Nat} {e : EntryD} {S : Bs} (h : EntR K w E0 e) (hf : Frame S w w') (hE : ¬ S E0) (hK : ∀ k, K k → k < w.heap.size ∧ ¬ S k) : EntR K w' E0 e := by
  obtain ⟨fv, h1, h2⟩ := h
  exact ⟨fv, (hf.block _ (Array.getElem?_eq_some_iff.1 h1).1 hE).trans h1, h2.keep (hf.same hK)⟩

theorem attrField_no (E0 at_ : Nat) (K : Bs) (e : EntryD) (w : World) (h : EntR K w E0 e) (hn : ∀ f ∈ e.fields, f.attr ≠ at_) :
    Calls Tryz.prog 57 #[.pointer (some ⟨E0, 0, none⟩), .int .u32 (at_ : Int)] w fun en w' => en = .returned (.pointer none) ∧ Frame no w w' := by
  obtain ⟨iv, hE, har⟩ := h
  obtain ⟨fa, fcap, rfl, hcap, hcm, hel⟩ := har.elem (by decide)
  have HEL := Lib.hid hel; clear hel har
  have HN := Lib.hid hn; clear hn
  unfold maxLen at hcm
  have e3 : w.cell? ⟨E0, 3, none⟩ = some (.slice fa e.fields.length fcap) := cell_of_row _ _ _ _ _ _ hE
  clear hE
  go_enter Tryz.func57, Tryz.ntmps57
  go_upto_block 0 with fail
  go_cut [12] (fun _ wx => Frame no w wx)
  case first =>
    go_wp2_with fail
    go_loopw [12] (fun i wr => ∃ k : Nat, k ≤ e.fields.length ∧ i = .int .i64 k ∧ Frame no w wr) (fun i _ => e.fields.length - (intOf i).toNat)
    case atStart => exact ⟨0, Nat.zero_le _, rfl, Frame.refl _ _⟩
    case round =>
    obtain ⟨k, hk', rfl, hf⟩ := hrel
    by_cases hlt : k < e.fields.length
    · obtain ⟨b, o, rfl, hb, hc⟩ := HEL.out k hlt
      have c0 := hf.cell (hc 0 _ rfl) id
      have c1 := hf.cell (hc 1 _ rfl) id
      have c2 := hf.cell (hc 2 _ rfl) id
      rw [Nat.add_zero] at c0
      have hko := HN.out e.fields[k] (List.getElem_mem hlt)
      clear hc
      generalize hF : e.fields[k] = F at *
      obtain ⟨it, ix, hiv⟩ := ifv_shape F.kind F.n F.data
      rw [hiv] at c1
      have hne : ((F.attr : Int) == (at_ : Int)) = false := by rw [beq_eq_false_iff_ne]; omega
      have HF := Lib.hid hf
      clear hiv hF hf hko
      go_wp2_with fail
      go_roundw
      case rel => exact ⟨k + 1, by omega, by go_num, HF.out.alloc _⟩
      case measure => simp [intOf]; omega
    · go_wp2_with fail
      go_meet
      case rel => exact hf
  case rest =>
  go_wp2_with fail
  go_ret
  exact ⟨rfl, hcut⟩

theorem val_no (E0 at_ : Nat) (K : Bs) (e : EntryD) (w : World) (h : EntR K w E0 e) (hn : ∀ f ∈ e.fields, f.attr ≠ at_) :
    Calls Tryz.prog 48 #[.pointer (some ⟨E0, 0, none⟩), .int .u32 (at_ : Int)] w fun en w' => en = .returned .nilIface ∧ Frame no w w' := by
  have HC := Lib.hid (attrField_no E0 at_ K e w h hn)
  clear h hn
  go_enter Tryz.func48, Tryz.ntmps48
  go_wp2_with fail
  (with_reducible refine HC.out.mono ?_)
  rintro en w' ⟨rfl, hf⟩
  go_wp2_with fail
  go_ret
  exact ⟨rfl, hf⟩
end Go.Proofs.YtklcoppfkfenfaaGreatDoor
namespace Go.Proofs.YtklcoppfkfenfaaGreatDoor
set_option maxRecDepth 1000000
open Go Go.RowKit

/-- a value is of one of the kinds that are read -/
def KindOk (kind : Int) (n : Nat) (d : List Nat) : Prop := (kind = 1 ∧ d = [] ∧ n < 18446744073709551616) ∨ (kind = 2 ∧ d = []) ∨ (kind = 6 ∧ n = 0 ∧ IsBytes d ∧ d.length < 1000000000000)

theorem Rd.nil (K : Bs) (w : World) : Rd K w (.slice none 0 0) [] :=
  ⟨⟨rfl, none, 0, rfl, Nat.le_refl _, Nat.zero_le _, fun _ => rfl, fun j hj => by simp [bv] at hj⟩, fun x hx => by cases hx⟩

theorem conv9 (w : World) (d : List Nat) (hd : IsBytes d) (hl : d.length < 1000000000000) : ∃ cap w', (convert 9 34 (.string (strB d))).run Tryz.prog w = .ok (.slice (some ⟨w.heap.size, 0, none⟩) d.length cap) w' ∧ Frame no w w' ∧ w'.heap.size = w.heap.size + 1 ∧ Rd (fun k => k = w.heap.size) w' (.slice (some ⟨w.heap.size, 0, none⟩) d.length cap) d := by
  have hrun := run_bytes_of_string (P := Tryz.prog) w 9 34 5 (strB d) ul9 underlying34 ul5
  have hsz := strB_size d
  rw [hsz] at hrun
  refine ⟨_, _, hrun, (Frame.refl no w).drew.alloc _, by simp, ?_⟩
  refine ⟨⟨by simp, some ⟨w.heap.size, 0, none⟩, _, rfl, grownCap_ge _ _ _ _, grownCap_le_maxLen _ _ _ _ (by unfold maxLen; omega), (by intro h; cases h), fun j hj => ⟨_, _, rfl, rfl, ?_⟩⟩, hd⟩
  have hj' : j < d.length := by simpa using hj
  have hb : d[j] < 256 := hd _ (List.getElem_mem hj')
  rw [Nat.zero_add]
  refine (World.cell?_alloc_mark w.drew _ 5 _ j).trans ?_
  have hs2 : (strB d).data.size = d.length := hsz
  have e1 : (strB d).data[j]? = some (UInt8.ofNat d[j]) := by
    show (strOfNums _).data[j]? = _
    simp [strOfNums, hj']
  simp [bytesRow, Array.getElem?_append, hs2, hj', bv, e1]
  have : (UInt8.ofNat d[j]).toNat = d[j] := by simp [UInt8.toNat_ofNat, Nat.mod_eq_of_lt hb]
  rw [(Array.getElem?_eq_some_iff.1 e1).2]
  omega

theorem assert_yes (s : TypeId) (v : Value) {u : TypeDesc} (hu : Tryz.prog.underlying s = some u) (hn : ∀ l, u ≠ .interface l) (w : World) : (Instr.typeAssert (.iface s v) 20 s true).run Tryz.prog w = .ok (.tuple #[v, .bool true]) w := by
  unfold Instr.typeAssert
  simp only [Sem.run_bind, run_underlying hu, Result.andThen]
  cases u <;> first | (exact absurd rfl (hn _)) | simp [Sem.run_pure]
theorem assert_no (s t : TypeId) (v z : Value) {u : TypeDesc} (hu : Tryz.prog.underlying s = some u) (hn : ∀ l, u ≠ .interface l) (hz : ∀ w, (zeroValue s).run Tryz.prog w = .ok z w) (ht : ¬ t = s) (w : World) : (Instr.typeAssert (.iface t v) 20 s true).run Tryz.prog w = .ok (.tuple #[z, .bool false]) w := by
  unfold Instr.typeAssert
  simp only [Sem.run_bind, run_underlying hu, Result.andThen]
  cases u <;> first | (exact absurd rfl (hn _)) | simp [Sem.run_pure, ht, hz, Sem.run_bind, Result.andThen]

theorem ul2 : Tryz.prog.underlying 2 = some (.int .i64) := by kernel_rfl
theorem ul108 : Tryz.prog.underlying 108 = some (.int .u32) := by kernel_rfl
theorem ul4 : Tryz.prog.underlying 4 = some .bool := by kernel_rfl
theorem zv2 (w : World) : (zeroValue 2).run Tryz.prog w = .ok (.int .i64 0) w := by kernel_rfl
theorem zv29 (w : World) : (zeroValue 29).run Tryz.prog w = .ok (.int .u64 0) w := by kernel_rfl
theorem zv108 (w : World) : (zeroValue 108).run Tryz.prog w = .ok (.int .u32 0) w := by kernel_rfl
theorem zv34 (w : World) : (zeroValue 34).run Tryz.prog w = .ok (.slice none 0 0) w := by kernel_rfl
theorem zv4 (w : World) : (zeroValue 4).run Tryz.prog w = .ok (.bool false) w := by kernel_rfl

set_option maxHeartbeats 4000000 in
theorem value_of (kind : Int) (n : Nat) (d : List Nat) (w : World) (hk : KindOk kind n d) :
    Calls Tryz.prog 49 #[ifv kind n d] w fun e w' => ∃ v, e = .returned (.agg #[.int .i64 kind, .int .u64 (n : Int), v]) ∧ Frame no w w' ∧ Rd (fun k => w.heap.size ≤ k ∧ k < w'.heap.size) w' v d := by
  rcases hk with ⟨rfl, rfl, hn⟩ | ⟨rfl, rfl⟩ | ⟨rfl, rfl, hd, hl⟩
  · have hw : IntKind.u64.wrap (sgn n) = (n : Int) := by
      rw [IntKind.wrap_u64]; unfold sgn; split <;> omega
    simp only [ifv, ↓reduceIte]
    generalize sgn n = z at *
    have h1 := assert_yes 2 (.int .i64 z) ul2 (fun l h => by cases h)
    go_enter Tryz.func49, Tryz.ntmps49
    go_wp2_with fail
    refine bodyPost_ret (v := .agg #[.int .i64 1, .int .u64 (n : Int), .slice none 0 0]) ?_ rfl ⟨_, rfl, (Frame.refl no w).alloc _, Rd.nil _ _⟩
    simp [results, Tryz.results49, go_sem]
  · simp only [ifv, show ¬ (2 : Int) = 1 by decide, ↓reduceIte]
    have h1 := assert_no 2 29 (.int .u64 (n : Int)) (.int .i64 0) ul2 (fun l h => by cases h) zv2 (by decide)
    have h2 := assert_yes 29 (.int .u64 (n : Int)) ul29 (fun l h => by cases h)
    go_enter Tryz.func49, Tryz.ntmps49
    go_wp2_with fail
    refine bodyPost_ret (v := .agg #[.int .i64 2, .int .u64 (n : Int), .slice none 0 0]) ?_ rfl ⟨_, rfl, (Frame.refl no w).alloc _, Rd.nil _ _⟩
    simp [results, Tryz.results49, go_sem]
  · simp only [ifv, show ¬ (6 : Int) = 1 by decide, show ¬ (6 : Int) = 2 by decide, ↓reduceIte]
    obtain ⟨cap, w9, h9, hf9, hs9, hr9⟩ := conv9 (w.alloc (.cells #[.int .i64 0, .int .u64 0, .slice none 0 0] 99)) d hd hl
    have h1 := assert_no 2 9 (.string (strB d)) (.int .i64 0) ul2 (fun l h => by cases h) zv2 (by decide)
    have h2 := assert_no 29 9 (.string (strB d)) (.int .u64 0) ul29 (fun l h => by cases h) zv29 (by decide)
    have h3 := assert_no 108 9 (.string (strB d)) (.int .u32 0) ul108 (fun l h => by cases h) zv108 (by decide)
    have h4 := assert_no 34 9 (.string (strB d)) (.slice none 0 0) underlying34 (fun l h => by cases h) zv34 (by decide)
    have h5 := assert_no 4 9 (.string (strB d)) (.bool false) ul4 (fun l h => by cases h) zv4 (by decide)
    have h6 := assert_yes 9 (.string (strB d)) ul9 (fun l h => by cases h)
    have c0 := hf9.cell (cell_newAt (w := w) (i := 0) (T := 99) (cs := #[.int .i64 0, .int .u64 0, .slice none 0 0]) rfl rfl) id
    have c1 := hf9.cell (cell_newAt (w := w) (i := 1) (T := 99) (cs := #[.int .i64 0, .int .u64 0, .slice none 0 0]) rfl rfl) id
    have c2 := hf9.cell (cell_newAt (w := w) (i := 2) (T := 99) (cs := #[.int .i64 0, .int .u64 0, .slice none 0 0]) rfl rfl) id
    have g0 := (hf9.frozen (cell_newAt (w := w) (i := 0) (T := 99) (cs := #[.int .i64 0, .int .u64 0, .slice none 0 0]) rfl rfl) id).trans (frozen_newAt rfl)
    have g1 := (hf9.frozen (cell_newAt (w := w) (i := 1) (T := 99) (cs := #[.int .i64 0, .int .u64 0, .slice none 0 0]) rfl rfl) id).trans (frozen_newAt rfl)
    have g2 := (hf9.frozen (cell_newAt (w := w) (i := 2) (T := 99) (cs := #[.int .i64 0, .int .u64 0, .slice none 0 0]) rfl rfl) id).trans (frozen_newAt rfl)
    simp only [World.size_alloc] at hr9
    have H9 := Lib.hid hf9; have HR9 := Lib.hid hr9
    have hz9 : w.heap.size + 1 < w9.heap.size := by simp only [World.size_alloc] at hs9; omega
    clear hf9 hr9 hs9
    go_enter Tryz.func49, Tryz.ntmps49
    go_wp2_with fail
    refine bodyPost_ret (v := .agg #[.int .i64 6, .int .u64 0, .slice (some ⟨w.heap.size + 1, 0, none⟩) d.length cap]) ?_ rfl ⟨_, rfl, ?_, ?_⟩
    · simp [results, Tryz.results49, go_sem, c0, c1, c2]
    · exact (((((Frame.refl no w).alloc _).trans' H9.out).set (.inr (Nat.le_refl _)) _).set (.inr (Nat.le_refl _)) _).set (.inr (Nat.le_refl _)) _
    · refine (HR9.out.keep (Frame.set3 w9 w.heap.size _ _ _ |>.same fun k hk => ⟨by rw [hk]; simpa using hz9, ?_⟩)).mono fun k hk => ?_
      · omega
      · subst hk
        exact ⟨by omega, by simpa [World.setCell] using hz9⟩
end Go.Proofs.YtklcoppfkfenfaaGreatDoor
