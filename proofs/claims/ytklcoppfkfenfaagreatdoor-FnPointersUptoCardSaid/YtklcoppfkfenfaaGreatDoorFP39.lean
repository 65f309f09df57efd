/-
  The reader: the next entry. The reader: behind the last entry.
-/
import Derived.Test.YtklcoppfkfenfaaGreatDoorFP38
import Derived.Test.YtklcoppfkfenfaaGreatDoorFP25
set_option linter.all false
set_option linter.unusedVariables false
set_option linter.unusedSimpArgs false
namespace Go.Proofs.YtklcoppfkfenfaaGreatDoor
set_option maxRecDepth 100000
open Go Go.RowKit

theorem assert_nil (s : TypeId) (z : Value) {u : TypeDesc} (hu : Tryz.prog.underlying s = some u) (hn : ∀ l, u ≠ .interface l) (hz : ∀ w, (zeroValue s).run Tryz.prog w = .ok z w) (w : World) : (Instr.typeAssert .nilIface 20 s true).run Tryz.prog w = .ok (.tuple #[z, .bool false]) w := by
  unfold Instr.typeAssert
  simp only [Sem.run_bind, run_underlying hu, Result.andThen]
  cases u <;> first | (exact absurd rfl (hn _)) | simp [Sem.run_pure, hz, Sem.run_bind, Result.andThen]
theorem pieceLen (p : PieceD) : p.bytes.length = (uleb p.code).length + p.vals.flatten.length := by simp [PieceD.bytes]
/-- what is asked of the abbreviations of units -/
structure UrGood (r : URD) : Prop where
  abs : ∀ ab ∈ r.abs, AbOk ab ∧ (∀ p ∈ ab.fields, (p.2 ≠ 27 ∧ p.2 ≠ 35 ∧ p.2 ≠ 22) ∧ p.1 ≠ 1) ∧ ab.fields.length ≤ 1000
  asize : r.asize = 4 ∨ r.asize = 8
theorem UROk.good {big : Bool} {abv str : List Nat} {off : Nat} {r : URD} (h : UROk big abv str off r) : UrGood r := ⟨h.abs, h.asize⟩

/-- an entry of a unit is read -/
theorem entry_piece (B D R : Nat) (KX : Bs) (big : Bool) (str : List Nat) (us : List UV) (j off : Nat) (p : PieceD) (l : List Nat) (rest : List Value) (cu : Value) (w : World) (hd : DatAt w D R KX big str us) (hj : j < us.length) (hg : UrGood us[j].r) (hstr : str.length < 4294967296)
    (hb : Buf w B KX (kR D R big j rest) off (p.bytes ++ l)) (hp : PieceOk (us[j].r.env big str) us[j].r.abs off p) (hc : p.code < 4294967296) :
    Calls Tryz.prog 47 #[.pointer (some ⟨B, 0, none⟩), cu, .pointer (some ⟨R, j * 9, none⟩)] w (EntPost B KX (kR D R big j rest) (off + p.bytes.length) l p.e w) := by
  have u0 := hd.cell j hj 0 _ rfl (o := j * 9) rfl
  have u3 := hd.cell j hj 3 _ rfl (o := j * 9 + 3) rfl
  have u5 := hd.cell j hj 5 _ rfl (o := j * 9 + 5) rfl
  have u6 := hd.cell j hj 6 _ rfl (o := j * 9 + 6) rfl
  have u7 := hd.cell j hj 7 _ rfl (o := j * 9 + 7) rfl
  obtain ⟨_, ⟨nT, ht⟩, hM⟩ := hd.each us[j] (List.getElem_mem hj)
  have hB : ∀ k, KX k → ¬ k = B := fun k hk => (hb.apart k hk).2
  rcases hp with rfl | ⟨ab, h1, h2, h3, h4, h5, h6, h7⟩
  · have e : endP.bytes = uleb 0 := by simp [endP, PieceD.bytes]
    have e1 : (uleb 0).length = 1 := by rw [uleb_lt 0 (by decide)]; rfl
    rw [e] at hb ⊢
    rw [e1]
    exact entry_end B R (j * 9) KX (kR D R big j rest) off l w cu (.map (some us[j].M)) us[j].off us[j].r.version u3 ⟨_, rfl⟩ u0 u6 hb
  · have hga := hg.abs ab (List.mem_of_getElem? h2)
    have hC : RdCtx w B R (j * 9) D KX (kR D R big j rest) (us[j].r.env big str) :=
      ⟨rfl, rfl, rfl, u5, hg.asize, u7, hd.str, hd.order, hb.apart, ⟨hB D hd.hD, hB R hd.hR⟩, hstr⟩
    have := entry_ab B R (j * 9) D us[j].M nT p.code KX KX KX (kR D R big j rest) (us[j].r.env big str) off p.vals l ab us[j].r.abs p.e.fields w cu us[j].off us[j].r.version u3 u0 u6 ht h1 hc h2 h7
      (fun q hq => (hga.2.1 q hq).1) (by have := hga.2.2; omega) hb.apart (hB _ hM) hC (by have := hb; rw [PieceD.bytes, List.append_assoc] at this; exact this)
    refine this.mono fun e w' h => ?_
    obtain ⟨E0, q1, q2, q3, q4, q5⟩ := h
    refine ⟨E0, q1, q2, ?_, ?_, q5⟩
    · have e : ({ off := off, tag := ab.tag, children := ab.child, fields := p.e.fields } : EntryD) = p.e := by
        rw [← h3, ← h4, ← h6]
      rw [e] at q3; exact q3
    · rw [pieceLen, ← Nat.add_assoc]; exact q4

/-- the fields of an entry that is read -/
theorem piece_attrs {E : EnvD} {abs : List AbD} {off : Nat} {p : PieceD} (hp : PieceOk E abs off p) (ha : ∀ ab ∈ abs, ∀ q ∈ ab.fields, q.1 ≠ 1) : ∀ f ∈ p.e.fields, f.attr ≠ 1 := by
  rcases hp with rfl | ⟨ab, h1, h2, h3, h4, h5, h6, h7⟩
  · intro f hf; cases hf
  · intro f hf
    obtain ⟨i, hi, rfl⟩ := List.mem_iff_getElem.1 hf
    obtain ⟨l1, l2⟩ := h7.len
    have := (h7.at i (by omega) (by omega) hi).1
    rw [this]
    exact ha ab (List.mem_of_getElem? h2) _ (List.getElem_mem _)
theorem piece_short {E : EnvD} {abs : List AbD} {off : Nat} {p : PieceD} (hp : PieceOk E abs off p) (ha : ∀ ab ∈ abs, ab.fields.length ≤ 1000) : p.e.fields.length ≤ 1000 := by
  rcases hp with rfl | ⟨ab, h1, h2, h3, h4, h5, h6, h7⟩
  · simp [endP, endE]
  · rw [h7.len.2]; exact ha ab (List.mem_of_getElem? h2)
theorem piece_tag {E : EnvD} {abs : List AbD} {off : Nat} {p : PieceD} (hp : PieceOk E abs off p) (ha : ∀ ab ∈ abs, AbOk ab) : p.e.tag < 4294967296 := by
  rcases hp with rfl | ⟨ab, h1, h2, h3, h4, h5, h6, h7⟩
  · simp [endP, endE]
  · rw [h4]; exact (ha ab (List.mem_of_getElem? h2)).1

/-- what Next leaves where there is an entry -/
def NextPost (B D R : Nat) (KX : Bs) (big : Bool) (j off : Nat) (l : List Nat) (e0 : EntryD) (w : World) (e : Ending) (w' : World) : Prop :=
  ∃ E0, e = .returned (.tuple #[.pointer (some ⟨E0, 0, none⟩), .nilIface]) ∧ w.heap.size ≤ E0 ∧ EntR (fun k => w.heap.size ≤ k ∧ k < w'.heap.size) w' E0 e0 ∧ RdrAt w' B D R KX big j off l ∧ Frame (fun k => k = B) w w'

set_option maxHeartbeats 4000000 in
theorem next_any (B D R : Nat) (KX : Bs) (big : Bool) (str : List Nat) (us : List UV) (j0 off0 : Nat) (l0 : List Nat) (w : World) (hd : DatAt w D R KX big str us) (hr : RdrAt w B D R KX big j0 off0 l0) (hj : j0 < us.length) (hn : ∀ u ∈ us, (u.near ∧ u.r.ps ≠ []) ∧ UrGood u.r) (hstr : str.length < 4294967296)
    (j off : Nat) (p : PieceD) (l : List Nat) (hw : (j = j0 ∧ off = off0 ∧ l0 = p.bytes ++ l) ∨ (l0 = [] ∧ ∃ h : j0 + 1 < us.length, j = j0 + 1 ∧ off = us[j0 + 1].start ∧ piecesB us[j0 + 1].r.ps = p.bytes ++ l))
    (hjl : j < us.length) (hp : PieceOk (us[j].r.env big str) us[j].r.abs off p) (hc : p.code < 4294967296) :
    Calls Tryz.prog 29 #[.pointer (some ⟨B, 0, none⟩)] w (NextPost B D R KX big j (off + p.bytes.length) l p.e w) := by
  have hpb : p.bytes ≠ [] := by
    have := uleb_pos p.code
    intro e
    have := congrArg List.length e
    rw [pieceLen] at this
    simp only [List.length_nil] at this
    omega
  obtain ⟨lu0, lc0, ls0, cu0, hb0⟩ := hr.ex
  have hB : ∀ k, KX k → ¬ k = B := fun k hk => (hb0.apart k hk).2
  have r8 := (hb0.restCell 1 _ rfl rfl).1
  simp only [Nat.reduceAdd] at r8
  have HB := Lib.hid hB; have HN := Lib.hid hn; have HD := Lib.hid hd; have HR := Lib.hid hr; have HW := Lib.hid hw; have HP := Lib.hid hp; have HPB := Lib.hid hpb
  have hlen := hd.ne.2
  clear hB hn hd hr hw hp hb0 hpb
  go_enter Tryz.func29, Tryz.ntmps29
  go_wp2_with fail
  (with_reducible refine (maybe_any B D R KX big str us j0 off0 l0 _ HD.out HR.out hj (fun u hu => (HN.out u hu).1)).mono ?_)
  rintro e w1 ⟨rfl, j', off', l', hs, hend⟩
  clear r8
  obtain ⟨rfl, rfl, rfl⟩ : j' = j ∧ off' = off ∧ l' = p.bytes ++ l := by
    rcases hs.how with ⟨h1, h2, h3⟩ | ⟨h1, h2, h3, h4, h5⟩
    · rcases HW.out with ⟨g1, g2, g3⟩ | ⟨g1, g2, g3, g4, g5⟩
      · exact ⟨h1.trans g1.symm, h2.trans g2.symm, h3.trans g3⟩
      · exfalso
        rw [h3, h1] at hend
        rcases hend with h | h
        · exact h g1
        · omega
    · rcases HW.out with ⟨g1, g2, g3⟩ | ⟨g1, g2, g3, g4, g5⟩
      · exfalso
        rw [h1] at g3
        exact HPB.out (List.append_eq_nil_iff.1 g3.symm).1
      · exact ⟨h3.trans g3.symm, h4.trans g4.symm, h5.trans g5⟩
  have HS := Lib.hid hs
  obtain ⟨lu, lc, ls, cu, hb⟩ := hs.rdr.ex
  have hB1 := HS.out.frame
  have r7 := (hb.restCell 0 _ rfl rfl).1
  have r9 := (hb.restCell 2 _ rfl rfl).1
  have r13 := (hb.restCell 6 _ rfl rfl).1
  simp only [Nat.reduceAdd] at r7 r9 r13
  obtain ⟨ba, bn, bcap, hbx, hbr⟩ := hb.ex
  have hbn : bn = (p.bytes ++ l).length := by obtain ⟨⟨_, _, _, he, _⟩, _⟩ := hbr; simp only [Value.slice.injEq] at he; exact he.2.1
  have r5 : w1.cell? ⟨B, 5, none⟩ = some (.slice ba bn bcap) := (buf_cells hbx).2.2.2.2.1
  have hz2 : ((bn : Int) == 0) = false := by
    have := List.length_pos_iff.2 HPB.out
    rw [beq_eq_false_iff_ne, hbn, List.length_append]; omega
  have u17 := HS.out.dat.units
  have HBF := Lib.hid hb
  clear hs hend hb hbx hbr hbn hB1
  go_upto_region 6 with fail
  refine wp_region_seq no 13 [(0, true), (1, true), (2, true), (3, true), (4, true), (5, true), (6, true), (7, true), (8, true), (9, true), (10, true), (11, true), (12, true)] (by kernel_rfl) (by kernel_rfl) (fun _ _ _ d _ h => by cases d <;> exact h) ?_
  simp only [pickB, List.getElem?_toArray, List.getElem?_cons_zero, List.getElem?_cons_succ, Option.getD_some, Bool.false_eq_true, ↓reduceIte, Nat.reduceLT]
  iterate 13
    refine seq_val (v := ?_) (fun w' hX => ?_) ?_
    rotate_left
    · have x0 := hX.cell r7 id; have x1 := hX.cell r9 id; have x2 := hX.cell u17 id; clear hX; go_simp; try with_reducible rfl
    try simp only [Act.put, List.setIfInBounds_toArray, List.set_cons_zero, List.set_cons_succ]
  refine seq_nil ?_
  go_upto_region 7 with fail
  refine wp_region_seqT no 8 [(0, true), (1, true), (2, true), (3, true), (4, true), (5, true), (6, true), (7, true), (8, false), (9, false)] (by kernel_rfl) (by kernel_rfl) (fun _ _ _ d _ h => by cases d <;> exact h) ?_
  simp only [pickB, List.getElem?_toArray, List.getElem?_cons_zero, List.getElem?_cons_succ, Option.getD_some, Bool.false_eq_true, ↓reduceIte, Nat.reduceLT]
  iterate 8
    refine seq_val (v := ?_) (fun w' hX => ?_) ?_
    rotate_left
    · have x0 := hX.cell r7 id; have x1 := hX.cell r9 id; have x2 := hX.cell r13 id; clear hX; go_simp; try with_reducible rfl
    try simp only [Act.put, List.setIfInBounds_toArray, List.set_cons_zero, List.set_cons_succ]
  refine seq_out (fun KK hK => ?_)
  go_wp2_with fail
  have hbd := HBF.out.keep (Frame.refl no w1).drew.drew id (fun k hk => ⟨(HBF.out.apart k hk).1, id⟩)
  have hdd := HS.out.dat.keep (Frame.refl no w1).drew.drew (fun _ _ => id)
  have hgood := (HN.out us[j'] (List.getElem_mem hjl)).2
  have hpp := HP.out
  (with_reducible refine (entry_piece B D R KX big str us j' off' p l _ (.pointer cu) _ hdd hjl hgood hstr hbd hpp hc).mono ?_)
  rintro e w2 ⟨E0, rfl, hE0, hER, hb2, hf2⟩
  go_wp2_with fail
  refine seq_out (fun _ _ => ?_)
  go_wp2_with fail
  refine seq_nil ?_
  go_simp
  have hE0' : w1.heap.size ≤ E0 := hE0
  have hBlt := HBF.out.lt_size
  have hEB : ¬ E0 = B := fun e => by omega
  have r6 := hb2.get.2.2.2.2.1
  have r10 := hb2.restCell 3 _ rfl (o := 10) rfl
  obtain ⟨r10, f10⟩ := r10
  obtain ⟨fv, hEb, hEa⟩ := hER
  have hER : EntR (fun k => w1.drew.drew.heap.size ≤ k ∧ k < w2.heap.size) w2 E0 p.e := ⟨fv, hEb, hEa⟩
  have e1 : w2.cell? ⟨E0, 1, none⟩ = some (.int .u32 (p.e.tag : Int)) := cell_of_row _ _ _ _ _ _ hEb
  have e2 : w2.cell? ⟨E0, 2, none⟩ = some (.bool p.e.children) := cell_of_row _ _ _ _ _ _ hEb
  have HER := Lib.hid hER; have HB2 := Lib.hid hb2; have HF2 := Lib.hid hf2
  clear hER hEb hEa hb2 hf2 r5 r7 r9 r13 u17 hE0 hbd hdd hpp hgood hz2
  go_upto_region 12 with fail
  obtain ⟨hb3, hf3⟩ := HB2.out.setRest 3 (.bool false) (o := 10) rfl
  generalize hw3 : w2.setCell ⟨B, 10, none⟩ (.bool false) = w3 at *
  clear hw3 r6 r10 f10
  replace e1 := hf3.cell e1 hEB
  replace e2 := hf3.cell e2 hEB
  obtain ⟨r11, f11⟩ := hb3.restCell 4 _ rfl (o := 11) rfl
  have HB3 := Lib.hid hb3; have HF3 := Lib.hid hf3; clear hb3 hf3
  go_upto_region 14 with fail
  obtain ⟨hb4, hf4⟩ := HB3.out.setRest 4 (.bool p.e.children) (o := 11) rfl
  generalize hw4 : w3.setCell ⟨B, 11, none⟩ (.bool p.e.children) = w4 at *
  clear hw4 r11 f11 e2
  replace e1 := hf4.cell e1 hEB
  obtain ⟨r11, _⟩ := hb4.restCell 4 _ rfl (o := 11) rfl
  have HB4 := Lib.hid hb4; have HF4 := Lib.hid hf4; clear hb4 hf4
  go_upto_if 78 with fail
  go_cut [79] (fun _ wx => ∃ (w8 : World) (ls8 : Int), w8 = wx ∧ Buf w8 B KX (kR D R big j' [.pointer (some ⟨D, 0, none⟩), .nilIface, .int .i64 (j' : Int), .bool false, .bool p.e.children, .int .u32 ls8, .pointer cu]) (off' + p.bytes.length) l ∧ Frame (fun k => k = B) w4 w8)
  case first =>
    cases hch : p.e.children with
    | true =>
      have hER4 : EntR (fun k => w1.drew.drew.heap.size ≤ k ∧ k < w2.heap.size) w4 E0 p.e :=
        (HER.out.keep HF3.out hEB (fun k hk => ⟨hk.2, fun e => by have h1 := hk.1; have h2 : k = B := e; simp only [World.size_drew] at h1; omega⟩)).keep HF4.out hEB (fun k hk => ⟨Nat.lt_of_lt_of_le hk.2 HF3.out.size, fun e => by have h1 := hk.1; have h2 : k = B := e; simp only [World.size_drew] at h1; omega⟩)
      have hattr : ∀ f ∈ p.e.fields, f.attr ≠ 1 := piece_attrs HP.out fun ab hab q hq => (((HN.out _ (List.getElem_mem hjl)).2.abs ab hab).2.1 q hq).2
      have hv : Calls Tryz.prog 48 #[.pointer (some ⟨E0, 0, none⟩), .int .u32 1] w4 fun en w' => en = .returned .nilIface ∧ Frame no w4 w' := val_no E0 1 _ p.e w4 hER4 hattr
      have HV := Lib.hid hv; clear hv
      have has := assert_nil 108 (.int .u32 0) ul108 (fun l h => by cases h) zv108
      clear hER4 hattr e1
      go_wp2_with fail
      (with_reducible refine HV.out.mono ?_)
      rintro e w5 ⟨rfl, hf5⟩
      have hb5 := HB4.out.keep hf5 id (fun k hk => ⟨(HB4.out.apart k hk).1, id⟩)
      obtain ⟨r12, f12⟩ := hb5.restCell 5 _ rfl (o := 12) rfl
      have has5 := has w5
      have HB5 := Lib.hid hb5; have HF5 := Lib.hid hf5; clear hb5 hf5 has r11
      go_wp2_with fail
      go_meet
      case rel =>
        obtain ⟨hb6, hf6⟩ := HB5.out.setRest 5 (.int .u32 0) (o := 12) rfl
        exact ⟨_, 0, rfl, hb6, (HF5.out.mono fun _ h => h.elim).trans' hf6⟩
    | false =>
      clear e1
      go_wp2_with fail
      go_meet
      case rel => exact ⟨_, ls, rfl, HB4.out, Frame.refl _ _⟩
  case rest =>
  obtain ⟨w8, ls8, rfl, hb8, hf8⟩ := hcut
  replace e1 := hf8.cell e1 hEB
  have HF8 := Lib.hid hf8
  obtain ⟨r10, f10⟩ := hb8.restCell 3 _ rfl (o := 10) rfl
  obtain ⟨r13, f13⟩ := hb8.restCell 6 _ rfl (o := 13) rfl
  have HB8 := Lib.hid hb8
  clear hb8 hf8 r11
  have hfin : ∀ w9, Frame (fun k => k = B) w8 w9 → (∃ lu9 cu9, Buf w9 B KX (kR D R big j' [.pointer (some ⟨D, 0, none⟩), .nilIface, .int .i64 (j' : Int), .bool lu9, .bool p.e.children, .int .u32 ls8, .pointer cu9]) (off' + p.bytes.length) l) →
      NextPost B D R KX big j' (off' + p.bytes.length) l p.e w (.returned (.tuple #[.pointer (some ⟨E0, 0, none⟩), .nilIface])) w9 := by
    intro w9 hf9 ⟨lu9, cu9, hb9⟩
    have hfa : Frame (fun k => k = B) w2 w9 := ((HF3.out.trans' HF4.out).trans' HF8.out).trans' hf9
    have hfw := HS.out.frame
    have hsz := hfw.size
    refine ⟨E0, rfl, by omega, ?_, ⟨lu9, p.e.children, ls8, cu9, hb9⟩, (hfw.trans' ((Frame.refl _ _).drew.drew.trans' HF2.out)).trans' hfa⟩
    have := HER.out.keep hfa hEB (fun k hk => ⟨hk.2, fun e => by have h1 := hk.1; have h2 : k = B := e; simp only [World.size_drew] at h1; omega⟩)
    obtain ⟨fv, q1, q2⟩ := this
    exact ⟨fv, q1, q2.mono fun k hk => ⟨by have h1 := hk.1; simp only [World.size_drew] at h1; omega, Nat.lt_of_lt_of_le hk.2 hfa.size⟩⟩
  have HFIN := Lib.hid hfin; clear hfin
  have hyes : ∀ w9, w9 = (w8.setCell ⟨B, 10, none⟩ (.bool true)).setCell ⟨B, 13, none⟩ (.pointer (some ⟨E0, 0, none⟩)) → NextPost B D R KX big j' (off' + p.bytes.length) l p.e w (.returned (.tuple #[.pointer (some ⟨E0, 0, none⟩), .nilIface])) w9 := by
    rintro w9 rfl
    obtain ⟨q1, q2⟩ := HB8.out.setRest 3 (.bool true) (o := 10) rfl
    obtain ⟨q3, q4⟩ := q1.setRest 6 (.pointer (some ⟨E0, 0, none⟩)) (o := 13) rfl
    exact HFIN.out _ (q2.trans' q4) ⟨true, some ⟨E0, 0, none⟩, q3⟩
  have HYES := Lib.hid hyes; clear hyes
  by_cases h17 : p.e.tag = 17
  · have t17 : ((p.e.tag : Int) == 17) = true := by rw [beq_iff_eq]; omega
    have H17 := Lib.hid h17; clear h17
    go_wp2_with fail
    go_ret2
    exact HYES.out _ rfl
  · have t17 : ((p.e.tag : Int) == 17) = false := by rw [beq_eq_false_iff_ne]; omega
    clear h17
    by_cases h60 : p.e.tag = 60
    · have t60 : ((p.e.tag : Int) == 60) = true := by rw [beq_iff_eq]; omega
      have H60 := Lib.hid h60; clear h60
      go_wp2_with fail
      go_ret2
      exact HYES.out _ rfl
    · have t60 : ((p.e.tag : Int) == 60) = false := by rw [beq_eq_false_iff_ne]; omega
      clear h60
      go_wp2_with fail
      go_ret2
      exact HFIN.out _ (Frame.refl _ _) ⟨_, _, HB8.out⟩
end Go.Proofs.YtklcoppfkfenfaaGreatDoor
namespace Go.Proofs.YtklcoppfkfenfaaGreatDoor
set_option maxRecDepth 100000
open Go Go.RowKit

set_option maxHeartbeats 4000000 in
theorem next_end (B D R : Nat) (KX : Bs) (big : Bool) (str : List Nat) (us : List UV) (j0 off0 : Nat) (w : World) (hd : DatAt w D R KX big str us) (hr : RdrAt w B D R KX big j0 off0 []) (hj : j0 + 1 = us.length) (hn : ∀ u ∈ us, (u.near ∧ u.r.ps ≠ []) ∧ UrGood u.r) :
    Calls Tryz.prog 29 #[.pointer (some ⟨B, 0, none⟩)] w fun e w' => e = .returned (.tuple #[.pointer none, .nilIface]) ∧ Frame (fun k => k = B) w w' := by
  obtain ⟨lu0, lc0, ls0, cu0, hb0⟩ := hr.ex
  have r8 := (hb0.restCell 1 _ rfl rfl).1
  simp only [Nat.reduceAdd] at r8
  have HN := Lib.hid hn; have HD := Lib.hid hd; have HR := Lib.hid hr
  clear hn hd hr hb0
  go_enter Tryz.func29, Tryz.ntmps29
  go_wp2_with fail
  (with_reducible refine (maybe_any B D R KX big str us j0 off0 [] _ HD.out HR.out (by omega) (fun u hu => (HN.out u hu).1)).mono ?_)
  rintro e w1 ⟨rfl, j', off', l', hs, hend⟩
  clear r8
  have hl : l' = [] := by
    rcases hs.how with ⟨h1, h2, h3⟩ | ⟨h1, h2, h3, h4, h5⟩
    · exact h3
    · omega
  subst hl
  have HF := Lib.hid hs.frame
  obtain ⟨lu, lc, ls, cu, hb⟩ := hs.rdr.ex
  obtain ⟨ba, bn, bcap, hbx, hbr⟩ := hb.ex
  have hbn : bn = 0 := by obtain ⟨⟨_, _, _, he, _⟩, _⟩ := hbr; simp only [Value.slice.injEq] at he; exact he.2.1
  have r5 : w1.cell? ⟨B, 5, none⟩ = some (.slice ba bn bcap) := (buf_cells hbx).2.2.2.2.1
  subst hbn
  clear hs hend hb hbx hbr
  go_wp2_with fail
  go_ret2
  exact ⟨rfl, HF.out⟩
end Go.Proofs.YtklcoppfkfenfaaGreatDoor
