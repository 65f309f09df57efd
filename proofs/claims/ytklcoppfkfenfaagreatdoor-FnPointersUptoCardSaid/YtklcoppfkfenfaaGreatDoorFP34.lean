/-
  The reader: all units are parsed.
-/
import Derived.Test.YtklcoppfkfenfaaGreatDoorFP33
set_option linter.all false
set_option linter.unusedVariables false
set_option linter.unusedSimpArgs false
namespace Go.Proofs.YtklcoppfkfenfaaGreatDoor
set_option maxRecDepth 100000
open Go Go.RowKit

theorem pu_measure (a b : Nat) (h : b < a) : a - (intOf (.int .i64 ((b : Int) + 1))).toNat < a - (intOf (.int .i64 (b : Int))).toNat := by simp [intOf]; omega
theorem pu_measure2 (n : Nat) (h : 0 < n) : 1 - (intOf (.int .u32 (n : Int))).toNat < 1 - (intOf (.int .u32 0)).toNat := by simp [intOf]; omega
def PuPost (C : Nat) (K : Bs) (big : Bool) (rs : List URD) (w : World) (e : Ending) (w' : World) : Prop :=
  ∃ (us : List UV) (R : Nat), e = .returned (.tuple #[.slice (some ⟨R, 0, none⟩) us.length us.length, .nilIface]) ∧ us.map UV.r = rs ∧ UvOffs big 0 us ∧ w'.heap[R]? = some (.cells (us.flatMap uvC).toArray 143) ∧ w.heap.size ≤ R ∧
    (∀ u ∈ us, Rd K w' u.dv (piecesB u.r.ps) ∧ (∃ n, TabAt (fun k => w.heap.size ≤ k ∧ k < w'.heap.size) w' u.M n (u.r.version : Int) u.r.abs) ∧ w.heap.size ≤ u.M ∧ u.M < w'.heap.size) ∧ Frame (fun k => k = C) w w'

set_option maxHeartbeats 8000000 in
theorem parseUnits_any (D C L : Nat) (big : Bool) (K KA : Bs) (rs : List URD) (abv str : List Nat) (aa ia : Option Addr) (an ac inn ic : Nat) (w : World)
    (h0 : w.cell? ⟨D, 0, none⟩ = some (.slice aa an ac)) (h3 : w.cell? ⟨D, 3, none⟩ = some (.slice ia inn ic)) (h12 : w.cell? ⟨D, 12, none⟩ = some (.map (some C))) (h14 : w.cell? ⟨D, 14, none⟩ = some (.bool big))
    (ha : Rd KA w (.slice aa an ac) abv) (hi : Rd K w (.slice ia inn ic) (rs.flatMap (URD.bytes big))) (hK : ∀ k, K k → k < w.heap.size ∧ k ≠ C) (hKA : ∀ k, KA k → k < w.heap.size ∧ k ≠ C) (hDC : D ≠ C)
    (hM : MapU w 29 .u64 C 0 fun _ => none) (hL : Laid w L) (hLl : L < w.heap.size ∧ L ≠ C) (h2C : C ≠ 2) (hok : URsOk big abv str 0 rs) (hal : abv.length < 4294967296) (hil : (rs.flatMap (URD.bytes big)).length < 4294967280) (hrl : rs.length ≤ 1000) (hpw : rs.Pairwise fun a b => a.aoff < b.aoff) :
    Calls Tryz.prog 69 #[.pointer (some ⟨D, 0, none⟩)] w (PuPost C K big rs w) := by
  have hinn : inn = (rs.flatMap (URD.bytes big)).length := by obtain ⟨⟨_, _, _, he, _⟩, _⟩ := hi; simp only [Value.slice.injEq] at he; exact he.2.1
  have hDl : D < w.heap.size := cell_lt h0
  have H0 := Lib.hid h0; have H12 := Lib.hid h12; have H14 := Lib.hid h14
  have h2l : 2 < w.heap.size := cell_lt hL.var
  have hCl : C < w.heap.size := hM.lt
  have HI := Lib.hid hi; have HA := Lib.hid ha; have HK := Lib.hid hK; have HKA := Lib.hid hKA; have HM := Lib.hid hM; have HL := Lib.hid hL; have HOK := Lib.hid hok; have HPW := Lib.hid hpw; have HINN := Lib.hid hinn
  clear hi ha hK hKA hM hL hok hpw hinn
  go_enter Tryz.func69, Tryz.ntmps69
  go_wp2_with fail
  (with_reducible refine (makeBuf_any D 225 (.agg #[]) _ _ ia inn ic big _ h14).mono ?_)
  rintro e w1 ⟨rfl, hf1⟩
  have hn1 := heap_alloc_new w1 (.cells #[.pointer none, .bool false, .nilIface, .string ⟨#[]⟩, .int .u32 0, .slice none 0 0, .nilIface] 135)
  go_upto_block 0 with fail
  have hb0 : Buf (w1.alloc (.cells #[.pointer (some ⟨D, 0, none⟩), .bool big, .iface 225 (.agg #[]), .string ⟨#[105, 110, 102, 111]⟩, .int .u32 0, .slice ia inn ic, .nilIface] 135)) w1.heap.size K (kI D big) 0 (rs.flatMap (URD.bytes big)) := by
    have hfa : Frame no w (w1.alloc (.cells #[.pointer (some ⟨D, 0, none⟩), .bool big, .iface 225 (.agg #[]), .string ⟨#[105, 110, 102, 111]⟩, .int .u32 0, .slice ia inn ic, .nilIface] 135)) := hf1.alloc _
    refine ⟨⟨ia, inn, ic, heap_alloc_new _ _, HI.out.keep (hfa.same fun k hk => ⟨(HK.out k hk).1, id⟩)⟩, fun k hk => ?_, by omega⟩
    have h1 := (HK.out k hk).1
    have h2 := hf1.size
    exact ⟨by simp; omega, by omega⟩
  have hf1a : Frame no w (w1.alloc (.cells #[.pointer (some ⟨D, 0, none⟩), .bool big, .iface 225 (.agg #[]), .string ⟨#[105, 110, 102, 111]⟩, .int .u32 0, .slice ia inn ic, .nilIface] 135)) := hf1.alloc _
  have hBb : w.heap.size ≤ w1.heap.size := hf1.size
  generalize hBe : w1.heap.size = Bb at *
  generalize hw2 : w1.alloc (.cells #[.pointer (some ⟨D, 0, none⟩), .bool big, .iface 225 (.agg #[]), .string ⟨#[105, 110, 102, 111]⟩, .int .u32 0, .slice ia inn ic, .nilIface] 135) = w2 at *
  have HB0 := Lib.hid hb0; have HF2 := Lib.hid hf1a
  clear hw2 hBe hn1 hf1 hb0 hf1a
  go_cut [4, 6, 7] (fun s4 _ _ wx => ∃ (w5 : World), w5 = wx ∧ s4 = .int .i64 (rs.length : Int) ∧ Frame no w wx ∧ Buf wx Bb K (kI D big) (rs.flatMap (URD.bytes big)).length [])
  case first =>
    go_wp2_with fail
    go_loopw [4, 6, 7] (fun s4 _ _ wr => ∃ (rs1 rs2 : List URD), rs = rs1 ++ rs2 ∧ s4 = .int .i64 (rs1.length : Int) ∧ Frame no w wr ∧ Buf wr Bb K (kI D big) (rs1.flatMap (URD.bytes big)).length (rs2.flatMap (URD.bytes big))) (fun s4 _ _ _ => rs.length - (intOf s4).toNat)
    case atStart => exact ⟨[], rs, rfl, rfl, HF2.out, HB0.out⟩
    case round =>
    obtain ⟨rs1, rs2, hrs, rfl, hfr, hbr⟩ := hrel
    obtain ⟨ba, bn, bcap, hbx, hbrd⟩ := hbr.ex
    have hbn : bn = (rs2.flatMap (URD.bytes big)).length := by obtain ⟨⟨_, _, _, he, _⟩, _⟩ := hbrd; simp only [Value.slice.injEq] at he; exact he.2.1
    have r5 : wr.cell? ⟨Bb, 5, none⟩ = some (.slice ba bn bcap) := (buf_cells hbx).2.2.2.2.1
    have HFR := Lib.hid hfr; have HBR := Lib.hid hbr; have HRS := Lib.hid hrs
    clear hfr hbr hbx hbrd hrs
    cases rs2 with
    | nil =>
      have hbn0 : bn = 0 := by rw [hbn]; rfl
      subst hbn0
      clear hbn
      have HE := Lib.hid (show rs1 = rs by rw [HRS.out, List.append_nil])
      go_wp2_with fail
      go_meet
      case rel =>
        have hb := HBR.out
        rw [HE.out] at hb ⊢
        exact ⟨_, rfl, rfl, HFR.out, hb⟩
    | cons r rs3 =>
      have hbpos : 0 < (r.body big).length := by simp only [URD.body, List.length_append, num_length]; omega
      have hbl : (r.bytes big).length = (lenB (r.body big).length r.wide big).length + (r.body big).length := by simp [URD.bytes]
      have hll : (r.bytes big).length + ((rs1.flatMap (URD.bytes big)).length + (rs3.flatMap (URD.bytes big)).length) = (rs.flatMap (URD.bytes big)).length := by
        rw [HRS.out]; simp only [List.flatMap_append, List.flatMap_cons, List.length_append]; omega
      have hbp : 0 < bn := by rw [hbn]; simp only [List.flatMap_cons, List.length_append]; omega
      have hlt : rs1.length < rs.length := by rw [HRS.out]; simp
      have hgt : ((bn : Int) > 0) := by omega
      generalize hBL : (r.body big).length = bl at *
      have hgt2 : ((bl : Int) > 0) := by omega
      have hw1 : wrap64 ((rs1.length : Int) + 1) = (rs1.length : Int) + 1 := by unfold wrap64; omega
      have HBL := Lib.hid hBL
      clear hbn hBL
      go_wp2_with fail
      have hb1 : Buf wr Bb K (kI D big) (rs1.flatMap (URD.bytes big)).length (lenB bl r.wide (kI D big).big ++ (r.body big ++ rs3.flatMap (URD.bytes big))) := by
        have := HBR.out
        rw [List.flatMap_cons, URD.bytes, HBL.out, List.append_assoc] at this
        exact this
      (with_reducible refine (unitLength_any Bb K (kI D big) _ bl r.wide _ wr hb1 (by omega)).mono ?_)
      rintro e w6 ⟨rfl, hb6, hf6⟩
      have HB6 := Lib.hid hb6; have HF6 := Lib.hid hf6
      clear hb1 hb6 hf6 r5
      go_wp2_with fail
      (with_reducible refine (skip_any Bb K (kI D big) _ bl (r.body big) _ w6 HB6.out HBL.out).mono ?_)
      rintro e w7 ⟨rfl, hb7, hf7⟩
      go_wp2_with fail
      go_roundw
      case rel =>
        refine ⟨rs1 ++ [r], rs3, by rw [HRS.out]; simp, by rw [hw1]; simp, ?_, ?_⟩
        · exact (HFR.out.trans HF6.out fun k hk => .inr (by rw [hk]; exact hBb)).trans hf7 fun k hk => .inr (by rw [hk]; exact hBb)
        · have e1 : ((rs1 ++ [r]).flatMap (URD.bytes big)).length = (rs1.flatMap (URD.bytes big)).length + (lenB bl r.wide big).length + bl := by
            simp only [List.flatMap_append, List.flatMap_cons, List.flatMap_nil, List.append_nil, List.length_append]
            rw [hbl]; omega
          rw [e1]
          exact hb7
      case measure =>
        rw [hw1]
        exact pu_measure _ _ hlt
  case rest =>
  obtain ⟨w5, rfl, rfl, hf5, hb5⟩ := hcut
  clear HB0 HF2
  have h05 := hf5.cell h0 id
  have h35 := hf5.cell h3 id
  have h125 := hf5.cell h12 id
  have h145 := hf5.cell h14 id
  obtain ⟨ba, bn, bcap, hbx, hbrd⟩ := hb5.ex
  have r6 : w5.cell? ⟨Bb, 6, none⟩ = some .nilIface := (buf_cells hbx).2.2.2.2.2.1
  have HB5 := Lib.hid hb5; have HF5 := Lib.hid hf5; have HBX := Lib.hid hbx
  clear hb5 hf5 hbx hbrd h0 h3 h12
  go_wp2_with fail
  (with_reducible refine (makeBuf_any D 225 (.agg #[]) _ _ ia inn ic big _ h145).mono ?_)
  rintro e w6 ⟨rfl, hf6⟩
  have hlt := HB5.out.lt_size
  have hX3 := (hf6.block Bb hlt id).trans HBX.out
  have y0 := cell_of_row _ Bb 0 _ _ _ hX3
  have y1 := cell_of_row _ Bb 1 _ _ _ hX3
  have y2 := cell_of_row _ Bb 2 _ _ _ hX3
  have y3 := cell_of_row _ Bb 3 _ _ _ hX3
  have y4 := cell_of_row _ Bb 4 _ _ _ hX3
  have y5 := cell_of_row _ Bb 5 _ _ _ hX3
  have y6 := cell_of_row _ Bb 6 _ _ _ hX3
  simp only [List.getElem?_toArray, List.getElem?_cons_zero, List.getElem?_cons_succ] at y0 y1 y2 y3 y4 y5 y6
  have hfz : ∀ i, w6.frozen? ⟨Bb, i, none⟩ = false := fun i => by simp [World.frozen?, hX3]
  have z0 := hfz 0; have z1 := hfz 1; have z2 := hfz 2; have z3 := hfz 3; have z4 := hfz 4; have z5 := hfz 5; have z6 := hfz 6
  have HX3 := Lib.hid hX3
  have h06 := hf6.cell h05 id
  have h36 := hf6.cell h35 id
  have h126 := hf6.cell h125 id
  have h146 := hf6.cell h145 id
  have HF6 := Lib.hid hf6
  clear hX3 hfz h05 h35 h125 h145 h14 r6 hf6
  go_upto_region 13 with fail
  obtain ⟨hb7, hf7⟩ := Buf.reset (rest := []) HX3.out (.pointer (some ⟨D, 0, none⟩)) big (.iface 225 (.agg #[])) (.string ⟨#[105, 110, 102, 111]⟩) 0 ia inn ic (rs.flatMap (URD.bytes big)) (HI.out.keep ((HF5.out.trans' HF6.out).same fun k hk => ⟨(HK.out k hk).1, id⟩)) (fun k hk => ⟨Nat.lt_of_lt_of_le (HB5.out.apart k hk).1 HF6.out.size, (HB5.out.apart k hk).2⟩) (by omega) (z := 0) rfl
  generalize (((((((w6.setCell ⟨Bb, 0, none⟩ (.pointer (some ⟨D, 0, none⟩))).setCell ⟨Bb, 1, none⟩ (.bool big)).setCell ⟨Bb, 2, none⟩ (.iface 225 (.agg #[]))).setCell ⟨Bb, 3, none⟩ (.string ⟨#[105, 110, 102, 111]⟩)).setCell ⟨Bb, 4, none⟩ (.int .u32 0)).setCell ⟨Bb, 5, none⟩ (.slice ia inn ic)).setCell ⟨Bb, 6, none⟩ .nilIface) = w7 at *
  clear y0 y1 y2 y3 y4 y5 y6 z0 z1 z2 z3 z4 z5 z6
  have hDB : ¬ D = Bb := fun e => by omega
  have hmk := make147 rs.length (by omega)
  have h07 := hf7.cell h06 hDB
  have h127 := hf7.cell h126 hDB
  have h147 := hf7.cell h146 hDB
  have hlt7 : Bb < w7.heap.size := hb7.lt_size
  have HB7 := Lib.hid hb7
  have HF7 := Lib.hid ((HF5.out.trans' HF6.out).trans hf7 fun k hk => .inr (by rw [hk]; exact hBb))
  clear h06 h36 h126 h146 hb7 hf7 HB5 HBX HX3 HF6 HF5
  go_upto_block 2 with fail
  have hal : Frame no w7 (w7.alloc (.cells (zerosL z9 rs.length).toArray 143)) := (Frame.refl _ _).alloc _
  have hrow := heap_alloc_new w7 (.cells (zerosL z9 rs.length).toArray 143)
  have h08 := hal.cell h07 id
  have h128 := hal.cell h127 id
  have h148 := hal.cell h147 id
  have hRw : w.heap.size ≤ w7.heap.size := HF7.out.size
  have hb8 := HB7.out.keep hal id fun k hk => ⟨(HB7.out.apart k hk).1, id⟩
  have hf8 := HF7.out.trans' hal
  generalize hR : w7.heap.size = R at *
  generalize (w7.alloc (.cells (zerosL z9 rs.length).toArray 143)) = w8 at *
  have hst : PuSt w C Bb R D K big [] rs 0 w8 :=
    ⟨hf8.of_no, hb8, by simpa using hrow, ⟨_, HM.out.keep (hf8.block C hCl id), fun _ _ => rfl⟩, fun u hu => (by cases hu), ⟨trivial, by simp⟩, ⟨hBb, hRw, by omega, hCl⟩⟩
  have HST := Lib.hid hst
  clear h07 h127 h147 hal hrow hb8 hf8 hst hR HB7 HF7 hmk
  go_cut [9, 10, 11, 12, 13, 14, 15, 16, 61] (fun _ _ _ _ _ _ _ _ _ wx => ∃ (w9 : World) (us : List UV) (off : Nat), w9 = wx ∧ us.map UV.r = rs ∧ PuSt w C Bb R D K big us [] off wx)
  case first =>
    go_wp2_with fail
    go_loopw [9, 10, 11, 12, 13, 14, 15, 16, 61] (fun _ _ _ _ _ _ _ _ i wr => ∃ (us1 : List UV) (rs2 : List URD) (off : Nat), rs = us1.map UV.r ++ rs2 ∧ i = .int .i64 (us1.length : Int) ∧ PuSt w C Bb R D K big us1 rs2 off wr) (fun _ _ _ _ _ _ _ _ i _ => rs.length - (intOf i).toNat)
    case atStart => exact ⟨[], rs, 0, rfl, rfl, HST.out⟩
    case round =>
    obtain ⟨us1, rs2, off, hrs, rfl, hpu⟩ := hrel
    clear h08 h128 h148
    have HRS := Lib.hid hrs; have HPU := Lib.hid hpu
    have hlen : rs.length = us1.length + rs2.length := by rw [HRS.out]; simp
    clear hrs hpu
    cases rs2 with
    | nil =>
      have hle : ¬ (us1.length : Int) < (rs.length : Int) := by simp only [List.length_nil] at hlen; omega
      clear hlen
      go_wp2_with fail
      go_meet
      case rel => exact ⟨_, us1, off, rfl, by rw [HRS.out]; simp, HPU.out⟩
    | cons r rs3 =>
      have hlt : us1.length < rs.length := by simp only [List.length_cons] at hlen; omega
      have hltI : (us1.length : Int) < (rs.length : Int) := by omega
      have HLEN := Lib.hid hlen; clear hlen
      have hw1 : wrap64 ((us1.length : Int) + 1) = (us1.length : Int) + 1 := by unfold wrap64; omega
      have hA : (us1.flatMap uvC).length = us1.length * 9 := flat_length uvC 9 us1 fun x _ => uvC_len x
      have HA9 := Lib.hid hA; clear hA
      have hok : UROk big abv str off r := by
        have h1 := HOK.out
        rw [HRS.out] at h1
        have h2 := h1.at
        rw [map_bytes, Nat.zero_add, ← HPU.out.offs.2] at h2
        exact h2
      have HOKR := Lib.hid hok; clear hok
      have hro : RoSt (fun k => k = Bb ∨ k = R) wr C Bb R D K big (us1.flatMap uvC) (zerosL z9 rs3.length) off (r.bytes big ++ rs3.flatMap (URD.bytes big)) z9 wr := by
        refine ⟨Frame.refl _ _, ⟨.inl rfl, .inr rfl⟩, HPU.out.buf, ?_, ?_⟩
        · have := HPU.out.row
          rw [List.length_cons, zerosL_succ] at this
          unfold Row
          rw [this, List.append_assoc]
        · obtain ⟨l1, l2, l3, l4⟩ := HPU.out.lt
          exact ⟨l3, by omega, by omega, fun k hk => ⟨by have := (HK.out k hk).1; omega, (HK.out k hk).2⟩⟩
      obtain ⟨_, _, _, c4, c6, _⟩ := hro.buf.get
      obtain ⟨x0, y0⟩ := hro.get 0 rfl (o := us1.length * 9) (by rw [HA9.out]; rfl)
      have HRO := Lib.hid hro; clear hro
      have hbpos : 0 < (r.body big).length := by simp only [URD.body, List.length_append, num_length]; omega
      have hbl : (r.bytes big).length = (lenB (r.body big).length r.wide big).length + (r.body big).length := by simp [URD.bytes]
      have hbmax : (r.body big).length < 4294967280 := by
        have h1 : (r.bytes big).length ≤ (rs.flatMap (URD.bytes big)).length := by
          rw [HRS.out]; simp only [List.flatMap_append, List.flatMap_cons, List.length_append]; omega
        omega
      have hbe : r.bytes big = lenB (r.body big).length r.wide big ++ r.body big := rfl
      generalize hBL : (r.body big).length = bl at *
      have HBL := Lib.hid hBL; have HBLE := Lib.hid hbl; have HBE := Lib.hid hbe; have HBM := Lib.hid hbmax
      have hz : ((bl : Int) == 0) = false := by rw [beq_eq_false_iff_ne]; omega
      have HBP := Lib.hid hbpos
      clear hBL hbl hbe hbmax hbpos
      go_upto_block 4 with fail
      have hro1 := HRO.out.put 0 (by simp) (.int .u32 (off : Int)) (o := us1.length * 9) (by rw [HA9.out]; rfl)
      generalize wr.setCell ⟨R, us1.length * 9, none⟩ (.int .u32 (off : Int)) = w10 at *
      simp only [List.set_cons_zero] at hro1
      have HRO1 := Lib.hid hro1
      clear hro1 x0 y0 c4 c6
      go_cut [11] (fun s11 wx => ∃ (w11 : World), w11 = wx ∧ s11 = .int .u32 (bl : Int) ∧ RoSt (fun k => k = Bb ∨ k = R) wr C Bb R D K big (us1.flatMap uvC) (zerosL z9 rs3.length) (off + (lenB bl r.wide big).length) (r.body big ++ rs3.flatMap (URD.bytes big)) [.int .u32 (off : Int), .int .u32 0, .slice none 0 0, .map none, .pointer none, .int .i64 0, .int .i64 0, .bool r.wide, .int .u8 0] wx)
      case first =>
        go_wp2_with fail
        go_loopw [11] (fun s11 wx => (s11 = .int .u32 0 ∧ RoSt (fun k => k = Bb ∨ k = R) wr C Bb R D K big (us1.flatMap uvC) (zerosL z9 rs3.length) off (r.bytes big ++ rs3.flatMap (URD.bytes big)) [.int .u32 (off : Int), .int .u32 0, .slice none 0 0, .map none, .pointer none, .int .i64 0, .int .i64 0, .bool false, .int .u8 0] wx) ∨
          (s11 = .int .u32 (bl : Int) ∧ RoSt (fun k => k = Bb ∨ k = R) wr C Bb R D K big (us1.flatMap uvC) (zerosL z9 rs3.length) (off + (lenB bl r.wide big).length) (r.body big ++ rs3.flatMap (URD.bytes big)) [.int .u32 (off : Int), .int .u32 0, .slice none 0 0, .map none, .pointer none, .int .i64 0, .int .i64 0, .bool r.wide, .int .u8 0] wx)) (fun s11 _ => 1 - (intOf s11).toNat)
        case atStart => exact .inl ⟨rfl, HRO1.out⟩
        case round =>
        rcases hrel with ⟨rfl, hro⟩ | ⟨rfl, hro⟩
        · have hb1 := hro.buf
          rw [HBE.out, List.append_assoc] at hb1
          have hbm := HBM.out
          have HUL := Lib.hid (unitLength_any Bb K (kI D big) off bl r.wide _ _ hb1 hbm)
          have HROa := Lib.hid hro
          clear hb1 hro hbm
          go_wp2_with fail
          (with_reducible refine HUL.out.mono ?_)
          rintro e w12 ⟨rfl, hb2, hf2⟩
          have hro2 := HROa.out.read hb2 hf2
          obtain ⟨x7, y7⟩ := hro2.get 7 rfl (o := us1.length * 9 + 7) (by rw [HA9.out])
          have HRO2 := Lib.hid hro2
          clear hb2 hf2 hro2
          go_wp2_with fail
          go_roundw
          case rel => exact .inr ⟨rfl, HRO2.out.put 7 (by simp) (.bool r.wide) (o := us1.length * 9 + 7) (by rw [HA9.out])⟩
          case measure => exact pu_measure2 _ HBP.out
        · have HROa := Lib.hid hro; clear hro
          go_wp2_with fail
          go_meet
          case rel => exact ⟨_, rfl, rfl, HROa.out⟩
      case rest =>
      obtain ⟨w11, rfl, rfl, hro⟩ := hcut
      clear HRO1
      have hbody : r.body big = num r.version 2 big ++ (num r.aoff (wordF r.wide) big ++ (r.asize :: piecesB r.ps)) := rfl
      have hv := HOKR.out.version
      have has := HOKR.out.asize
      obtain ⟨_, _, _, c4, c6, _⟩ := hro.buf.get
      obtain ⟨x6, y6⟩ := hro.get 6 rfl (o := us1.length * 9 + 6) (by rw [HA9.out])
      have hb1 := hro.buf
      rw [hbody, List.append_assoc] at hb1
      have HBODY := Lib.hid hbody
      have HU := Lib.hid (uint16_any Bb K (kI D big) _ r.version _ _ hb1 (by omega))
      have HROa := Lib.hid hro
      clear hb1 hro hbody
      generalize hO1 : off + (lenB bl r.wide big).length = o1 at *
      have hv1 : decide ((r.version : Int) < 2) = false := decide_eq_false (by omega)
      have hv2 : decide (5 < (r.version : Int)) = false := decide_eq_false (by omega)
      have hv3 : decide (5 ≤ (r.version : Int)) = false := decide_eq_false (by omega)
      have hv4 : decide ((r.version : Int) < 5) = true := decide_eq_true (by omega)
      have hvw : IntKind.i64.wrap (r.version : Int) = (r.version : Int) := by rw [IntKind.wrap_i64]; omega
      have hvw2 : wrap64 (r.version : Int) = (r.version : Int) := by unfold wrap64; omega
      have HV := Lib.hid hv; have HAS := Lib.hid has; have HO1 := Lib.hid hO1
      clear hv has hO1
      go_wp2_with fail
      (with_reducible refine HU.out.mono ?_)
      rintro e w12 ⟨rfl, hb2, hf2⟩
      have hro2 := HROa.out.read hb2 hf2
      clear hb2 hf2 x6 y6 c4 c6
      obtain ⟨x6, y6⟩ := hro2.get 6 rfl (o := us1.length * 9 + 6) (by rw [HA9.out])
      obtain ⟨x7, y7⟩ := hro2.get 7 rfl (o := us1.length * 9 + 7) (by rw [HA9.out])
      have HRO2 := Lib.hid hro2
      clear hro2 HU
      go_upto_if 119 with fail
      have hro3 := HRO2.out.put 6 (by simp) (.int .i64 (r.version : Int)) (o := us1.length * 9 + 6) (by rw [HA9.out])
      generalize w12.setCell ⟨R, us1.length * 9 + 6, none⟩ (.int .i64 (r.version : Int)) = w13 at *
      simp only [List.set_cons_zero, List.set_cons_succ] at hro3
      have HRO3 := Lib.hid hro3
      clear hro3 x6 y6 x7 y7 HRO2 HROa
      have haw : r.aoff < 4294967296 := by
        obtain ⟨pre, rest, e1, e2⟩ := HOKR.out.tab
        have := congrArg List.length e1
        rw [List.length_append] at this
        omega
      go_cut [14] (fun s14 wx => ∃ (w14 : World), w14 = wx ∧ s14 = .int .u64 (r.aoff : Int) ∧ RoSt (fun k => k = Bb ∨ k = R) wr C Bb R D K big (us1.flatMap uvC) (zerosL z9 rs3.length) (o1 + 2 + wordF r.wide) (r.asize :: (piecesB r.ps ++ rs3.flatMap (URD.bytes big))) [.int .u32 (off : Int), .int .u32 0, .slice none 0 0, .map none, .pointer none, .int .i64 0, .int .i64 (r.version : Int), .bool r.wide, .int .u8 0] wx)
      case first =>
        have hb3 := HRO3.out.buf
        rw [List.append_assoc, List.cons_append] at hb3
        cases hwd : r.wide with
        | true =>
          rw [hwd] at hb3
          have HU := Lib.hid (uint64_any Bb K (kI D big) _ r.aoff _ _ hb3 (by omega))
          have HWD := Lib.hid hwd
          clear hb3 hwd
          go_wp2_with fail
          (with_reducible refine HU.out.mono ?_)
          rintro e w15 ⟨rfl, hb4, hf4⟩
          go_wp2_with fail
          go_meet
          case rel =>
            have := HRO3.out.read hb4 hf4
            rw [HWD.out] at this
            refine ⟨_, rfl, rfl, ?_⟩
            rw [HWD.out]
            exact this
        | false =>
          rw [hwd] at hb3
          have HU := Lib.hid (uint32_any Bb K (kI D big) _ r.aoff _ _ hb3 (by omega))
          have HWD := Lib.hid hwd
          have hu : IntKind.u64.wrap (r.aoff : Int) = (r.aoff : Int) := by rw [IntKind.wrap_u64]; omega
          clear hb3 hwd
          go_wp2_with fail
          (with_reducible refine HU.out.mono ?_)
          rintro e w15 ⟨rfl, hb4, hf4⟩
          go_wp2_with fail
          go_meet
          case rel =>
            have := HRO3.out.read hb4 hf4
            rw [HWD.out] at this
            refine ⟨_, rfl, rfl, ?_⟩
            rw [HWD.out]
            exact this
      case rest =>
      obtain ⟨w14, rfl, rfl, hro⟩ := hcut
      clear HRO3
      obtain ⟨F, hF1, hF2⟩ := HPU.out.map
      obtain ⟨pre, rest, e1, e2⟩ := HOKR.out.tab
      have hPA : Calls Tryz.prog 102 #[.pointer (some ⟨D, 0, none⟩), .int .u64 (r.aoff : Int), .int .i64 (r.version : Int)] w14 (PaPost C us1.length F r.aoff (r.version : Int) r.abs w14) := by
        have hwr := HPU.out.frame
        have hsz := hwr.size
        have hDn : ¬ (D = Bb ∨ D = R) := by omega
        have g0 := hro.frame.cell (hwr.cell H0.out hDC) hDn
        have g12 := hro.frame.cell (hwr.cell H12.out hDC) hDn
        have g14 := hro.frame.cell (hwr.cell H14.out hDC) hDn
        have ga : Rd KA w14 (.slice aa an ac) abv := (HA.out.keep (hwr.same fun k hk => HKA.out k hk)).keep (hro.frame.same fun k hk => ⟨by have := (HKA.out k hk).1; omega, by have := (HKA.out k hk).1; omega⟩)
        have gl : Laid w14 L := (HL.out.keep hwr (fun e => h2C e.symm) hLl.2 hLl.1).keep hro.frame (by omega) (by omega) (by omega)
        have gm : MapU w14 29 .u64 C us1.length F := hF1.keep (hro.frame.block C hF1.lt (by omega))
        have hs14 := hro.frame.size
        have hu6 : us1.length < 1000000 := Nat.lt_of_lt_of_le hlt (Nat.le_trans hrl (by decide))
        rw [e1] at ga
        exact parseAbbrev_any D C us1.length L F big (r.version : Int) KA aa an ac r.aoff r.abs pre rest w14 g12 g0 g14 gm (hF2 r (by simp)) hu6 ga e2 (fun k hk => Nat.lt_of_lt_of_le (HKA.out k hk).1 (Nat.le_trans hsz hs14)) (by rw [← e1]; exact hal) gl (Nat.lt_of_lt_of_le hLl.1 (Nat.le_trans hsz hs14)) (fun ab hab => (HOKR.out.abs ab hab).1) HOKR.out.absl
      obtain ⟨x6, y6⟩ := hro.get 6 rfl (o := us1.length * 9 + 6) (by rw [HA9.out])
      have HPA := Lib.hid hPA; have HROa := Lib.hid hro; have HF1 := Lib.hid hF1; have HF2 := Lib.hid hF2
      clear hPA hro hF1 hF2 e1 e2
      go_wp2_with fail
      (with_reducible refine HPA.out.mono ?_)
      rintro e w15 ⟨M, rfl, hm5, ht5, hf5, hM1, hM2⟩
      have hro5' := HROa.out.other hf5
      have HFW5 := Lib.hid hro5'.frame
      have hro5 := hro5'.anew
      clear hro5'
      clear x6 y6
      obtain ⟨x3, y3⟩ := hro5.get 3 rfl (o := us1.length * 9 + 3) (by rw [HA9.out])
      have HM5 := Lib.hid hm5; have HT5 := Lib.hid ht5; have HF5 := Lib.hid hf5; have HRO5 := Lib.hid hro5
      clear hm5 ht5 hf5 hro5 HPA
      go_wp2_with fail
      have hro6 := HRO5.out.put 3 (by simp) (.map (some M)) (o := us1.length * 9 + 3) (by rw [HA9.out])
      generalize w15.setCell ⟨R, us1.length * 9 + 3, none⟩ (.map (some M)) = w16 at *
      simp only [List.set_cons_zero, List.set_cons_succ] at hro6
      (with_reducible refine (uint8_any Bb K (kI D big) _ r.asize _ w16 hro6.buf).mono ?_)
      rintro e w17 ⟨rfl, hb7, hf7⟩
      have hro7 := hro6.read hb7 hf7
      clear x3 y3
      obtain ⟨x5, y5⟩ := hro7.get 5 rfl (o := us1.length * 9 + 5) (by rw [HA9.out])
      have HRO7 := Lib.hid hro7
      clear hro6 hro7 hb7 hf7
      have haw : IntKind.i64.wrap (r.asize : Int) = (r.asize : Int) := by have := HAS.out; rw [IntKind.wrap_i64]; omega
      have haw2 : wrap64 (r.asize : Int) = (r.asize : Int) := by have := HAS.out; unfold wrap64; omega
      go_upto_region 43 with fail
      have hro8 := HRO7.out.put 5 (by simp) (.int .i64 (r.asize : Int)) (o := us1.length * 9 + 5) (by rw [HA9.out])
      generalize w17.setCell ⟨R, us1.length * 9 + 5, none⟩ (.int .i64 (r.asize : Int)) = w18 at *
      simp only [List.set_cons_zero, List.set_cons_succ] at hro8
      clear x5 y5
      obtain ⟨x8, y8⟩ := hro8.get 8 rfl (o := us1.length * 9 + 8) (by rw [HA9.out])
      obtain ⟨x1, y1⟩ := hro8.get 1 rfl (o := us1.length * 9 + 1) (by rw [HA9.out])
      obtain ⟨_, _, _, c4, c6, _⟩ := hro8.buf.get
      generalize hO4 : o1 + 2 + wordF r.wide + 1 = o4 at *
      have HRO8 := Lib.hid hro8; have HO4 := Lib.hid hO4
      clear hro8 hO4
      go_upto_region 54 with fail
      have hro9 := HRO8.out.put 1 (by simp) (.int .u32 (o4 : Int)) (o := us1.length * 9 + 1) (by rw [HA9.out])
      generalize w18.setCell ⟨R, us1.length * 9 + 1, none⟩ (.int .u32 (o4 : Int)) = w19 at *
      simp only [List.set_cons_zero, List.set_cons_succ] at hro9
      clear x8 y8 x1 y1 c4 c6
      obtain ⟨_, _, _, c4, c6, _⟩ := hro9.buf.get
      have hpl : bl = 2 + wordF r.wide + 1 + (piecesB r.ps).length := by
        have := HBL.out
        rw [HBODY.out] at this
        simp only [List.length_append, num_length, List.length_cons] at this
        omega
      have ho4 := HO4.out
      have hbm := HBM.out
      have hs1 : IntKind.u32.wrap ((o4 : Int) - (o1 : Int)) = ((2 + wordF r.wide + 1 : Nat) : Int) := by rw [IntKind.wrap_u32]; omega
      have hs2 : IntKind.u32.wrap ((bl : Int) - ((2 + wordF r.wide + 1 : Nat) : Int)) = ((piecesB r.ps).length : Int) := by rw [IntKind.wrap_u32]; omega
      have hs3 : IntKind.i64.wrap ((piecesB r.ps).length : Int) = ((piecesB r.ps).length : Int) := by rw [IntKind.wrap_i64]; omega
      generalize hPL : (piecesB r.ps).length = pl at *
      generalize hDD : (2 + wordF r.wide + 1 : Nat) = dd at *
      have HRO9 := Lib.hid hro9; have HPL := Lib.hid hPL; have HPLB := Lib.hid hpl; have HDD := Lib.hid hDD
      clear hro9 hPL hpl ho4 hDD hbm
      have hby := HRO9.out.buf
      have HBY := Lib.hid (bytes_any Bb K (kI D big) o4 pl (piecesB r.ps) (rs3.flatMap (URD.bytes big)) w19 hby HPL.out)
      clear hby
      go_wp2_with fail
      (with_reducible refine HBY.out.mono ?_)
      rintro e w20 ⟨da, dc, rfl, hd20, hb20, hf20⟩
      have hro20 := HRO9.out.read hb20 hf20
      clear hb20 c4 c6
      obtain ⟨x2, y2⟩ := hro20.get 2 rfl (o := us1.length * 9 + 2) (by rw [HA9.out])
      have HRO20 := Lib.hid hro20; have HD20 := Lib.hid hd20; have HF20 := Lib.hid hf20
      clear hro20 hd20 hf20 HBY
      go_wp2_with fail
      have hro21 := HRO20.out.put 2 (by simp) (.slice da (piecesB r.ps).length dc) (o := us1.length * 9 + 2) (by rw [HA9.out])
      go_roundw
      case rel =>
        have e1 := HO4.out; have e2 := HO1.out; have e3 := HBLE.out; have e4 := HPLB.out; have e5 := HDD.out
        have ehd : o4 = off + r.hd := by
          unfold URD.hd
          rw [lenB_length] at e2
          omega
        have eoff : o4 + pl = off + (r.bytes big).length := by omega
        obtain ⟨l1, l2, l3, l4⟩ := HPU.out.lt
        have hbw := HPU.out.buf.lt_size
        have hrw : R < wr.heap.size := (Array.getElem?_eq_some_iff.1 HPU.out.row).1
        have hw14 := HROa.out.frame.size
        have hfr := hro21.frame
        have hcl : C < w15.heap.size := HM5.out.lt
        obtain ⟨nT, hT⟩ := HT5.out
        have hsz21 := hfr.size
        have hbuf21 := hro21.buf
        rw [eoff] at hbuf21
        refine ⟨us1 ++ [{ r := r, off := off, M := M, dv := .slice da (piecesB r.ps).length dc }], rs3, off + (r.bytes big).length, by rw [HRS.out]; simp, by rw [hw1]; simp, HPU.out.push _ ⟨rfl, rfl⟩ (HFW5.out.trans hfr fun k hk => .inl (.inr hk)) hbuf21 ?_ ⟨_, HM5.out.keep (hfr.block C hcl (by omega)), ?_⟩ ?_ ⟨nT, (hT.keep (hfr.same fun k hk => ⟨hk.2.1, by omega⟩) (hfr.block M hM2 (by omega))).mono fun k hk => ⟨by omega, by omega⟩⟩ ⟨Nat.le_trans hw14 hM1, Nat.lt_of_lt_of_le hM2 hsz21⟩ fun k hk => HK.out k hk⟩
        · have := hro21.row
          simp only [List.set_cons_zero, List.set_cons_succ] at this
          unfold uvC
          rw [← ehd]
          exact this
        · intro r' hr'
          have hpw := HPW.out
          rw [HRS.out, List.pairwise_append] at hpw
          have h1 := (List.pairwise_cons.1 hpw.2.1).1 r' hr'
          have h2 : ¬ r'.aoff = r.aoff := by omega
          simp only [h2, if_false]
          exact HF2.out r' (by simp [hr'])
        · exact HD20.out.keep ((Frame.set (Frame.refl (fun k => k = R) w20) (.inl rfl) _).same fun k hk => ⟨by have := HRO20.out.buf.apart k hk; exact this.1, (HRO20.out.ne.2.2.2 k hk).1⟩)
      case measure => rw [hw1]; exact pu_measure _ _ hlt
  case rest =>
  obtain ⟨w9, us, off, rfl, hus, hst⟩ := hcut
  obtain ⟨_, _, _, _, c6, _⟩ := hst.buf.get
  have HST9 := Lib.hid hst; have HUS := Lib.hid hus
  clear hst hus h08 h128 h148
  go_wp2_with fail
  go_ret2
  have hul : us.length = rs.length := by have := congrArg List.length HUS.out; simpa using this
  have hrow := HST9.out.row
  simp only [List.length_nil, zerosL_zero, List.append_nil] at hrow
  refine ⟨us, R, ?_, HUS.out, HST9.out.offs.1, hrow, HST9.out.lt.2.1, fun u hu => ?_, HST9.out.frame⟩
  · rw [hul]; rfl
  · obtain ⟨q1, ⟨n, q2⟩, q3, q4, _, _⟩ := HST9.out.each u hu
    exact ⟨q1, ⟨n, q2.mono fun k hk => ⟨hk.1, hk.2.1⟩⟩, q3, q4⟩
end Go.Proofs.YtklcoppfkfenfaaGreatDoor
