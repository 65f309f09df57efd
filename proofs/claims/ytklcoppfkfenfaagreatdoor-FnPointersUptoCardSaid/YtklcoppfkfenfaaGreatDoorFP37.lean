/-
  The program's open: sections as data. The reader: from one unit to the next one.
-/
import Derived.Test.YtklcoppfkfenfaaGreatDoorFP36
import Derived.Test.YtklcoppfkfenfaaGreatDoorFP03
import Derived.Test.YtklcoppfkfenfaaGreatDoorFP33
import Derived.Test.YtklcoppfkfenfaaGreatDoorFP06
set_option linter.all false
set_option linter.unusedVariables false
set_option linter.unusedSimpArgs false
namespace Go.Proofs.YtklcoppfkfenfaaGreatDoor
set_option maxRecDepth 100000
open Go Go.RowKit

def moreC (p : ByteArray × Value) : List Value := [.string p.1, p.2]
/-- what open leaves -/
def OpenPost (big : Bool) (str : List Nat) (rs : List URD) (w : World) (e : Ending) (w' : World) : Prop :=
  ∃ (D R : Nat) (KX : Bs) (us : List UV), e = .returned (.tuple #[.pointer (some ⟨D, 0, none⟩), .bool true]) ∧ DatAt w' D R KX big str us ∧ us.map UV.r = rs ∧ UvOffs big 0 us ∧ Frame no w w' ∧ (∀ k, KX k → w.heap.size ≤ k)

/-- while sections with names are added -/
structure MoSt (w6 : World) (D R : Nat) (KX : Bs) (big : Bool) (str : List Nat) (us : List UV) (wr : World) : Prop where
  dat : DatAt wr D R KX big str us
  out : OutD wr D R KX str us
  blk : ∃ cs : Array Value, wr.heap[D]? = some (.cells cs 149) ∧ cs.size = 18
  frame : Frame (fun k => k = D) w6 wr
theorem MoSt.keep {w6 wr w2 : World} {D R : Nat} {KX : Bs} {big : Bool} {str : List Nat} {us : List UV} (h : MoSt w6 D R KX big str us wr) (hf : Frame no wr w2) : MoSt w6 D R KX big str us w2 := by
  obtain ⟨cs, h1, h2⟩ := h.blk
  exact ⟨h.dat.keep hf fun _ _ => id, h.out.keep h.dat hf fun _ _ => id, ⟨cs, (hf.block D (Array.getElem?_eq_some_iff.1 h1).1 id).trans h1, h2⟩, h.frame.trans hf fun _ h => h.elim⟩
theorem MoSt.set {w6 wr : World} {D R : Nat} {KX : Bs} {big : Bool} {str : List Nat} {us : List UV} (h : MoSt w6 D R KX big str us wr) (i : Nat) (hi : i = 8 ∨ i = 10 ∨ i = 11) (v : Value) : MoSt w6 D R KX big str us (wr.setCell ⟨D, i, none⟩ v) := by
  obtain ⟨cs, h1, h2⟩ := h.blk
  obtain ⟨q1, q2⟩ := h.dat.setD h1 h.out i hi v
  exact ⟨q1, q2, ⟨_, heap_setCell_row h1 v, by simpa using h2⟩, h.frame.set (.inl rfl) _⟩
theorem Own.slice {w : World} {base : Nat} {v : Value} {l : List Nat} (h : Own w base v l) : ∃ a c, v = .slice a l.length c := h.shape

set_option maxHeartbeats 8000000 in
theorem open_any (L : Nat) (big : Bool) (K : Bs) (rs : List URD) (abv str rng : List Nat) (aa ia ra sa : Option Addr) (an ac inn ic rn rc sn sc : Nat) (ma : Option Addr) (mc : Nat) (more : List (ByteArray × Value)) (w : World)
    (ha : Rd K w (.slice aa an ac) abv) (hi : Rd K w (.slice ia inn ic) (rs.flatMap (URD.bytes big))) (hr : Rd K w (.slice ra rn rc) rng) (hs : Rd K w (.slice sa sn sc) str) (hK : ∀ k, K k → k < w.heap.size)
    (hm : Ar K w 2 (.slice ma more.length mc) more moreC) (hmore : ∀ p ∈ more, (p.1 = nmOffs ∨ p.1 = nmAddr ∨ p.1 = nmRngs) ∧ ∃ l : List Nat, Rd K w p.2 l ∧ l.length ≤ 1000000000000)
    (hL : Laid w L) (hLl : L < w.heap.size) (hok : URsOk big abv str 0 rs) (hal : abv.length < 4294967296) (hil : (rs.flatMap (URD.bytes big)).length < 4294967280) (hsl : str.length < 4294967296) (hgl : rng.length < 4294967296) (hrl : 0 < rs.length ∧ rs.length ≤ 1000) (hpw : rs.Pairwise fun a b => a.aoff < b.aoff) :
    Calls Tryz.prog 27 #[.agg #[.slice aa an ac, .slice ia inn ic, .slice ra rn rc, .slice sa sn sc, .slice none 0 0, .slice ma more.length mc]] w (OpenPost big str rs w) := by
  have HA := Lib.hid ha; have HI := Lib.hid hi; have HR := Lib.hid hr; have HS := Lib.hid hs; have HK := Lib.hid hK; have HM := Lib.hid hm; have HMORE := Lib.hid hmore; have HL := Lib.hid hL; have HOK := Lib.hid hok; have HPW := Lib.hid hpw
  have HAL := Lib.hid hal; have HIL := Lib.hid hil; have HSL := Lib.hid hsl; have HGL := Lib.hid hgl; have HRL := Lib.hid hrl
  clear ha hi hr hs hK hm hmore hL hok hpw hal hil hsl hgl hrl
  have hal : Frame no w (w.alloc (.cells #[.slice aa an ac, .slice ia inn ic, .slice ra rn rc, .slice sa sn sc, .slice none 0 0, .slice ma more.length mc] 38)) := (Frame.refl _ _).alloc _
  have hblk := heap_alloc_new w (.cells #[.slice aa an ac, .slice ia inn ic, .slice ra rn rc, .slice sa sn sc, .slice none 0 0, .slice ma more.length mc] 38)
  go_enter Tryz.func27, Tryz.ntmps27
  go_upto_region 1 with fail
  generalize hS0 : w.heap.size = S0 at hblk ⊢
  generalize (w.alloc (.cells #[.slice aa an ac, .slice ia inn ic, .slice ra rn rc, .slice sa sn sc, .slice none 0 0, .slice ma more.length mc] 38)) = w1 at *
  have s0 : w1.cell? ⟨S0, 0, none⟩ = some (.slice aa an ac) := cell_of_row _ _ _ _ _ _ hblk
  have s1 : w1.cell? ⟨S0, 1, none⟩ = some (.slice ia inn ic) := cell_of_row _ _ _ _ _ _ hblk
  have s2 : w1.cell? ⟨S0, 2, none⟩ = some (.slice ra rn rc) := cell_of_row _ _ _ _ _ _ hblk
  have s3 : w1.cell? ⟨S0, 3, none⟩ = some (.slice sa sn sc) := cell_of_row _ _ _ _ _ _ hblk
  have HBLK := Lib.hid hblk; have HF1 := Lib.hid hal; have HS0 := Lib.hid hS0
  clear hblk hal hS0
  have HFd := Lib.hid (show Frame no w w1.drew from HF1.out.drew)
  have HIL2 := Lib.hid (show (rs.flatMap (URD.bytes big)).length < 4294967296 from Nat.lt_trans HIL.out (by decide))
  refine wp_region_seq no 18 [(0, true), (1, true), (3, true), (4, true), (6, true), (7, true), (9, true), (10, true), (2, false), (5, false), (8, false), (11, false), (12, false), (13, true), (14, true), (15, true), (16, true), (17, true)] (by kernel_rfl) (by kernel_rfl) (fun _ _ _ d _ h => by cases d <;> exact h) ?_
  simp only [pickB, List.getElem?_toArray, List.getElem?_cons_zero, List.getElem?_cons_succ, Option.getD_some, Bool.false_eq_true, ↓reduceIte, Nat.reduceLT]
  iterate 8
    refine seq_val (v := ?_) (fun w' hX => ?_) ?_
    rotate_left
    · have x0 := hX.cell s0 id; have x1 := hX.cell s1 id; have x2 := hX.cell s2 id; have x3 := hX.cell s3 id; clear hX; go_simp; try with_reducible rfl
    try simp only [Act.put, List.setIfInBounds_toArray, List.set_cons_zero, List.set_cons_succ]
  refine seq_new (fun KK hK => ?_)
  go_wp2_with fail
  have hy2 := HA.out.keep (HFd.out.same fun k hk => ⟨HK.out k hk, id⟩)
  have hl2 := Nat.le_of_lt (Nat.lt_trans HAL.out (by decide : 4294967296 < 1000000000000))
  (with_reducible refine (own_any K _ _ _ hy2 (fun k hk => Nat.lt_of_lt_of_le (HK.out k hk) HFd.out.size) hl2).mono ?_)
  rintro e w2 ⟨v2, rfl, ho2, hf2, hne2⟩
  obtain ⟨x2, n2, y2, hnn2, rfl⟩ : ∃ a n c, n = List.length _ ∧ v2 = .slice a n c := let ⟨a, c, h⟩ := ho2.shape; ⟨a, _, c, rfl, h⟩
  have HNN2 := Lib.hid hnn2; clear hnn2
  go_wp2_with fail
  refine ⟨hf2, ?_⟩
  have HO2 := Lib.hid ho2; have HG2 := Lib.hid hf2
  have HF2 := Lib.hid (HFd.out.trans hf2 fun _ h => h.elim)
  clear hy2 hl2 ho2 hf2 hne2
  refine seq_new (fun KK hK => ?_)
  go_wp2_with fail
  have hy3 := HI.out.keep (HF2.out.same fun k hk => ⟨HK.out k hk, id⟩)
  have hl3 := Nat.le_of_lt (Nat.lt_trans HIL2.out (by decide : 4294967296 < 1000000000000))
  (with_reducible refine (own_any K _ _ _ hy3 (fun k hk => Nat.lt_of_lt_of_le (HK.out k hk) HF2.out.size) hl3).mono ?_)
  rintro e w3 ⟨v3, rfl, ho3, hf3, hne3⟩
  obtain ⟨x3, n3, y3, hnn3, rfl⟩ : ∃ a n c, n = List.length _ ∧ v3 = .slice a n c := let ⟨a, c, h⟩ := ho3.shape; ⟨a, _, c, rfl, h⟩
  have HNN3 := Lib.hid hnn3; clear hnn3
  go_wp2_with fail
  refine ⟨hf3, ?_⟩
  have HO3 := Lib.hid ho3; have HG3 := Lib.hid hf3
  have HF3 := Lib.hid (HF2.out.trans hf3 fun _ h => h.elim)
  clear hy3 hl3 ho3 hf3 hne3
  refine seq_new (fun KK hK => ?_)
  go_wp2_with fail
  have hy4 := HR.out.keep (HF3.out.same fun k hk => ⟨HK.out k hk, id⟩)
  have hl4 := Nat.le_of_lt (Nat.lt_trans HGL.out (by decide : 4294967296 < 1000000000000))
  (with_reducible refine (own_any K _ _ _ hy4 (fun k hk => Nat.lt_of_lt_of_le (HK.out k hk) HF3.out.size) hl4).mono ?_)
  rintro e w4 ⟨v4, rfl, ho4, hf4, hne4⟩
  obtain ⟨x4, n4, y4, hnn4, rfl⟩ : ∃ a n c, n = List.length _ ∧ v4 = .slice a n c := let ⟨a, c, h⟩ := ho4.shape; ⟨a, _, c, rfl, h⟩
  have HNN4 := Lib.hid hnn4; clear hnn4
  go_wp2_with fail
  refine ⟨hf4, ?_⟩
  have HO4 := Lib.hid ho4; have HG4 := Lib.hid hf4
  have HF4 := Lib.hid (HF3.out.trans hf4 fun _ h => h.elim)
  clear hy4 hl4 ho4 hf4 hne4
  refine seq_new (fun KK hK => ?_)
  go_wp2_with fail
  have hy5 := HS.out.keep (HF4.out.same fun k hk => ⟨HK.out k hk, id⟩)
  have hl5 := Nat.le_of_lt (Nat.lt_trans HSL.out (by decide : 4294967296 < 1000000000000))
  (with_reducible refine (own_any K _ _ _ hy5 (fun k hk => Nat.lt_of_lt_of_le (HK.out k hk) HF4.out.size) hl5).mono ?_)
  rintro e w5 ⟨v5, rfl, ho5, hf5, hne5⟩
  obtain ⟨x5, n5, y5, hnn5, rfl⟩ : ∃ a n c, n = List.length _ ∧ v5 = .slice a n c := let ⟨a, c, h⟩ := ho5.shape; ⟨a, _, c, rfl, h⟩
  have HNN5 := Lib.hid hnn5; clear hnn5
  go_wp2_with fail
  refine ⟨hf5, ?_⟩
  have HO5 := Lib.hid ho5; have HG5 := Lib.hid hf5
  have HF5 := Lib.hid (HF4.out.trans hf5 fun _ h => h.elim)
  clear hy5 hl5 ho5 hf5 hne5
  refine seq_new (fun KK hK => ?_)
  go_wp2_with fail
  have q2 := ((HO2.out.rd.keep (HG3.out.same fun k hk => ⟨(own_lt HO2.out k hk).2, id⟩)).keep (HG4.out.same fun k hk => ⟨Nat.lt_of_lt_of_le (own_lt HO2.out k hk).2 HG3.out.size, id⟩)).keep (HG5.out.same fun k hk => ⟨Nat.lt_of_lt_of_le (own_lt HO2.out k hk).2 (Nat.le_trans HG3.out.size HG4.out.size), id⟩)
  have q3 := (HO3.out.rd.keep (HG4.out.same fun k hk => ⟨(own_lt HO3.out k hk).2, id⟩)).keep (HG5.out.same fun k hk => ⟨Nat.lt_of_lt_of_le (own_lt HO3.out k hk).2 HG4.out.size, id⟩)
  have q5 := HO5.out.rd
  have z2 := fun k hk => Nat.lt_of_lt_of_le (own_lt HO2.out k hk).2 (Nat.le_trans (Nat.le_trans HG3.out.size HG4.out.size) HG5.out.size)
  have z3 := fun k hk => Nat.lt_of_lt_of_le (own_lt HO3.out k hk).2 (Nat.le_trans HG4.out.size HG5.out.size)
  have z5 := fun k hk => (own_lt HO5.out k hk).2
  have hnew := new_any L big _ _ _ rs abv str x2 x3 x4 x5 n2 y2 n3 y3 n4 y4 n5 y5 w5 q2 q3 q5 z3 z2 z5 (HL.out.keep HF5.out id id hLl) (Nat.lt_of_lt_of_le hLl HF5.out.size) HOK.out HAL.out HIL.out HRL.out HPW.out
  (with_reducible refine hnew.mono ?_)
  clear hnew q2 q3 q5 z2 z3 z5
  rintro e w6 ⟨D, R, KX, us, cs, rfl, hdat, hus, hoff, hDs, hf6, hkx, hdb, hcs, hout⟩
  go_wp2_with fail
  refine ⟨hf6, ?_⟩
  have hbase : ∀ k, KX k → w.heap.size ≤ k := by
    intro k hk
    have s2 := HFd.out.size; have s3 := HF2.out.size; have s4 := HF3.out.size; have s5 := HF4.out.size; have s6 := HF5.out.size
    rcases hkx k hk with h | h | h
    · exact Nat.le_trans s3 (own_lt HO3.out k h).1
    · exact Nat.le_trans s5 (own_lt HO5.out k h).1
    · omega
  have HDAT := Lib.hid hdat; have HUS := Lib.hid hus; have HOFF := Lib.hid hoff; have HG6 := Lib.hid hf6; have HKX := Lib.hid hbase; have HDB := Lib.hid hdb; have HCS := Lib.hid hcs; have HOUT := Lib.hid hout
  have HF6 := Lib.hid (HF5.out.trans hf6 fun _ h => h.elim)
  have hDw : w.heap.size ≤ D := Nat.le_trans HF5.out.size hDs
  clear hdat hus hoff hf6 hbase hdb hcs hout hkx
  iterate 5
    refine seq_val (v := ?_) (fun w' hX => ?_) ?_
    rotate_left
    · clear hX; go_simp; try with_reducible rfl
    try simp only [Act.put, List.setIfInBounds_toArray, List.set_cons_zero, List.set_cons_succ]
  refine seq_nil ?_
  have hsw : w1.heap.size ≤ w5.heap.size := by have s3 := HG2.out.size; have s4 := HG3.out.size; have s5 := HG4.out.size; have s6 := HG5.out.size; simp only [World.size_drew] at s3; omega
  have hs0l : S0 < w1.heap.size := (Array.getElem?_eq_some_iff.1 HBLK.out).1
  have hf15 : Frame no w1 w5 := ((((Frame.refl no w1).drew.trans HG2.out fun _ h => h.elim).trans HG3.out fun _ h => h.elim).trans HG4.out fun _ h => h.elim).trans HG5.out fun _ h => h.elim
  have hf16 : Frame no w1 w6 := hf15.trans HG6.out fun _ h => h.elim
  have hblk6 := (hf16.block S0 hs0l id).trans HBLK.out
  have s5 : w6.cell? ⟨S0, 5, none⟩ = some (.slice ma more.length mc) := cell_of_row _ _ _ _ _ _ hblk6
  have s4 : w6.cell? ⟨S0, 4, none⟩ = some (.slice none 0 0) := cell_of_row _ _ _ _ _ _ hblk6
  have HB6 := Lib.hid hblk6
  clear hblk6 hf15 hf16 s0 s1 s2 s3
  have hmo : MoSt w6 D R KX big str us w6 := ⟨HDAT.out, HOUT.out, ⟨cs, HDB.out, HCS.out⟩, Frame.refl _ _⟩
  have HMO := Lib.hid hmo; clear hmo
  obtain ⟨ma', mc', hme, hmc1, hmc2, hmel⟩ := HM.out.elem (by decide)
  simp only [Value.slice.injEq, true_and] at hme
  obtain ⟨rfl, rfl⟩ := hme
  unfold maxLen at hmc2
  have HMEL := Lib.hid hmel; clear hmel
  go_upto_block 0 with fail
  go_cut [7, 32] (fun _ _ wx => ∃ w9 : World, w9 = wx ∧ MoSt w6 D R KX big str us wx)
  case first =>
    go_wp2_with fail
    go_loopw [7, 32] (fun _ i wr => ∃ k : Nat, k ≤ more.length ∧ i = .int .i64 k ∧ MoSt w6 D R KX big str us wr) (fun _ i _ => more.length - (intOf i).toNat)
    case atStart => exact ⟨0, Nat.zero_le _, rfl, HMO.out⟩
    case round =>
    clear s4 s5
    obtain ⟨k, hk1, rfl, hmo⟩ := hrel
    by_cases hlt : k < more.length
    · obtain ⟨b, o, rfl, hb, hc⟩ := HMEL.out k hlt
      obtain ⟨hnm, bl, hbl, hbll⟩ := HMORE.out more[k] (List.getElem_mem hlt)
      have c0 := hc 0 _ rfl
      have c1 := hc 1 _ rfl
      rw [Nat.add_zero] at c0
      obtain ⟨va, vc, hv⟩ := hbl.shape
      rw [hv] at c1 hbl
      have hfw : Frame no w wr := (HF6.out.trans hmo.frame fun k hk => .inr (by rw [hk]; exact hDw))
      replace c0 := hfw.cell c0 id
      replace c1 := hfw.cell c1 id
      have hbl := hbl.keep (hfw.same fun k hk => ⟨HK.out k hk, id⟩)
      have hksz : ∀ k, K k → k < wr.heap.size := fun k hk => Nat.lt_of_lt_of_le (HK.out k hk) hfw.size
      generalize hnE : (more[k]).1 = nm at *
      obtain ⟨vn, hvn⟩ : ∃ n, n = bl.length := ⟨_, rfl⟩
      rw [← hvn] at c1 hbl
      have HBL := Lib.hid hbl; have HVN := Lib.hid hvn; have HNM := Lib.hid hnm; have HMOK := Lib.hid hmo; have HKSZ := Lib.hid hksz; have HBLL := Lib.hid hbll
      clear hv hnE hc hbl hvn hnm hmo hksz hbll hfw
      go_upto_region 7 with fail
      have hal : Frame no wr (wr.alloc (.cells #[.string nm, .slice va vn vc] 125)) := (Frame.refl _ _).alloc _
      have p0 : (wr.alloc (.cells #[.string nm, .slice va vn vc] 125)).cell? ⟨wr.heap.size, 0, none⟩ = some (.string nm) := cell_new _ _ _ _
      have p1 : (wr.alloc (.cells #[.string nm, .slice va vn vc] 125)).cell? ⟨wr.heap.size, 1, none⟩ = some (.slice va vn vc) := cell_new _ _ _ _
      have hmo7 := HMOK.out.keep hal
      have hnT : ¬ wr.heap.size = D := fun e => by have := HMOK.out.dat.lt D HMOK.out.dat.hD; omega
      have HAL := Lib.hid hal
      generalize (wr.alloc (.cells #[.string nm, .slice va vn vc] 125)) = w7 at *
      have HMO7 := Lib.hid hmo7; have HNT := Lib.hid hnT
      clear hal hmo7 hnT c0 c1
      refine wp_region_seq (fun k => k = D) 8 [(0, true), (1, true), (2, true), (3, true), (4, true), (5, false), (6, false), (7, true)] (by kernel_rfl) (by kernel_rfl) (fun _ _ _ d _ h => by cases d <;> exact h) ?_
      simp only [pickB, List.getElem?_toArray, List.getElem?_cons_zero, List.getElem?_cons_succ, Option.getD_some, Bool.false_eq_true, ↓reduceIte, Nat.reduceLT]
      iterate 5
        refine seq_val (v := ?_) (fun w' hX => ?_) ?_
        rotate_left
        · have x0 := hX.cell p0 HNT.out; have x1 := hX.cell p1 HNT.out; clear hX; go_simp; try with_reducible rfl
        try simp only [Act.put, List.setIfInBounds_toArray, List.set_cons_zero, List.set_cons_succ]
      refine seq_new (fun KK hK => ?_)
      go_wp2_with fail
      have hy := HBL.out.keep (HAL.out.drew.same fun k hk => ⟨HKSZ.out k hk, id⟩)
      have hyl := HBLL.out
      (with_reducible refine (own_any K _ _ _ hy (fun k hk => Nat.lt_of_lt_of_le (HKSZ.out k hk) HAL.out.drew.size) hyl).mono ?_)
      rintro e w8 ⟨v8, rfl, ho8, hf8, hne8⟩
      obtain ⟨x8, n8, y8, hn8, rfl⟩ : ∃ a n c, n = List.length _ ∧ v8 = .slice a n c := let ⟨a, c, h⟩ := ho8.shape; ⟨a, _, c, rfl, h⟩
      clear hn8 ho8 hne8 hy hyl
      go_wp2_with fail
      refine ⟨hf8.of_no, ?_⟩
      have hmo8 := (HMO7.out.keep (Frame.refl no w7).drew).keep hf8
      obtain ⟨cs8, hb8, hc8⟩ := hmo8.blk
      have HMO8 := Lib.hid hmo8
      clear hmo8 hf8
      refine seq_new (fun KK hK => ?_)
      go_wp2_with fail
      have hnm := HNM.out
      (with_reducible refine (addSection_any D cs8 nm x8 n8 y8 w8 hb8 hc8 hnm).mono ?_)
      rintro e w9 ⟨rfl, i9, hi9, rfl⟩
      go_wp2_with fail
      refine ⟨(Frame.refl (fun k => k = D) w8).set (.inl rfl) _, ?_⟩
      have hmo9 := HMO8.out.set i9 hi9 (.slice x8 n8 y8)
      have HMO9 := Lib.hid hmo9
      clear hmo9 hb8 hc8 hnm
      iterate 1
        refine seq_val (v := ?_) (fun w' hX => ?_) ?_
        rotate_left
        · clear hX; go_simp; try with_reducible rfl
        try simp only [Act.put, List.setIfInBounds_toArray, List.set_cons_zero, List.set_cons_succ]
      refine seq_nil ?_
      go_wp2_with fail
      go_roundw
      case rel => exact ⟨k + 1, by omega, by go_num, HMO9.out⟩
      case measure => simp [intOf]; omega
    · have HMOK := Lib.hid hmo; clear hmo
      go_wp2_with fail
      go_meet
      case rel => exact ⟨_, rfl, HMOK.out⟩
  case rest =>
  obtain ⟨w9, rfl, hmo⟩ := hcut
  have hDS : ¬ S0 = D := fun e => by
    have h1 := (Array.getElem?_eq_some_iff.1 HBLK.out).1
    omega
  have s4' := hmo.frame.cell s4 hDS
  have HMOK := Lib.hid hmo
  clear hmo s4 s5
  go_upto_block 2 with fail
  go_cut [8, 9, 48] (fun _ _ _ wx => w9 = wx)
  case first =>
    go_wp2_with fail
    go_loopw [8, 9, 48] (fun _ _ i wx => i = .int .i64 0 ∧ w9 = wx) (fun _ _ _ _ => 0)
    case atStart => exact ⟨rfl, rfl⟩
    case round =>
    obtain ⟨rfl, rfl⟩ := hrel
    go_wp2_with fail
    go_meet
    case rel => rfl
  case rest =>
  obtain rfl := hcut
  go_wp2_with fail
  go_ret2
  exact ⟨D, R, KX, us, rfl, HMOK.out.dat, HUS.out, HOFF.out, HF6.out.trans HMOK.out.frame (fun k hk => .inr (by rw [hk]; exact hDw)), HKX.out⟩
end Go.Proofs.YtklcoppfkfenfaaGreatDoor
namespace Go.Proofs.YtklcoppfkfenfaaGreatDoor
set_option maxRecDepth 100000
open Go Go.RowKit

/-- where a unit's entries begin, and that all of it is near -/
def UV.start (u : UV) : Nat := u.off + u.r.hd
def UV.near (u : UV) : Prop := u.r.version < 5 ∧ u.start + (piecesB u.r.ps).length < 4294967296

set_option maxHeartbeats 2000000 in
theorem nextUnit_any (B D R : Nat) (KX : Bs) (big : Bool) (str : List Nat) (us : List UV) (j off : Nat) (l : List Nat) (w : World) (hd : DatAt w D R KX big str us) (hr : RdrAt w B D R KX big j off l) (hj : j + 1 < us.length) (hn : us[j + 1].near) :
    Calls Tryz.prog 71 #[.pointer (some ⟨B, 0, none⟩)] w (fun e w' => e = .returned (.tuple #[]) ∧ RdrAt w' B D R KX big (j + 1) us[j + 1].start (piecesB us[j + 1].r.ps) ∧ Frame (fun k => k = B) w w') := by
  obtain ⟨lu, lc, ls, cu, hb⟩ := hr.ex
  have hB : ∀ k, KX k → ¬ k = B := fun k hk => (hb.apart k hk).2
  have r9 := (hb.restCell 2 _ rfl rfl).1
  have f9 := (hb.restCell 2 _ rfl rfl).2
  simp only [Nat.reduceAdd] at r9 f9
  have hlen := hd.ne.2
  have hwr : wrap64 ((j : Int) + 1) = (j : Int) + 1 := by unfold wrap64; omega
  have HR0 := Lib.hid hr; clear hr
  go_enter Tryz.func71, Tryz.ntmps71
  go_upto_region 1 with fail
  obtain ⟨hb1, hf1⟩ := hb.setRest 2 (.int .i64 ((j : Int) + 1)) (o := 9) rfl
  generalize hw1 : w.setCell ⟨B, 9, none⟩ (.int .i64 ((j : Int) + 1)) = w1 at *
  clear hw1 r9 f9 hwr
  have HB1 := Lib.hid hb1
  have r7 := (hb1.restCell 0 _ rfl rfl).1
  have r9 := (hb1.restCell 2 _ rfl rfl).1
  simp only [Nat.reduceAdd] at r7 r9
  have hd1 := hd.keep hf1 (fun k hk => hB k hk)
  obtain ⟨j1, hj1⟩ : ∃ j1 : Nat, j + 1 = j1 := ⟨_, rfl⟩
  have hji : (j : Int) + 1 = (j1 : Int) := by omega
  rw [hji] at r9 hb1
  rw [hji]
  simp only [hj1] at hn ⊢
  have hjl : j1 < us.length := by omega
  have u17 := hd1.units
  have u1 := hd1.cell j1 hjl 1 _ rfl rfl
  have u2 := hd1.cell j1 hjl 2 _ rfl rfl
  have u6 := hd1.cell j1 hjl 6 _ rfl rfl
  have hdv := (hd1.each us[j1] (List.getElem_mem hjl)).1
  have HN := Lib.hid hn
  generalize hU : us[j1] = U at *
  obtain ⟨da, dc, hdve⟩ := hdv.shape
  rw [hdve] at u2 hdv
  have HU := Lib.hid hU; have HDVE := Lib.hid hdve; have HDV := Lib.hid hdv; have HD := Lib.hid hd; have HD1 := Lib.hid hd1; have HF1 := Lib.hid hf1; have HBB := Lib.hid hB
  have hord := hd1.order
  have HJ1 := Lib.hid hj1; have HJI := Lib.hid hji
  have HB2 := Lib.hid hb1
  clear hU hdve hdv hd hd1 hf1 hB hj1 hji hb1 hb hn
  refine wp_region_seq no 13 [(0, true), (1, true), (2, true), (3, true), (4, true), (5, true), (6, true), (7, true), (8, true), (9, true), (10, true), (11, true), (12, true)] (by kernel_rfl) (by kernel_rfl) (fun _ _ _ d _ h => by cases d <;> exact h) ?_
  simp only [pickB, List.getElem?_toArray, List.getElem?_cons_zero, List.getElem?_cons_succ, Option.getD_some, Bool.false_eq_true, ↓reduceIte, Nat.reduceLT]
  iterate 13
    refine seq_val (v := ?_) (fun w' hX => ?_) ?_
    rotate_left
    · have x0 := hX.cell r7 id; have x1 := hX.cell r9 id; have x2 := hX.cell u17 id; clear hX; go_simp; try with_reducible rfl
    try simp only [Act.put, List.setIfInBounds_toArray, List.set_cons_zero, List.set_cons_succ]
  refine seq_nil ?_
  go_wp2_with fail
  refine wp_region_seq no 18 [(0, true), (1, true), (2, true), (3, true), (4, true), (5, true), (6, true), (7, true), (8, true), (9, true), (10, true), (11, true), (12, true), (13, true), (14, true), (15, false), (16, false), (17, true), (18, false)] (by kernel_rfl) (by kernel_rfl) (fun _ _ _ d _ h => by cases d <;> exact h) ?_
  simp only [pickB, List.getElem?_toArray, List.getElem?_cons_zero, List.getElem?_cons_succ, Option.getD_some, Bool.false_eq_true, ↓reduceIte, Nat.reduceLT]
  iterate 15
    refine seq_val (v := ?_) (fun w' hX => ?_) ?_
    rotate_left
    · have x0 := hX.cell r7 id; have x1 := hX.cell u1 id; have x2 := hX.cell u2 id; clear hX; go_simp; try with_reducible rfl
    try simp only [Act.put, List.setIfInBounds_toArray, List.set_cons_zero, List.set_cons_succ]
  refine seq_new (fun KK hK => ?_)
  go_wp2_with fail
  have hordd : w1.drew.drew.cell? ⟨D, 14, none⟩ = some (.bool big) := hord
  (with_reducible refine (makeBuf_any D 138 (.pointer (some ⟨R, j1 * 9, none⟩)) _ _ da (piecesB U.r.ps).length dc big _ hordd).mono ?_)
  rintro e w3 ⟨rfl, hf3⟩
  go_wp2_with fail
  refine ⟨hf3, ?_⟩
  have HF3 := Lib.hid ((Frame.refl no w1).drew.drew.trans hf3 fun _ h => h.elim)
  refine seq_new (fun _ _ => ?_)
  go_wp2_with fail
  refine ⟨Frame.refl _ _, ?_⟩
  iterate 1
    refine seq_val (v := ?_) (fun w' hX => ?_) ?_
    rotate_left
    · clear hX; go_simp; try with_reducible rfl
    try simp only [Act.put, List.setIfInBounds_toArray, List.set_cons_zero, List.set_cons_succ]
  refine seq_out (fun KK hK => ?_)
  have hb3 := HB2.out.keep HF3.out id (fun k hk => ⟨(HB2.out.apart k hk).1, id⟩)
  obtain ⟨xa, xn, xcap, hX3, _⟩ := hb3.ex
  have hXd : w3.drew.heap[B]? = _ := hX3
  have y0 := cell_of_row _ B 0 _ _ _ hX3
  have y1 := cell_of_row _ B 1 _ _ _ hX3
  have y2 := cell_of_row _ B 2 _ _ _ hX3
  have y3 := cell_of_row _ B 3 _ _ _ hX3
  have y4 := cell_of_row _ B 4 _ _ _ hX3
  have y5 := cell_of_row _ B 5 _ _ _ hX3
  have y6 := cell_of_row _ B 6 _ _ _ hX3
  simp only [List.getElem?_toArray, List.getElem?_cons_zero, List.getElem?_cons_succ] at y0 y1 y2 y3 y4 y5 y6
  have hfz : ∀ i, w3.frozen? ⟨B, i, none⟩ = false := fun i => by simp [World.frozen?, hX3]
  have z0 := hfz 0; have z1 := hfz 1; have z2 := hfz 2; have z3 := hfz 3; have z4 := hfz 4; have z5 := hfz 5; have z6 := hfz 6
  have HX3 := Lib.hid hX3; have HB3 := Lib.hid hb3
  clear hX3 hfz hb3 hXd
  go_wp2_with fail
  refine seq_nil ?_
  have hdv3 := HDV.out.keep (HF3.out.same fun k hk => ⟨HD1.out.lt k hk, id⟩)
  obtain ⟨hb4, hf4⟩ := Buf.reset HX3.out (.pointer (some ⟨D, 0, none⟩)) big (.iface 138 (.pointer (some ⟨R, j1 * 9, none⟩))) (.string ⟨#[105, 110, 102, 111]⟩) (U.off + U.r.hd) da _ dc _ hdv3 (fun k hk => HB3.out.apart k hk) HN.out.2 (z := (U.off : Int) + (U.r.hd : Int)) (by omega)
  have HF4 := Lib.hid (HF3.out.of_no.trans' hf4)
  have u6' := hf4.cell (HF3.out.cell u6 id) (HBB.out R HD.out.hR)
  have HB4 := Lib.hid hb4
  clear hb4 hf4 y0 y1 y2 y3 y4 y5 y6 z0 z1 z2 z3 z4 z5 z6 u1 u2 u6 u17 r7 r9 hord hordd
  generalize (((((((w3.setCell ⟨B, 0, none⟩ (.pointer (some ⟨D, 0, none⟩))).setCell ⟨B, 1, none⟩ (.bool big)).setCell ⟨B, 2, none⟩ (.iface 138 (.pointer (some ⟨R, j1 * 9, none⟩)))).setCell ⟨B, 3, none⟩ (.string ⟨#[105, 110, 102, 111]⟩)).setCell ⟨B, 4, none⟩ (.int .u32 ((U.off : Int) + (U.r.hd : Int)))).setCell ⟨B, 5, none⟩ (.slice da (piecesB U.r.ps).length dc)).setCell ⟨B, 6, none⟩ .nilIface) = w4 at *
  have r13 := (HB4.out.restCell 6 _ rfl rfl).1
  have f13 := (HB4.out.restCell 6 _ rfl rfl).2
  simp only [Nat.reduceAdd] at r13 f13
  go_wp2_with fail
  obtain ⟨hb5, hf5⟩ := HB4.out.setRest 6 (.pointer none) (o := 13) rfl
  have u6'' := hf5.cell u6' (HBB.out R HD.out.hR)
  have HB5 := Lib.hid hb5; have HF5 := Lib.hid hf5
  clear hb5 hf5 r13 f13 u6'
  have hnv := HN.out.1
  (with_reducible refine (bases_old B R (j1 * 9) U.r.version _ u6'' hnv).mono ?_)
  rintro e w6 ⟨rfl, rfl⟩
  go_wp2_with fail
  go_end0
  have h1 := HJ1.out
  subst h1
  have h2 := HU.out
  subst h2
  exact ⟨rfl, ⟨lu, lc, ls, none, HB5.out⟩, (HF1.out.trans' HF4.out).trans' HF5.out⟩
end Go.Proofs.YtklcoppfkfenfaaGreatDoor
