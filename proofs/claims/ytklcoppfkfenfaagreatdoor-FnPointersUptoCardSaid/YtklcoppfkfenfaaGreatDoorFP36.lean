/-
  The reader: New.
-/
import Derived.Test.YtklcoppfkfenfaaGreatDoorFP34
import Derived.Test.YtklcoppfkfenfaaGreatDoorFP35
import Derived.Test.YtklcoppfkfenfaaGreatDoorFP25
set_option linter.all false
set_option linter.unusedVariables false
set_option linter.unusedSimpArgs false
namespace Go.Proofs.YtklcoppfkfenfaaGreatDoor
set_option maxRecDepth 100000
open Go Go.RowKit

theorem alloc_at {w : World} {o : Obj} {n : Nat} (h : n = w.heap.size) : (w.alloc o).heap[n]? = some o := by subst h; exact heap_alloc_new _ _
/-- what New leaves -/
def NewPost (K KS : Bs) (big : Bool) (str : List Nat) (rs : List URD) (w : World) (e : Ending) (w' : World) : Prop :=
  ∃ (D R : Nat) (KX : Bs) (us : List UV) (cs : Array Value), e = .returned (.tuple #[.pointer (some ⟨D, 0, none⟩), .nilIface]) ∧ DatAt w' D R KX big str us ∧ us.map UV.r = rs ∧ UvOffs big 0 us ∧ w.heap.size ≤ D ∧ Frame no w w' ∧
    (∀ k, KX k → K k ∨ KS k ∨ w.heap.size ≤ k) ∧ w'.heap[D]? = some (.cells cs 149) ∧ cs.size = 18 ∧ OutD w' D R KX str us

set_option maxHeartbeats 8000000 in
theorem new_any (L : Nat) (big : Bool) (K KA KS : Bs) (rs : List URD) (abv str : List Nat) (aa ia ra sa : Option Addr) (an ac inn ic rn rc sn sc : Nat) (w : World)
    (ha : Rd KA w (.slice aa an ac) abv) (hi : Rd K w (.slice ia inn ic) (rs.flatMap (URD.bytes big))) (hs : Rd KS w (.slice sa sn sc) str) (hK : ∀ k, K k → k < w.heap.size) (hKA : ∀ k, KA k → k < w.heap.size) (hKS : ∀ k, KS k → k < w.heap.size)
    (hL : Laid w L) (hLl : L < w.heap.size) (hok : URsOk big abv str 0 rs) (hal : abv.length < 4294967296) (hil : (rs.flatMap (URD.bytes big)).length < 4294967280) (hrl : 0 < rs.length ∧ rs.length ≤ 1000) (hpw : rs.Pairwise fun a b => a.aoff < b.aoff) :
    Calls Tryz.prog 42 #[.slice aa an ac, .slice none 0 0, .slice none 0 0, .slice ia inn ic, .slice none 0 0, .slice none 0 0, .slice ra rn rc, .slice sa sn sc] w (NewPost K KS big str rs w) := by
  obtain ⟨r, rs', hrs⟩ : ∃ r rs', rs = r :: rs' := by
    cases rs with
    | nil => exact absurd hrl.1 (by simp)
    | cons r rs' => exact ⟨r, rs', rfl⟩
  have hre : rs.flatMap (URD.bytes big) = r.bytes big ++ rs'.flatMap (URD.bytes big) := by rw [hrs]; rfl
  have hv : 2 ≤ r.version ∧ r.version ≤ 4 := by rw [hrs] at hok; exact hok.1.version
  have hbd : (r.body big).length < 4294967280 := by
    have h1 : (r.body big).length ≤ (r.bytes big).length := by simp [URD.bytes]
    have h2 : (r.bytes big).length ≤ (rs.flatMap (URD.bytes big)).length := by rw [hre, List.length_append]; omega
    omega
  obtain ⟨q1, q2, q3, q4, q5, b0, b1, b2, b3, p0, p1, p2, p3, q6⟩ := unit_head big r (rs'.flatMap (URD.bytes big)) (by omega) hbd
  rw [← hre] at q1 q2 q3 q4 q5 p0 p1 p2 p3
  obtain ⟨b, o, hia, hin, hic, hicm, hcell⟩ := rd_cell hi (by omega)
  have hcell' : ∀ (j x : Nat), (rs.flatMap (URD.bytes big))[j]? = some x → w.cell? ⟨b, o + j, none⟩ = some (.int .u8 (x : Int)) := by
    intro j x hj
    obtain ⟨hj1, hj2⟩ := List.getElem?_eq_some_iff.1 hj
    rw [(hcell j hj1).1, hj2]
  have c0 := hcell' 0 b0 p0
  have c1 := hcell' 1 b1 p1
  have c2 := hcell' 2 b2 p2
  have c3 := hcell' 3 b3 p3
  have d0 := hcell' _ _ q4
  have d1 := hcell' _ _ q5
  rw [Nat.add_zero] at c0
  subst hia
  have hlen : vOff r + 2 ≤ inn := by omega
  have hlen6 : 6 ≤ inn := by omega
  have hlen14 : r.wide = true → 14 ≤ inn := fun h => by have := q3 h; omega
  have hLl2 : 2 < w.heap.size := cell_lt hL.var
  have HA := Lib.hid ha; have HI := Lib.hid hi; have HS := Lib.hid hs; have HK := Lib.hid hK; have HKA := Lib.hid hKA; have HKS := Lib.hid hKS; have HL := Lib.hid hL; have HOK := Lib.hid hok; have HPW := Lib.hid hpw
  have HQ := Lib.hid q6; have HIL := Lib.hid hil; have HAL := Lib.hid hal; have HRL := Lib.hid hrl; have HIN := Lib.hid hin; have HV := Lib.hid hv; have HRS := Lib.hid hrs; have H14 := Lib.hid hlen14
  clear ha hi hs hK hKA hKS hL hok hpw q1 q2 q3 q4 q5 q6 p0 p1 p2 p3 hcell hcell' hil hal hrl hre hrs hbd hin hv hlen14
  have hmm := @run_makeMap Tryz.prog
  go_enter Tryz.func42, Tryz.ntmps42
  go_upto_region 2 with fail
  have hfa : Frame no w ((((w.alloc (.map #[] 0)).alloc (.map #[] 0)).alloc (.map #[] 0)).alloc (.cells #[.slice aa an ac, .slice none 0 0, .slice none 0 0, .slice (some ⟨b, o, none⟩) inn ic, .slice none 0 0, .slice none 0 0, .slice ra rn rc, .slice sa sn sc, .slice none 0 0, .slice none 0 0, .slice none 0 0, .slice none 0 0, .map (some w.heap.size), .bool false, .bool false, .map (some (w.heap.size + 1)), .map (some (w.heap.size + 1 + 1)), .slice none 0 0] 149)) := ((((Frame.refl _ _).alloc _).alloc _).alloc _).alloc _
  have hblk : ((((w.alloc (.map #[] 0)).alloc (.map #[] 0)).alloc (.map #[] 0)).alloc (.cells #[.slice aa an ac, .slice none 0 0, .slice none 0 0, .slice (some ⟨b, o, none⟩) inn ic, .slice none 0 0, .slice none 0 0, .slice ra rn rc, .slice sa sn sc, .slice none 0 0, .slice none 0 0, .slice none 0 0, .slice none 0 0, .map (some w.heap.size), .bool false, .bool false, .map (some (w.heap.size + 1)), .map (some (w.heap.size + 1 + 1)), .slice none 0 0] 149)).heap[w.heap.size + 1 + 1 + 1]? = _ := alloc_at (by simp)
  have hmap : MapU ((((w.alloc (.map #[] 0)).alloc (.map #[] 0)).alloc (.map #[] 0)).alloc (.cells #[.slice aa an ac, .slice none 0 0, .slice none 0 0, .slice (some ⟨b, o, none⟩) inn ic, .slice none 0 0, .slice none 0 0, .slice ra rn rc, .slice sa sn sc, .slice none 0 0, .slice none 0 0, .slice none 0 0, .slice none 0 0, .map (some w.heap.size), .bool false, .bool false, .map (some (w.heap.size + 1)), .map (some (w.heap.size + 1 + 1)), .slice none 0 0] 149)) 29 .u64 w.heap.size 0 fun _ => none :=
    (MapU.made w 29 .u64).keep (((((Frame.refl no (w.alloc (.map #[] 0))).alloc _).alloc _).alloc _).block w.heap.size (by simp) id)
  have hsz : ((((w.alloc (.map #[] 0)).alloc (.map #[] 0)).alloc (.map #[] 0)).alloc (.cells #[.slice aa an ac, .slice none 0 0, .slice none 0 0, .slice (some ⟨b, o, none⟩) inn ic, .slice none 0 0, .slice none 0 0, .slice ra rn rc, .slice sa sn sc, .slice none 0 0, .slice none 0 0, .slice none 0 0, .slice none 0 0, .map (some w.heap.size), .bool false, .bool false, .map (some (w.heap.size + 1)), .map (some (w.heap.size + 1 + 1)), .slice none 0 0] 149)).heap.size = w.heap.size + 1 + 1 + 1 + 1 := by simp
  generalize ((((w.alloc (.map #[] 0)).alloc (.map #[] 0)).alloc (.map #[] 0)).alloc (.cells #[.slice aa an ac, .slice none 0 0, .slice none 0 0, .slice (some ⟨b, o, none⟩) inn ic, .slice none 0 0, .slice none 0 0, .slice ra rn rc, .slice sa sn sc, .slice none 0 0, .slice none 0 0, .slice none 0 0, .slice none 0 0, .map (some w.heap.size), .bool false, .bool false, .map (some (w.heap.size + 1)), .map (some (w.heap.size + 1 + 1)), .slice none 0 0] 149)) = w1 at *
  obtain ⟨D, hD⟩ : ∃ D, w.heap.size + 1 + 1 + 1 = D := ⟨_, rfl⟩
  rw [hD] at hblk
  simp only [hD]
  have m3 : w1.cell? ⟨D, 3, none⟩ = some (.slice (some ⟨b, o, none⟩) inn ic) := cell_of_row _ _ _ _ _ _ hblk
  replace c0 := hfa.cell c0 id; replace c1 := hfa.cell c1 id; replace c2 := hfa.cell c2 id; replace c3 := hfa.cell c3 id
  replace d0 := hfa.cell d0 id; replace d1 := hfa.cell d1 id
  have HFA := Lib.hid hfa; have HBLK := Lib.hid hblk; have HMAP := Lib.hid hmap; have HSZ := Lib.hid hsz; have HD := Lib.hid hD
  clear hfa hblk hmap hsz hD hmm
  have hd6 : decide ((inn : Int) < 6) = false := decide_eq_false (by omega)
  have hn6 : ¬ (inn : Int) < 6 := by omega
  go_upto_region 5 with fail
  have hl1 : (0 : Int) < (inn : Int) := by omega
  have hl2 : (1 : Int) < (inn : Int) := by omega
  have hl3 : (2 : Int) < (inn : Int) := by omega
  have hl4 : (3 : Int) < (inn : Int) := by omega
  have t0 : ((b0 : Int) == 255) = decide (b0 = 255) := by rw [Bool.eq_iff_iff, beq_iff_eq, decide_eq_true_eq]; omega
  have t1 : ((b1 : Int) == 255) = decide (b1 = 255) := by rw [Bool.eq_iff_iff, beq_iff_eq, decide_eq_true_eq]; omega
  have t2 : ((b2 : Int) == 255) = decide (b2 = 255) := by rw [Bool.eq_iff_iff, beq_iff_eq, decide_eq_true_eq]; omega
  have t3 : ((b3 : Int) == 255) = decide (b3 = 255) := by rw [Bool.eq_iff_iff, beq_iff_eq, decide_eq_true_eq]; omega
  have hall : (decide (b0 = 255) && (decide (b1 = 255) && (decide (b2 = 255) && decide (b3 = 255)))) = r.wide := by
    rcases HQ.out with ⟨h, h0, h1, h2, h3⟩ | ⟨h, hn⟩
    · simp [h, h0, h1, h2, h3]
    · rw [h]
      by_cases e0 : b0 = 255 <;> by_cases e1 : b1 = 255 <;> by_cases e2 : b2 = 255 <;> by_cases e3 : b3 = 255 <;> simp_all
  generalize decide (b0 = 255) = u0 at *
  generalize decide (b1 = 255) = u1 at *
  generalize decide (b2 = 255) = u2 at *
  generalize decide (b3 = 255) = u3 at *
  go_cut [84] (fun s84 wx => s84 = .bool r.wide ∧ w1 = wx)
  case first =>
    have HALL := Lib.hid hall; clear hall
    cases u0 with
    | false =>
      go_wp2_with fail
      go_meet
      case rel => exact ⟨by rw [← HALL.out]; rfl, rfl⟩
    | true =>
    cases u1 with
    | false =>
      go_wp2_with fail
      go_meet
      case rel => exact ⟨by rw [← HALL.out]; rfl, rfl⟩
    | true =>
    cases u2 with
    | false =>
      go_wp2_with fail
      go_meet
      case rel => exact ⟨by rw [← HALL.out]; rfl, rfl⟩
    | true =>
    cases u3 with
    | false =>
      go_wp2_with fail
      go_meet
      case rel => exact ⟨by rw [← HALL.out]; rfl, rfl⟩
    | true =>
      go_wp2_with fail
      go_meet
      case rel => exact ⟨by rw [← HALL.out]; rfl, rfl⟩
  case rest =>
  obtain ⟨rfl, rfl⟩ := hcut
  clear t0 t1 t2 t3 hall c0 c1 c2 c3 hl1 hl2 hl3 hl4 hd6 hn6
  go_upto_if 84 with fail
  go_cut [19] (fun s19 wx => s19 = .int .i64 (vOff r : Int) ∧ w1 = wx)
  case first =>
    cases hw : r.wide with
    | true =>
      have h14 := H14.out hw
      have hd14 : decide ((inn : Int) < 14) = false := decide_eq_false (by omega)
      have HW := Lib.hid hw; clear hw
      go_wp2_with fail
      go_meet
      case rel => exact ⟨by unfold vOff; rw [HW.out]; rfl, rfl⟩
    | false =>
      have HW := Lib.hid hw; clear hw
      go_wp2_with fail
      go_meet
      case rel => exact ⟨by unfold vOff; rw [HW.out]; rfl, rfl⟩
  case rest =>
  obtain ⟨rfl, rfl⟩ := hcut
  have hvo1 : (vOff r : Int) < (inn : Int) := by omega
  have hvo2 : (vOff r : Int) + 1 < (inn : Int) := by omega
  have hvo4 : (0 : Int) ≤ (vOff r : Int) + 1 := by omega
  have hvo3 : vOff r ≤ 12 := by unfold vOff; split <;> omega
  have hvw : wrap64 ((vOff r : Int) + 1) = (vOff r : Int) + 1 := by unfold wrap64; omega
  have hvw2 : IntKind.i64.wrap ((vOff r : Int) + 1) = (vOff r : Int) + 1 := by rw [IntKind.wrap_i64]; omega
  have hver := HV.out
  generalize hxv : (if big then 0 else r.version) = xv at *
  generalize hyv : (if big then r.version else 0) = yv at *
  have bx : ((xv : Int) == 0) = big := by rw [← hxv]; cases big <;> simp; omega
  have by' : ((yv : Int) == 0) = !big := by rw [← hyv]; cases big <;> simp; omega
  clear hxv hyv hver
  go_upto_region 9 with fail
  refine wp_region_seq no 17 [(0, true), (1, true), (2, true), (3, true), (4, true), (5, true), (6, true), (7, true), (8, true), (9, true), (10, true), (11, true), (12, true), (13, true), (14, true), (15, true), (16, true)] (by kernel_rfl) (by kernel_rfl) (fun _ _ _ d _ h => by cases d <;> exact h) ?_
  simp only [pickB, List.getElem?_toArray, List.getElem?_cons_zero, List.getElem?_cons_succ, Option.getD_some, Bool.false_eq_true, ↓reduceIte, Nat.reduceLT]
  iterate 17
    refine seq_val (v := ?_) (fun w' hX => ?_) ?_
    rotate_left
    · have x0 := hX.cell m3 id; have x1 := hX.cell d0 id; have x2 := hX.cell d1 id; clear hX; go_simp; try with_reducible rfl
    try simp only [Act.put, List.setIfInBounds_toArray, List.set_cons_zero, List.set_cons_succ]
  refine seq_nil ?_
  go_upto_block 0 with fail
  have hblk := HBLK.out
  have m13 : w1.drew.cell? ⟨D, 13, none⟩ = some (.bool false) := cell_of_row w1 _ _ _ _ _ hblk
  have m14 : w1.drew.cell? ⟨D, 14, none⟩ = some (.bool false) := cell_of_row w1 _ _ _ _ _ hblk
  have f13 : w1.drew.frozen? ⟨D, 13, none⟩ = false := by have : w1.drew.heap[D]? = _ := hblk; simp [World.frozen?, this]
  have f14 : w1.drew.frozen? ⟨D, 14, none⟩ = false := by have : w1.drew.heap[D]? = _ := hblk; simp [World.frozen?, this]
  clear m3 d0 d1 hblk hvw hvw2 hvo1 hvo2 hvo3 hvo4
  have hblkd : w1.drew.heap[D]? = _ := HBLK.out
  have HBLKd := Lib.hid hblkd; clear hblkd
  have hFd : Frame no w1 w1.drew := (Frame.refl _ _).drew
  have HFd := Lib.hid hFd; clear hFd
  generalize hwd : w1.drew = w2 at *
  clear hwd
  go_cut [114] (fun _ wx => ∃ (w5 : World), w5 = wx ∧ w5.heap[D]? = some (.cells #[.slice aa an ac, .slice none 0 0, .slice none 0 0, .slice (some ⟨b, o, none⟩) inn ic, .slice none 0 0, .slice none 0 0, .slice ra rn rc, .slice sa sn sc, .slice none 0 0, .slice none 0 0, .slice none 0 0, .slice none 0 0, .map (some w.heap.size), .bool big, .bool big, .map (some (w.heap.size + 1)), .map (some (w.heap.size + 1 + 1)), .slice none 0 0] 149) ∧ Frame (fun k => k = D) w2 w5)
  case first =>
    cases big with
    | true =>
      simp only [Bool.not_true] at by'
      go_wp2_with fail
      go_meet
      case rel =>
        refine ⟨_, rfl, ?_, Frame.set (Frame.set (Frame.refl (fun k => k = D) w2) (.inl rfl) _) (.inl rfl) _⟩
        rw [heap_setCell_row (heap_setCell_row HBLKd.out (i := 13) (.bool true)) (i := 14) (.bool true)]
        rfl
    | false =>
      simp only [Bool.not_false] at by'
      go_wp2_with fail
      go_meet
      case rel =>
        refine ⟨_, rfl, ?_, Frame.set (Frame.set (Frame.refl (fun k => k = D) w2) (.inl rfl) _) (.inl rfl) _⟩
        rw [heap_setCell_row (heap_setCell_row HBLKd.out (i := 13) (.bool false)) (i := 14) (.bool false)]
        rfl
  case rest =>
  obtain ⟨w5, rfl, hb5, hf5⟩ := hcut
  clear m13 m14 f13 f14 bx by'
  have hDe := HD.out
  have hDw : w.heap.size ≤ D := by omega
  have hFw : Frame no w w5 := (HFA.out.trans HFd.out (fun _ h => h.elim)).trans hf5 fun k hk => .inr (by rw [hk]; exact hDw)
  have hCD : ¬ w.heap.size = D := by omega
  have hm5 : MapU w5 29 .u64 w.heap.size 0 fun _ => none := (HMAP.out.keep (HFd.out.block _ HMAP.out.lt id)).keep (hf5.block _ (Nat.lt_of_lt_of_le HMAP.out.lt HFd.out.size) hCD)
  have g0 : w5.cell? ⟨D, 0, none⟩ = some (.slice aa an ac) := cell_of_row _ _ _ _ _ _ hb5
  have g3 : w5.cell? ⟨D, 3, none⟩ = some (.slice (some ⟨b, o, none⟩) inn ic) := cell_of_row _ _ _ _ _ _ hb5
  have g12 : w5.cell? ⟨D, 12, none⟩ = some (.map (some w.heap.size)) := cell_of_row _ _ _ _ _ _ hb5
  have g14 : w5.cell? ⟨D, 14, none⟩ = some (.bool big) := cell_of_row _ _ _ _ _ _ hb5
  have hsw := hFw.size
  have hcall := parseUnits_any D w.heap.size L big K KA rs abv str aa (some ⟨b, o, none⟩) an ac inn ic w5 g0 g3 g12 g14 (HA.out.keep (hFw.same fun k hk => ⟨HKA.out k hk, id⟩)) (HI.out.keep (hFw.same fun k hk => ⟨HK.out k hk, id⟩))
    (fun k hk => by have := HK.out k hk; omega) (fun k hk => by have := HKA.out k hk; omega) (fun e => hCD e.symm) hm5 (HL.out.keep hFw id id hLl) (by omega) (by omega) HOK.out HAL.out HIL.out HRL.out.2 HPW.out
  have HCALL := Lib.hid hcall; have HB5 := Lib.hid hb5; have HFW := Lib.hid hFw
  clear hcall hb5 hf5 hFw hm5 g0 g3 g12 g14 hDe
  go_wp2_with fail
  (with_reducible refine HCALL.out.mono ?_)
  rintro e w6 ⟨us, R, rfl, hus, hoff, hrow, hR, heach, hf6⟩
  clear HCALL
  have hb6 := (hf6.block D (Array.getElem?_eq_some_iff.1 HB5.out).1 (fun e => hCD e.symm)).trans HB5.out
  have g17 : w6.cell? ⟨D, 17, none⟩ = some (.slice none 0 0) := cell_of_row _ _ _ _ _ _ hb6
  have f17 : w6.frozen? ⟨D, 17, none⟩ = false := by simp [World.frozen?, hb6]
  have HB6 := Lib.hid hb6; have HROW := Lib.hid hrow; have HEACH := Lib.hid heach; have HF6 := Lib.hid hf6; have HUS := Lib.hid hus; have HOFF := Lib.hid hoff
  clear hb6 hrow heach hf6 hus hoff
  go_wp2_with fail
  go_ret2
  have hf7 : Frame (fun k => k = D) w6 (w6.setCell ⟨D, 17, none⟩ (.slice (some ⟨R, 0, none⟩) us.length us.length)) := Frame.set (Frame.refl (fun k => k = D) w6) (.inl rfl) _
  have hb7 := heap_setCell_row HB6.out (i := 17) (.slice (some ⟨R, 0, none⟩) us.length us.length)
  have hD5 : D < w5.heap.size := (Array.getElem?_eq_some_iff.1 HB5.out).1
  have hs6 := HF6.out.size
  have hs7 := hf7.size
  have hR6 : R < w6.heap.size := (Array.getElem?_eq_some_iff.1 HROW.out).1
  have hDe := HD.out
  have hlu : us.length = rs.length := by have := congrArg List.length HUS.out; simpa using this
  refine ⟨D, R, (fun k => K k ∨ KS k ∨ (w.heap.size ≤ k ∧ k < w6.heap.size)), us, _, rfl, ⟨.inr (.inr ⟨hDw, by omega⟩), .inr (.inr ⟨by omega, hR6⟩), ?_, ?_, ⟨sa, sn, sc, ?_, ?_⟩, ?_, fun u hu => ?_, fun k hk => ?_, ?_⟩, HUS.out, HOFF.out, hDw, ?_, fun k hk => ?_, hb7, rfl, ⟨fun k => KS k ∨ K k ∨ (w5.heap.size ≤ k ∧ k < w6.heap.size), fun k hk => ?_, ⟨sa, sn, sc, cell_of_row _ _ _ _ _ _ hb7, ?_⟩, fun u hu => ?_, by omega⟩⟩
  · exact cell_of_row _ _ _ _ _ _ hb7
  · exact (hf7.block R hR6 (by omega)).trans HROW.out
  · exact cell_of_row _ _ _ _ _ _ hb7
  · have h1 := ((HS.out.keep (HFW.out.same fun k hk => ⟨HKS.out k hk, id⟩)).keep (HF6.out.same fun k hk => ⟨by have := HKS.out k hk; omega, by have := HKS.out k hk; omega⟩)).keep (hf7.same fun k hk => ⟨by have := HKS.out k hk; omega, by have := HKS.out k hk; omega⟩)
    exact h1.mono fun k hk => .inr (.inl hk)
  · exact cell_of_row _ _ _ _ _ _ hb7
  · obtain ⟨q1, ⟨n, q2⟩, q3, q4⟩ := HEACH.out u hu
    refine ⟨(q1.keep (hf7.same fun k hk => ⟨by have := HK.out k hk; omega, by have := HK.out k hk; omega⟩)).mono fun k hk => .inl hk, ⟨n, (q2.keep (hf7.same fun k hk => ⟨hk.2, by have := hk.1; omega⟩) (hf7.block _ q4 (by omega))).mono fun k hk => .inr (.inr ⟨by omega, hk.2⟩)⟩, .inr (.inr ⟨by omega, q4⟩)⟩
  · rcases hk with hk | hk | hk
    · have := HK.out k hk; omega
    · have := HKS.out k hk; omega
    · omega
  · have := HRL.out; omega
  · exact (HFW.out.trans HF6.out fun k hk => .inr (by omega)).trans hf7 fun k hk => .inr (by omega)
  · rcases hk with hk | hk | hk
    · exact .inl hk
    · exact .inr (.inl hk)
    · exact .inr (.inr hk.1)
  · rcases hk with hk | hk | hk
    · have := HKS.out k hk; exact ⟨.inr (.inl hk), by omega⟩
    · have := HK.out k hk; exact ⟨.inl hk, by omega⟩
    · exact ⟨.inr (.inr ⟨by omega, hk.2⟩), by omega⟩
  · have h1 := ((HS.out.keep (HFW.out.same fun k hk => ⟨HKS.out k hk, id⟩)).keep (HF6.out.same fun k hk => ⟨by have := HKS.out k hk; omega, by have := HKS.out k hk; omega⟩)).keep (hf7.same fun k hk => ⟨by have := HKS.out k hk; omega, by have := HKS.out k hk; omega⟩)
    exact h1.mono fun k hk => .inl hk
  · obtain ⟨q1, ⟨n, q2⟩, q3, q4⟩ := HEACH.out u hu
    exact ⟨(q1.keep (hf7.same fun k hk => ⟨by have := HK.out k hk; omega, by have := HK.out k hk; omega⟩)).mono fun k hk => .inr (.inl hk), ⟨n, (q2.keep (hf7.same fun k hk => ⟨hk.2, by have := hk.1; omega⟩) (hf7.block _ q4 (by omega))).mono fun k hk => .inr (.inr hk)⟩, by omega⟩
end Go.Proofs.YtklcoppfkfenfaaGreatDoor
