/-
  The law FnPointers: it answers true. The arguments as they are read: units in memory, and how many nodes they can have.
-/
import Derived.Test.YtklcoppfkfenfaaGreatDoorFP26
import Derived.Test.YtklcoppfkfenfaaGreatDoorFP41
import Derived.Test.YtklcoppfkfenfaaGreatDoorFP11
import Derived.Test.YtklcoppfkfenfaaGreatDoorCards
import Derived.ProofKit
set_option linter.all false
set_option linter.unusedVariables false
set_option linter.unusedSimpArgs false
namespace Go.Proofs.YtklcoppfkfenfaaGreatDoor
set_option maxRecDepth 100000
open Go Go.RowKit

theorem sOffs_nm : sOffs = nmOffs := rfl
theorem sAddr_nm : sAddr = nmAddr := rfl
theorem sRngs_nm : sRngs = nmRngs := rfl

/-- what the writer makes of valid units is what the reader takes -/
theorem units_read (us : List UnitD) (big : Bool) (hP : UnitsP us) (hv : ∀ u ∈ us, u.version < 5) (hq : ∀ u ∈ us, AllN NodeQ u.root) :
    ∃ rs, (allF us (startW big)).info = rs.flatMap (URD.bytes big) ∧ (allF us (startW big)).due = rs.flatMap (fun r => r.ps.map PieceD.e) ∧ URsOk big (allF us (startW big)).abv (allF us (startW big)).str 0 rs ∧ rs.length = us.length ∧ rs.Pairwise (fun a b => a.aoff < b.aoff) ∧ Small (allF us (startW big)) 20000000 := by
  obtain ⟨p1, p2, p3, p4⟩ := hP
  have hn : ∀ u ∈ us, nodesF u.root ≤ 1000 := by
    intro u hu
    obtain ⟨i, hi, rfl⟩ := List.mem_iff_getElem.1 hu
    have h1 := nodesU_take_succ us i hi
    have h2 := nodesU_take_le us (i + 1)
    omega
  have h0 : Small (startW big) 0 := ⟨Nat.le_refl _, Nat.le_refl _, Nat.le_refl _, Nat.le_refl _, Nat.le_refl _, Nat.le_refl _, Nat.le_refl _, Nat.le_refl _, Nat.le_refl _, Nat.le_refl _, Nat.le_refl _, Nat.le_refl _, Nat.le_refl _⟩
  obtain ⟨rs, h1, h2, h3, h4, h5, _, h7, _⟩ := allF_ok (allF us (startW big)).abv (allF us (startW big)).str us (startW big) 0 (fun u hu => ⟨p4 u hu, hv u hu, hq u hu, hn u hu⟩) h0 (by omega) ⟨rfl, rfl⟩ (List.prefix_refl _) (List.prefix_refl _)
  exact ⟨rs, h1, h2, h3, h4, h5, h7.mono (by omega)⟩
theorem UnitsAt.q {d : Nat} {K : Bs} {w : World} {v : Value} {us : List UnitD} (h : UnitsAt d K w v us) : ∀ u ∈ us, AllN NodeQ u.root := by
  obtain ⟨ps, rfl, _, h3⟩ := h
  intro u hu
  obtain ⟨p, hp, rfl⟩ := List.mem_map.1 hu
  exact (h3 p hp).2.2.2.2.q

set_option maxHeartbeats 8000000 in
theorem fnPointers_any (us : List UnitD) (d L : Nat) (big : Bool) (K : Bs) (a : Option Addr) (cap : Nat) (w : World) (hu : UnitsAt (d + 1) K w (.slice a us.length cap) us) (hK : ∀ k, K k → k < w.heap.size) (hN : nodesU us ≤ 1099511627776) (hL : Laid w L) (hLl : L < w.heap.size) :
    Calls Tryz.prog 3 #[.slice a us.length cap, .bool big] w fun e w' => e = .returned (.bool true) ∧ Frame no w w' := by
  have HV := Lib.hid (validUnits_any (d + 1) K _ us w hu hK hN)
  have HQ := Lib.hid hu.q
  obtain ⟨_, _, hue, hc1, hc2, hel⟩ := hu.elem
  simp only [Value.slice.injEq, true_and] at hue
  obtain ⟨rfl, rfl⟩ := hue
  unfold maxLen at hc2
  have HU := Lib.hid hu; have HK := Lib.hid hK; have HL := Lib.hid hL; have HEL := Lib.hid hel
  clear hu hK hL hel hN
  obtain ⟨un, hun⟩ : ∃ n, n = us.length := ⟨_, rfl⟩
  by_cases hbig : 2147483647 < us.length
  · have hlit : decide ((2147483647 : Int) < (un : Int)) = true := decide_eq_true (by omega)
    rw [← hun]
    clear hbig hun hc1 hc2 HV HQ HU HEL
    go_enter Tryz.func3, Tryz.ntmps3
    go_wp2_with fail
    go_ret
    exact ⟨rfl, Frame.refl _ _⟩
  have hlit : decide ((2147483647 : Int) < (un : Int)) = false := decide_eq_false (by omega)
  rw [← hun]
  have HUN := Lib.hid hun
  have HC := Lib.hid hc2
  have HSM := Lib.hid (show us.length ≤ 2147483647 by omega)
  clear hbig hun hc1 hc2
  go_enter Tryz.func3, Tryz.ntmps3
  go_wp2_with fail
  have hvv := HV.out
  rw [← HUN.out] at hvv
  (with_reducible refine hvv.mono ?_)
  clear hvv hlit
  rintro e w1 ⟨b, rfl, hf1, hb⟩
  cases b with
  | false =>
    go_wp2_with fail
    go_ret
    exact ⟨rfl, hf1⟩
  | true =>
  have hP := hb rfl
  have HP := Lib.hid hP; have HF1 := Lib.hid hf1
  clear hb hP hf1 HV
  go_upto_block 0 with fail
  go_cut [5, 7, 22] (fun s5 _ _ wx => ∃ (w2 : World) (b : Bool), w2 = wx ∧ s5 = .bool b ∧ Frame no w wx ∧ ∀ u ∈ us, u.version ≠ 5)
  case first =>
    go_wp2_with fail
    go_loopw [5, 7, 22] (fun s5 _ i wr => ∃ (k : Nat) (b : Bool), k ≤ us.length ∧ i = .int .i64 k ∧ s5 = .bool b ∧ Frame no w wr ∧ ∀ u ∈ us.take k, u.version ≠ 5) (fun _ _ i _ => us.length - (intOf i).toNat)
    case atStart => exact ⟨0, false, Nat.zero_le _, rfl, rfl, HF1.out, by simp⟩
    case round =>
    obtain ⟨k, b, hk1, rfl, rfl, hf, hall⟩ := hrel
    by_cases hlt : k < us.length
    · obtain ⟨bb, o, x, cx, y, cy, rfl, hb, c0, c1, c2, c3, c4, c5, c6, c7, c8, c9, c10, hU⟩ := HEL.out k hlt
      replace c0 := hf.cell c0 id; replace c1 := hf.cell c1 id; replace c2 := hf.cell c2 id; replace c3 := hf.cell c3 id; replace c4 := hf.cell c4 id; replace c5 := hf.cell c5 id
      replace c6 := hf.cell c6 id; replace c7 := hf.cell c7 id; replace c8 := hf.cell c8 id; replace c9 := hf.cell c9 id; replace c10 := hf.cell c10 id
      have hn := hU.2.2.2.2.keep (hf.same fun k hk => ⟨HK.out k hk, id⟩)
      have hks : ∀ k, K k → k < wr.heap.size := fun k hk => Nat.lt_of_lt_of_le (HK.out k hk) hf.size
      have htk : ∀ u ∈ us.take (k + 1), u ∈ us.take k ∨ u = us[k] := fun u hu => by
        rw [List.take_succ_eq_append_getElem hlt] at hu
        exact (List.mem_append.1 hu).imp id fun h => List.mem_singleton.1 h
      clear hU
      have hltn : k < un := by rw [HUN.out]; exact hlt
      have hwk : wrap64 ((k : Int) + 1) = ((k + 1 : Nat) : Int) := by have := HSM.out; unfold wrap64; omega
      have HWK := Lib.hid hwk; clear hwk
      have HLT := Lib.hid (show k + 1 ≤ us.length from hlt)
      have HME := Lib.hid (show us.length - (intOf (.int .i64 ((k + 1 : Nat) : Int))).toNat < us.length - (intOf (.int .i64 (k : Int))).toNat by simp [intOf]; omega)
      generalize hA : us[k] = A at *
      have HTK := Lib.hid htk; have HALL := Lib.hid hall; have HF := Lib.hid hf
      clear htk hall hA hf
      by_cases hv : A.version = 5
      · have hv5 : (A.version == 5) = true := by rw [beq_iff_eq]; exact hv
        clear hv hn hks
        go_wp2_with fail
        go_ret
        exact ⟨rfl, HF.out.alloc _⟩
      have hv5 : (A.version == 5) = false := by rw [beq_eq_false_iff_ne]; exact hv
      have HV5 := Lib.hid hv; clear hv
      go_upto_region 11 with fail
      have hal : Frame no wr (wr.alloc (.cells #[.int .i64 A.version, .bool A.wide, .int .i64 A.address, .bool A.late, .int .u32 (A.root.tag : Int), .slice x A.root.attrs.length cx, .bool A.root.opn, .slice y A.root.kids.length cy, .bool A.typed, .int .u64 (A.signature : Int), .int .i64 A.type] 31)) := (Frame.refl _ _).alloc _
      have hg : ∀ t v, (#[.int .i64 A.version, .bool A.wide, .int .i64 A.address, .bool A.late, .int .u32 (A.root.tag : Int), .slice x A.root.attrs.length cx, .bool A.root.opn, .slice y A.root.kids.length cy, .bool A.typed, .int .u64 (A.signature : Int), .int .i64 A.type] : Array Value)[t]? = some v → (wr.alloc (.cells #[.int .i64 A.version, .bool A.wide, .int .i64 A.address, .bool A.late, .int .u32 (A.root.tag : Int), .slice x A.root.attrs.length cx, .bool A.root.opn, .slice y A.root.kids.length cy, .bool A.typed, .int .u64 (A.signature : Int), .int .i64 A.type] 31)).cell? ⟨wr.heap.size, t, none⟩ = some v := fun t v h => by rw [cell_new, h]
      have g4 := hg 4 _ rfl
      have g5 := hg 5 _ rfl
      have g6 := hg 6 _ rfl
      have g7 := hg 7 _ rfl
      have hform := hasForm_any (d + 1) K (A.root, .slice x A.root.attrs.length cx, .slice y A.root.kids.length cy) _ (hn.keep (hal.same fun k hk => ⟨hks k hk, id⟩)) (fun k hk => Nat.lt_of_lt_of_le (hks k hk) hal.size)
      dsimp only at hform
      have HFO := Lib.hid hform; have HAL := Lib.hid hal
      clear hform hal hg hn hks c0 c1 c2 c3 c4 c5 c6 c7 c8 c9 c10
      generalize (wr.alloc (.cells #[.int .i64 A.version, .bool A.wide, .int .i64 A.address, .bool A.late, .int .u32 (A.root.tag : Int), .slice x A.root.attrs.length cx, .bool A.root.opn, .slice y A.root.kids.length cy, .bool A.typed, .int .u64 (A.signature : Int), .int .i64 A.type] 31)) = w3 at *
      cases b with
      | true =>
        go_wp2_with fail
        go_roundw
        case rel => exact ⟨k + 1, true, HLT.out, congrArg (Value.int .i64) HWK.out, rfl, HF.out.trans HAL.out fun _ h => h.elim, fun u hu => (HTK.out u hu).elim (HALL.out u) fun e => e ▸ HV5.out⟩
        case measure =>
          rw [HWK.out]
          exact HME.out
      | false =>
        go_wp2_with fail
        (with_reducible refine HFO.out.mono ?_)
        rintro e w4 ⟨b4, rfl, hf4, _⟩
        go_wp2_with fail
        go_roundw
        case rel => exact ⟨k + 1, b4, HLT.out, congrArg (Value.int .i64) HWK.out, rfl, (HF.out.trans HAL.out fun _ h => h.elim).trans hf4 fun _ h => h.elim, fun u hu => (HTK.out u hu).elim (HALL.out u) fun e => e ▸ HV5.out⟩
        case measure =>
          rw [HWK.out]
          exact HME.out
    · have HT := Lib.hid (show us.take k = us from List.take_of_length_le (by omega))
      have hltn : ¬ k < un := by rw [HUN.out]; exact hlt
      have HALL := Lib.hid hall; have HF := Lib.hid hf
      clear hall hf
      go_wp2_with fail
      go_meet
      case rel => exact ⟨_, b, rfl, rfl, HF.out, by have := HALL.out; rw [HT.out] at this; exact this⟩
  case rest =>
  obtain ⟨w2, b5, rfl, rfl, hf2, hv5⟩ := hcut
  have hv : ∀ u ∈ us, u.version < 5 := fun u hu => by
    have h1 := (HP.out.2.2.2 u hu).2.2.1
    have h2 := hv5 u hu
    omega
  obtain ⟨rs, q1, q2, q3, q4, q5, q6⟩ := units_read us big HP.out hv HQ.out
  have hwr := written_any us d big K a cap w2 (HU.out.keep (hf2.same fun k hk => ⟨HK.out k hk, id⟩)) (fun k hk => Nat.lt_of_lt_of_le (HK.out k hk) hf2.size) HP.out hv
  rw [← HUN.out] at hwr
  have HWR := Lib.hid hwr; have HF2 := Lib.hid hf2; have HQ1 := Lib.hid q1; have HQ2 := Lib.hid q2; have HQ3 := Lib.hid q3; have HQ4 := Lib.hid q4; have HQ5 := Lib.hid q5; have HQ6 := Lib.hid q6
  clear hwr hf2 q1 q2 q3 q4 q5 q6 hv hv5
  cases b5 with
  | false =>
    go_wp2_with fail
    go_ret
    exact ⟨rfl, HF2.out⟩
  | true =>
  go_wp2_with fail
  (with_reducible refine HWR.out.mono ?_)
  rintro e w3 ⟨abv, info, rng, str, due, offs, units, strs, addrs, rv, m, rfl, hf3, r1, r2, r3, r4, hmb, r5, r6, r7, hdue⟩
  obtain ⟨xa, na, ca, ea⟩ : ∃ a n c, abv = .slice a n c := by obtain ⟨⟨_, a, c, h, _⟩, _⟩ := r1; exact ⟨a, _, c, h⟩
  obtain ⟨xi, ni, ci, ei⟩ : ∃ a n c, info = .slice a n c := by obtain ⟨⟨_, a, c, h, _⟩, _⟩ := r2; exact ⟨a, _, c, h⟩
  obtain ⟨xr, nr, cr, er⟩ : ∃ a n c, rng = .slice a n c := by obtain ⟨⟨_, a, c, h, _⟩, _⟩ := r3; exact ⟨a, _, c, h⟩
  obtain ⟨xs, ns, cs, es⟩ : ∃ a n c, str = .slice a n c := by obtain ⟨⟨_, a, c, h, _⟩, _⟩ := r4; exact ⟨a, _, c, h⟩
  obtain ⟨xd, dn, cd, ed⟩ : ∃ a n c, due = .slice a n c := let ⟨a, c, h, _⟩ := hdue.elem; ⟨a, _, c, h⟩
  subst ea; subst ei; subst er; subst es; subst ed
  have hq6 := HQ6.out
  have hinf := HQ1.out
  rw [hinf] at r2
  have hdl : (rs.flatMap fun r => r.ps.map PieceD.e).length ≤ 1000000000 := by rw [← HQ2.out]; exact Nat.le_trans hq6.due (by decide)
  have hmore : ∀ p ∈ [(nmOffs, strs), (nmAddr, addrs), (nmRngs, rv)], (p.1 = nmOffs ∨ p.1 = nmAddr ∨ p.1 = nmRngs) ∧ ∃ l : List Nat, Rd (fun k => k < w3.heap.size) w3 p.2 l ∧ l.length ≤ 1000000000000 := by
    intro p hp
    simp only [List.mem_cons, List.not_mem_nil, or_false] at hp
    rcases hp with rfl | rfl | rfl
    · exact ⟨.inl rfl, _, r5, Nat.le_trans hq6.strs (by decide)⟩
    · exact ⟨.inr (.inl rfl), _, r6, Nat.le_trans hq6.addrs (by decide)⟩
    · exact ⟨.inr (.inr rfl), _, r7, by rw [List.length_append]; exact Nat.le_trans (Nat.add_le_add_right hq6.rngs _) (by decide)⟩
  have hmar : Ar (fun k => k < w3.heap.size) w3 2 (.slice (some ⟨m, 0, none⟩) ([(nmOffs, strs), (nmAddr, addrs), (nmRngs, rv)] : List (ByteArray × Value)).length 3) [(nmOffs, strs), (nmAddr, addrs), (nmRngs, rv)] moreC := by
    refine Ar.ofRow (T := 125) ?_ (fun _ _ => rfl) (show 3 ≤ maxLen by decide) (Array.getElem?_eq_some_iff.1 hmb).1
    exact hmb
  have hil : (rs.flatMap (URD.bytes big)).length < 4294967280 := by rw [← hinf]; exact Nat.lt_of_le_of_lt hq6.info (by decide)
  have hal3 : Frame no w3 (w3.alloc (.cells #[.slice xa na ca, .slice xi ni ci, .slice xr nr cr, .slice xs ns cs, .slice none 0 0, .slice (some ⟨m, 0, none⟩) 3 3] 38)) := (Frame.refl _ _).alloc _
  have hsm : Same (fun k => k < w3.heap.size) w3 (w3.alloc (.cells #[.slice xa na ca, .slice xi ni ci, .slice xr nr cr, .slice xs ns cs, .slice none 0 0, .slice (some ⟨m, 0, none⟩) 3 3] 38)) := hal3.same fun k hk => ⟨hk, id⟩
  have hf03 : Frame no w w3 := HF2.out.trans hf3 fun _ h => h.elim
  have hlen := HP.out
  have hent := entries_any L big _ rs (allF us (startW big)).abv (allF us (startW big)).str (allF us (startW big)).ranges xa xi xr xs na ca ni ci nr cr ns cs (some ⟨m, 0, none⟩) 3 [(nmOffs, strs), (nmAddr, addrs), (nmRngs, rv)] _ (r1.keep hsm) (r2.keep hsm) (r3.keep hsm) (r4.keep hsm) (fun k hk => Nat.lt_of_lt_of_le hk hal3.size) (hmar.keep hsm) (fun p hp => by obtain ⟨h1, l, h2, h3⟩ := hmore p hp; exact ⟨h1, l, h2.keep hsm, h3⟩)
    ((HL.out.keep hf03 id id hLl).keep hal3 id id (Nat.lt_of_lt_of_le hLl hf03.size)) (Nat.lt_of_lt_of_le hLl (Nat.le_trans hf03.size hal3.size)) HQ3.out (Nat.lt_of_le_of_lt hq6.abv (by decide)) hil (Nat.lt_of_le_of_lt hq6.str (by decide)) (Nat.lt_of_le_of_lt hq6.ranges (by decide)) ⟨by rw [HQ4.out]; exact hlen.1, by rw [HQ4.out]; exact Nat.le_trans hlen.2.1 (by decide)⟩ HQ5.out hdl
  rw [HQ2.out] at hdue
  have hdw : EntsAt (fun k => k < w3.heap.size) (w3.alloc (.cells #[.slice xa na ca, .slice xi ni ci, .slice xr nr cr, .slice xs ns cs, .slice none 0 0, .slice (some ⟨m, 0, none⟩) 3 3] 38)) _ _ := hdue.keep hsm
  have HF3A := Lib.hid (hf03.trans hal3 fun _ h => h.elim)
  have HSZ := Lib.hid hal3.size
  rw [show ([(nmOffs, strs), (nmAddr, addrs), (nmRngs, rv)] : List (ByteArray × Value)).length = 3 from rfl] at hent
  have HEN := Lib.hid hent; have HDW := Lib.hid hdw
  clear hent hdw hal3 hsm hmar hmore hil hdl hq6 hinf hdue r1 r2 r3 r4 r5 r6 r7 hmb hf3 hf03 hlen
  go_wp2_with fail
  (with_reducible refine HEN.out.mono ?_)
  rintro e w5 ⟨v, rfl, hf5, hgot⟩
  have hdw5 := HDW.out.keep (hf5.same fun k hk => ⟨Nat.lt_of_lt_of_le hk HSZ.out, id⟩)
  have hse := same_entries _ _ _ _ _ w5 hgot hdw5 (fun k hk => hk.2) (fun k hk => Nat.lt_of_lt_of_le hk (Nat.le_trans HSZ.out hf5.size))
  obtain ⟨xv, vn, cv, ev⟩ : ∃ a n c, v = .slice a n c := let ⟨a, c, h, _⟩ := hgot.elem; ⟨a, _, c, h⟩
  subst ev
  have HSE := Lib.hid hse; have HF5 := Lib.hid (HF3A.out.trans hf5 fun _ h => h.elim)
  clear hse hf5 hgot hdw5 HEN HDW
  go_wp2_with fail
  (with_reducible refine HSE.out.mono ?_)
  rintro e w6 ⟨rfl, hf6⟩
  go_wp2_with fail
  go_ret
  exact ⟨rfl, HF5.out.trans hf6 fun _ h => h.elim⟩
end Go.Proofs.YtklcoppfkfenfaaGreatDoor
namespace Go.Proofs.YtklcoppfkfenfaaGreatDoor
set_option maxRecDepth 100000
open Go Go.RowKit

section
variable {H : Type} {enc : TypeId × Value → H} {w : World} {spare : Nat → Bool} {held : Bool}
noncomputable abbrev trodT (enc : TypeId × Value → H) (w : World) (spare : Nat → Bool) (held : Bool) (n : Nat) (t : TypeId) (cs : List Value) : Option (DataW H × List MemPlace) := DataW.trod enc Tryz.prog w 0 spare held n t cs
/-- all of memory -/
def AllK (w : World) : Bs := fun k => k < w.heap.size

theorem addr_add {b o k : Nat} : (⟨b, o, none⟩ : Addr).add k = ⟨b, o + k, none⟩ := by unfold Addr.add; split <;> simp_all
theorem cell_spot {a : Addr} {v : Value} (h : w.cell? a = some v) : a.spot = none := by
  unfold World.cell? at h
  split at h
  · cases hs : a.spot with
    | none => rfl
    | some k => rw [hs] at h; simp at h
  · cases h
theorem add_zero_addr (a : Addr) : a.add 0 = a := by simp [Addr.add]
theorem cells_get {a : Addr} {n : Nat} {cs : List Value} (h : w.cells? 0 a n = some cs) : cs.length = n ∧ ∀ i (hi : i < cs.length), w.cell? (a.add i) = some cs[i] := by
  unfold World.cells? at h
  rw [if_pos (Nat.zero_le _)] at h
  have hl : cs.length = n := by simpa using mapM_some_length h
  refine ⟨hl, fun i hi => ?_⟩
  have := mapM_some_get h i i (by rw [List.getElem?_range (by omega)])
  rw [this, List.getElem?_eq_getElem hi]

/-- the bulk of some data -/
def bulkS (l : List (DataW H)) : Nat := Rows.uptoBulkAll l
theorem bulkS_map {α : Type} (l : List α) (f : α → DataW H) : bulkS (l.map f) = (l.map fun x => Rows.uptoBulk (f x)).sum := by
  induction l with
  | nil => simp [bulkS, Rows.uptoBulkAll]
  | cons a l ih => simp only [bulkS, List.map_cons, Rows.uptoBulkAll, List.sum_cons] at ih ⊢; rw [ih]

/-- a slice as it is read -/
theorem slice_trod {t e : TypeId} {sz fuel : Nat} {cs : List Value} {x : DataW H × List MemPlace} (ht : Tryz.prog.underlying t = some (.slice e)) (hsz : Tryz.prog.cellsOf e = sz) (hpos : 0 < sz) (h : trodT enc w spare held fuel t cs = some x) :
    ∃ (a : Option Addr) (n cap m : Nat) (css : List (List Value)) (ys : List (DataW H × List MemPlace)), cs = [.slice a n cap] ∧ css.length = n ∧ ys.length = n ∧ (∀ c ∈ css, c.length = sz) ∧ Sl (AllK w) w sz (.slice a n cap) n css.flatten ∧
      (∀ i (h1 : i < css.length) (h2 : i < ys.length), trodT enc w spare held m e css[i] = some ys[i]) ∧ m < fuel ∧ (ys.map fun y => Rows.uptoBulk y.1).sum + 1 ≤ Rows.uptoBulk x.1 := by
  rcases DataW.trod_slice ht h with ⟨rfl, rfl⟩ | ⟨a, len, cap, elems, rest, n, rfl, rfl, rfl, _, hl, hm, hlen, hel, _, _⟩
  · have hf : 0 < fuel := by
      rcases Nat.eq_zero_or_pos fuel with rfl | h1
      · simp [trodT, DataW.trod] at h
      · exact h1
    exact ⟨none, 0, 0, 0, [], [], rfl, rfl, rfl, by simp, ⟨by simp, none, 0, rfl, Nat.le_refl _, Nat.zero_le _, fun _ => rfl, fun j hj => by simp at hj⟩, fun i h1 => by simp at h1, hf, by simp [Rows.uptoBulk]⟩
  · rw [hsz] at hel
    have hc : ∀ i, i < len → ∃ c, w.cells? 0 (a.add (i * sz)) sz = some c ∧ ∃ y, elems[i]? = some y ∧ trodT enc w spare held n e c = some y := by
      intro i hi
      have h1 := hel i hi
      have h2 : elems[i]? = some elems[i] := List.getElem?_eq_getElem (by omega)
      rw [h2] at h1
      obtain ⟨c, h3, h4⟩ := Option.bind_eq_some_iff.1 h1
      exact ⟨c, h3, _, h2, h4⟩
    obtain ⟨css, hcl, hget⟩ : ∃ css : List (List Value), css.length = len ∧ ∀ i (hi : i < css.length), w.cells? 0 (a.add (i * sz)) sz = some css[i] := by
      refine ⟨(List.range len).map fun i => (w.cells? 0 (a.add (i * sz)) sz).getD [], by simp, fun i hi => ?_⟩
      obtain ⟨c, h1, _⟩ := hc i (by simpa using hi)
      rw [List.getElem_map, List.getElem_range, h1]
      rfl
    have hlens : ∀ c ∈ css, c.length = sz := by
      intro c hcm
      obtain ⟨i, hi, rfl⟩ := List.mem_iff_getElem.1 hcm
      exact (cells_get (hget i hi)).1
    have hfl : css.flatten = css.flatMap id := by simp [List.flatMap_id]
    refine ⟨some a, len, cap, n, css, elems, rfl, hcl, hlen, hlens, ⟨?_, some a, cap, rfl, hl, hm, (fun e => by cases e), fun j hj => ?_⟩, fun i h1 h2 => ?_, by omega, ?_⟩
    · rw [hfl, flat_length id sz css hlens, hcl]
    · have hj' : j < len * sz := by rw [hfl, flat_length id sz css hlens, hcl] at hj; exact hj
      have hk : j / sz < len := Nat.div_lt_of_lt_mul (by rw [Nat.mul_comm]; exact hj')
      have hr : j % sz < sz := Nat.mod_lt _ hpos
      have e1 : j / sz * sz + j % sz = j := by rw [Nat.mul_comm]; exact Nat.div_add_mod j sz
      have hk' : j / sz < css.length := by rw [hcl]; exact hk
      obtain ⟨g1, g2⟩ := flat_get id sz css hlens (j / sz) (j % sz) hk' hr
      obtain ⟨q1, q2⟩ := cells_get (hget (j / sz) hk')
      have q3 := q2 (j % sz) (by rw [q1]; exact hr)
      have h0l : 0 < css.length := Nat.lt_of_le_of_lt (Nat.zero_le _) hk'
      have hsp : a.spot = none := by
        obtain ⟨r1, r2⟩ := cells_get (hget 0 h0l)
        have r3 := r2 0 (by rw [r1]; exact hpos)
        rw [Nat.zero_mul, add_zero_addr, add_zero_addr] at r3
        exact cell_spot r3
      obtain ⟨b, o, s⟩ := a
      simp only at hsp
      subst hsp
      rw [addr_add, addr_add, Nat.add_assoc, e1] at q3
      refine ⟨b, o, rfl, cell_lt q3, ?_⟩
      rw [q3]
      congr 1
      simp only [e1, id] at g2
      rw [← g2]
      simp only [hfl]
    · obtain ⟨c, h3, y, h4, h5⟩ := hc i (by omega)
      have e1 := hget i h1
      rw [h3] at e1
      obtain rfl := Option.some.inj e1
      rw [List.getElem?_eq_getElem h2] at h4
      obtain rfl := Option.some.inj h4
      exact h5
    · have h6 := bulkS_map elems (fun y => y.1)
      simp only [bulkS] at h6
      have h7 : (elems.map (·.1)) = elems.map (fun y => y.1) := rfl
      simp only [Rows.uptoBulk]
      rw [h6]
      omega
end
end Go.Proofs.YtklcoppfkfenfaaGreatDoor
