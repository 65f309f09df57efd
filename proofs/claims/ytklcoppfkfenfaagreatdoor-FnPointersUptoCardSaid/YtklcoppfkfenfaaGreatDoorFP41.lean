/-
  The program's Entries.
-/
import Derived.Test.YtklcoppfkfenfaaGreatDoorFP37
import Derived.Test.YtklcoppfkfenfaaGreatDoorFP38
import Derived.Test.YtklcoppfkfenfaaGreatDoorFP39
import Derived.Test.YtklcoppfkfenfaaGreatDoorFP40
import Derived.Test.YtklcoppfkfenfaaGreatDoorFP25
set_option linter.all false
set_option linter.unusedVariables false
set_option linter.unusedSimpArgs false
namespace Go.Proofs.YtklcoppfkfenfaaGreatDoor
set_option maxRecDepth 100000
open Go Go.RowKit

theorem ValOk.kindOk {E : EnvD} {f : Nat} {b : List Nat} {kind : Int} {n : Nat} {d : List Nat} (h : ValOk E f b kind n d) (hb : b.length < 1000000000000) (hs : E.str.length < 1000000000000) : KindOk kind n d := by
  cases h with
  | addr n hn => exact .inr (.inl ⟨rfl, rfl⟩)
  | data1 n hn => exact .inl ⟨rfl, rfl, by omega⟩
  | data2 n hn => exact .inl ⟨rfl, rfl, by omega⟩
  | data4 n hn => exact .inl ⟨rfl, rfl, by omega⟩
  | data8 n hn => exact .inl ⟨rfl, rfl, hn⟩
  | text d hd => exact .inr (.inr ⟨rfl, rfl, fun x hx => (hd x hx).2, by rw [List.length_append] at hb; omega⟩)
  | strp o d r hd ho hs' =>
    refine .inr (.inr ⟨rfl, rfl, fun x hx => (hd x hx).2, ?_⟩)
    have := congrArg List.length hs'
    rw [List.length_drop, List.length_append] at this
    omega
  | sdata n hn => exact .inl ⟨rfl, rfl, hn⟩
  | udata n hn => exact .inl ⟨rfl, rfl, hn⟩
  | sec n hn =>
    refine .inl ⟨rfl, rfl, Nat.lt_of_lt_of_le hn ?_⟩
    have : 8 * wordF E.wide ≤ 64 := by unfold wordF; split <;> omega
    exact Nat.pow_le_pow_right (by decide) this
  | addrx => exact .inr (.inl ⟨rfl, rfl⟩)
  | rngx => exact .inr (.inl ⟨rfl, rfl⟩)
theorem mem_flatten_len {l : List (List Nat)} {x : List Nat} (h : x ∈ l) : x.length ≤ l.flatten.length := by
  induction l with
  | nil => cases h
  | cons y l ih =>
    rw [List.flatten_cons, List.length_append]
    rcases List.mem_cons.1 h with rfl | h
    · omega
    · have := ih h; omega
theorem piece_kinds {E : EnvD} {abs : List AbD} {off : Nat} {p : PieceD} (hp : PieceOk E abs off p) (hb : p.bytes.length < 1000000000000) (hs : E.str.length < 1000000000000) : ∀ f ∈ p.e.fields, KindOk f.kind f.n f.data := by
  rcases hp with rfl | ⟨ab, h1, h2, h3, h4, h5, h6, h7⟩
  · intro f hf; cases hf
  · intro f hf
    obtain ⟨i, hi, rfl⟩ := List.mem_iff_getElem.1 hf
    obtain ⟨l1, l2⟩ := h7.len
    have hv := (h7.at i (by omega) (by omega) hi).2.2
    refine hv.kindOk ?_ hs
    have : (p.vals[i]'(by omega)).length ≤ p.vals.flatten.length := by
      exact mem_flatten_len (List.getElem_mem _)
    rw [pieceLen] at hb
    omega
theorem PiecesOk.at {E : EnvD} {abs : List AbD} : ∀ {off : Nat} {a : List PieceD} {p : PieceD} {b : List PieceD}, PiecesOk E abs off (a ++ p :: b) → PieceOk E abs (off + (piecesB a).length) p
  | _, [], _, _, h => by simpa [piecesB] using h.1
  | off, x :: a, p, b, h => by
    have := PiecesOk.at (a := a) h.2
    rw [piecesB_cons, List.length_append, ← Nat.add_assoc]
    exact this

/-- what is asked of all units that were read -/
structure AllGood (big : Bool) (str : List Nat) (us : List UV) : Prop where
  near : ∀ u ∈ us, (u.near ∧ u.r.ps ≠ []) ∧ UrGood u.r
  ps : ∀ u ∈ us, PiecesOk (u.r.env big str) u.r.abs u.start u.r.ps ∧ ∀ p ∈ u.r.ps, p.code < 4294967296
  str : str.length < 4294967296
/-- the entries that are read ahead of unit j -/
def dueT (us : List UV) (j : Nat) : List EntryD := (us.take j).flatMap fun u => u.r.ps.map PieceD.e

/-- Entries under way -/
structure ElSt (w : World) (base B D R : Nat) (KX : Bs) (big : Bool) (str : List Nat) (us : List UV) (j : Nat) (ps1 ps2 : List PieceD) (v : Value) (wr : World) : Prop where
  lt : ∃ h : j < us.length, us[j].r.ps = ps1 ++ ps2
  dat : DatAt wr D R KX big str us
  rdr : ∀ h : j < us.length, RdrAt wr B D R KX big j (us[j].start + (piecesB ps1).length) (piecesB ps2)
  row : ∃ es : List (EntryD × Value), wr.ownsRow base 96 4 v es.length (es.flatMap entC) ∧ es.map Prod.fst = dueT us j ++ ps1.map PieceD.e ∧ ∀ p ∈ es, FieldsAt (fun k => base ≤ k ∧ k < wr.heap.size ∧ ¬ v.ownBlock = some k) wr p.2 p.1.fields
  frame : Frame no w wr
  ord : w.heap.size ≤ B ∧ B < base ∧ (∀ k, KX k → k < base) ∧ base ≤ wr.heap.size ∧ w.heap.size ≤ base

theorem UvOffs.at {big : Bool} : ∀ {off : Nat} {a : List UV} {u : UV} {b : List UV}, UvOffs big off (a ++ u :: b) → u.off = off + (a.flatMap fun x => x.r.bytes big).length
  | _, [], _, _, h => by simpa using h.1
  | off, x :: a, u, b, h => by
    have := UvOffs.at (a := a) h.2
    rw [List.flatMap_cons, List.length_append, ← Nat.add_assoc]
    exact this
theorem goods {big : Bool} {abv str : List Nat} {rs : List URD} {us : List UV} (hok : URsOk big abv str 0 rs) (hus : us.map UV.r = rs) (hoff : UvOffs big 0 us) (hil : (rs.flatMap (URD.bytes big)).length < 4294967280) (hsl : str.length < 4294967296) : AllGood big str us := by
  have hat : ∀ u ∈ us, UROk big abv str u.off u.r ∧ u.start + (piecesB u.r.ps).length < 4294967296 := by
    intro u hu
    obtain ⟨a, b, rfl⟩ := List.append_of_mem hu
    have h1 := hoff.at
    subst hus
    rw [List.map_append, List.map_cons] at hok hil
    have h2 := hok.at
    rw [map_bytes, ← h1] at h2
    refine ⟨h2, ?_⟩
    rw [List.flatMap_append, List.flatMap_cons, List.length_append, List.length_append, map_bytes, URD.bytes_length] at hil
    unfold UV.start
    omega
  refine ⟨fun u hu => ?_, fun u hu => ?_, hsl⟩
  · obtain ⟨h1, h2⟩ := hat u hu
    exact ⟨⟨⟨by have := h1.version.2; omega, h2⟩, h1.ne⟩, h1.good⟩
  · exact ⟨(hat u hu).1.ps, (hat u hu).1.codes⟩
theorem dueT_succ (us : List UV) (j : Nat) (h : j < us.length) : dueT us (j + 1) = dueT us j ++ us[j].r.ps.map PieceD.e := by
  unfold dueT; rw [List.take_succ_eq_append_getElem h, List.flatMap_append]; simp
theorem dueT_le (us : List UV) (j : Nat) : (dueT us j).length ≤ (dueT us us.length).length := by
  unfold dueT
  rw [List.take_length]
  conv => rhs; rw [← List.take_append_drop j us]
  rw [List.flatMap_append, List.length_append]; omega
def sliceLen : Value → Nat
  | .slice _ n _ => n
  | _ => 0

/-- one entry more -/
theorem ElSt.push {w wr w1 w2 w3 : World} {base B D R : Nat} {KX : Bs} {big : Bool} {str : List Nat} {us : List UV} {j j' : Nat} {ps1 ps2 ps1' : List PieceD} {p : PieceD} {ps3 : List PieceD} {v v' : Value} (h : ElSt w base B D R KX big str us j ps1 ps2 v wr)
    {fv : Value} (hj : ∃ h : j' < us.length, us[j'].r.ps = ps1' ++ p :: ps3) (hdone : dueT us j ++ ps1.map PieceD.e = dueT us j' ++ ps1'.map PieceD.e)
    (hrdr : ∀ h : j' < us.length, RdrAt w1 B D R KX big j' (us[j'].start + (piecesB (ps1' ++ [p])).length) (piecesB ps3)) (hf1 : Frame (fun k => k = B) wr w1) (hf2 : Frame no w1 w2)
    (hF : FieldsAt (fun k => w1.heap.size ≤ k ∧ k < w2.heap.size) w2 fv p.e.fields) (hf3 : Frame (fun k => v.ownBlock = some k) w2 w3)
    (hm : ∀ k, v'.ownBlock = some k → v.ownBlock = some k ∨ w2.heap.size ≤ k)
    (es : List (EntryD × Value)) (q1 : wr.ownsRow base 96 4 v es.length (es.flatMap entC)) (q2 : es.map Prod.fst = dueT us j ++ ps1.map PieceD.e) (q3 : ∀ p ∈ es, FieldsAt (fun k => base ≤ k ∧ k < wr.heap.size ∧ ¬ v.ownBlock = some k) wr p.2 p.1.fields)
    (hr : w3.ownsRow base 96 4 v' (es.length + 1) (es.flatMap entC ++ entC (p.e, fv))) :
    ElSt w base B D R KX big str us j' (ps1' ++ [p]) ps3 v' w3 := by
  obtain ⟨o1, o2, o3, o4, o5⟩ := h.ord
  obtain ⟨hj1, hj2⟩ := hj
  have hlt := q1.lt
  have hs1 := hf1.size
  have hs2 := hf2.size
  have hs3 := hf3.size
  have hKB : ∀ k, KX k → ¬ k = B := by
    obtain ⟨_, _, _, _, hb⟩ := (h.rdr h.lt.1).ex
    exact fun k hk => (hb.apart k hk).2
  have hnv : ∀ k, k < base → ¬ v.ownBlock = some k := fun k hk e => by have := (hlt k e).1; omega
  refine ⟨⟨hj1, by rw [hj2]; simp⟩, ?_, fun hh => ?_, ⟨es ++ [(p.e, fv)], by simpa using hr, ?_, fun x hx => ?_⟩, ?_, ⟨o1, o2, o3, by omega, o5⟩⟩
  · exact ((h.dat.keep hf1 hKB).keep hf2 fun _ _ => id).keep hf3 fun k hk => hnv k (o3 k hk)
  · exact ((hrdr hh).keep hf2 id fun _ _ => id).keep hf3 (hnv B o2) fun k hk => hnv k (o3 k hk)
  · rw [List.map_append, q2, hdone]; simp
  · rcases List.mem_append.1 hx with hx | hx
    · refine ((((q3 x hx).keep (hf1.same fun k hk => ⟨hk.2.1, by omega⟩)).keep (hf2.same fun k hk => ⟨by omega, id⟩)).keep (hf3.same fun k hk => ⟨by omega, hk.2.2⟩)).mono fun k hk => ⟨hk.1, by omega, fun e => ?_⟩
      rcases hm k e with e | e
      · exact hk.2.2 e
      · omega
    · simp only [List.mem_singleton] at hx
      subst hx
      refine (hF.keep (hf3.same fun k hk => ⟨hk.2, fun e => by have := (hlt k e).2; omega⟩)).mono fun k hk => ⟨by omega, by omega, fun e => ?_⟩
      rcases hm k e with e | e
      · have := (hlt k e).2; omega
      · omega
  · exact ((h.frame.trans hf1 fun k hk => .inr (by omega)).trans hf2 fun _ h => h.elim).trans hf3 fun k hk => .inr (by have := (hlt k hk).1; omega)

theorem ElSt.step {w wr : World} {base B D R : Nat} {KX : Bs} {big : Bool} {str : List Nat} {us : List UV} {j : Nat} {ps1 ps2 : List PieceD} {v : Value} (h : ElSt w base B D R KX big str us j ps1 ps2 v wr) (hg : AllGood big str us) :
    (ps2 = [] ∧ j + 1 = us.length) ∨ ∃ (j' : Nat) (ps1' : List PieceD) (p : PieceD) (ps3 : List PieceD), (∃ h : j' < us.length, us[j'].r.ps = ps1' ++ p :: ps3) ∧ dueT us j ++ ps1.map PieceD.e = dueT us j' ++ ps1'.map PieceD.e ∧
      ∃ (hj : j < us.length) (hj' : j' < us.length), ((j' = j ∧ us[j'].start + (piecesB ps1').length = us[j].start + (piecesB ps1).length ∧ piecesB ps2 = p.bytes ++ piecesB ps3) ∨ (piecesB ps2 = [] ∧ ∃ h : j + 1 < us.length, j' = j + 1 ∧ us[j'].start + (piecesB ps1').length = us[j + 1].start ∧ piecesB us[j + 1].r.ps = p.bytes ++ piecesB ps3)) := by
  obtain ⟨hj, hps⟩ := h.lt
  cases ps2 with
  | cons p ps3 => exact .inr ⟨j, ps1, p, ps3, ⟨hj, hps⟩, rfl, hj, hj, .inl ⟨rfl, rfl, rfl⟩⟩
  | nil =>
    by_cases hlt : j + 1 < us.length
    · obtain ⟨⟨_, hne⟩, _⟩ := hg.near us[j + 1] (List.getElem_mem hlt)
      cases hp : us[j + 1].r.ps with
      | nil => exact absurd hp hne
      | cons p ps3 =>
        refine .inr ⟨j + 1, [], p, ps3, ⟨hlt, by rw [hp]; rfl⟩, ?_, hj, hlt, .inr ⟨rfl, hlt, rfl, by simp [piecesB], by rw [hp]; rfl⟩⟩
        rw [dueT_succ us j hj, hps]; simp
    · exact .inl ⟨rfl, by omega⟩

set_option maxHeartbeats 8000000 in
theorem entries_any (L : Nat) (big : Bool) (K : Bs) (rs : List URD) (abv str rng : List Nat) (aa ia ra sa : Option Addr) (an ac inn ic rn rc sn sc : Nat) (ma : Option Addr) (mc : Nat) (more : List (ByteArray × Value)) (w : World)
    (ha : Rd K w (.slice aa an ac) abv) (hi : Rd K w (.slice ia inn ic) (rs.flatMap (URD.bytes big))) (hr : Rd K w (.slice ra rn rc) rng) (hs : Rd K w (.slice sa sn sc) str) (hK : ∀ k, K k → k < w.heap.size)
    (hm : Ar K w 2 (.slice ma more.length mc) more moreC) (hmore : ∀ p ∈ more, (p.1 = nmOffs ∨ p.1 = nmAddr ∨ p.1 = nmRngs) ∧ ∃ l : List Nat, Rd K w p.2 l ∧ l.length ≤ 1000000000000)
    (hL : Laid w L) (hLl : L < w.heap.size) (hok : URsOk big abv str 0 rs) (hal : abv.length < 4294967296) (hil : (rs.flatMap (URD.bytes big)).length < 4294967280) (hsl : str.length < 4294967296) (hgl : rng.length < 4294967296) (hrl : 0 < rs.length ∧ rs.length ≤ 1000) (hpw : rs.Pairwise fun a b => a.aoff < b.aoff)
    (hdl : (rs.flatMap fun r => r.ps.map PieceD.e).length ≤ 1000000000) :
    Calls Tryz.prog 11 #[.agg #[.slice aa an ac, .slice ia inn ic, .slice ra rn rc, .slice sa sn sc, .slice none 0 0, .slice ma more.length mc]] w fun e w' => ∃ v, e = .returned (.tuple #[v, .bool true]) ∧ Frame no w w' ∧
      EntsAt (fun k => w.heap.size ≤ k ∧ k < w'.heap.size) w' v (rs.flatMap fun r => r.ps.map PieceD.e) := by
  have hal1 : Frame no w (w.alloc (.cells #[.slice aa an ac, .slice ia inn ic, .slice ra rn rc, .slice sa sn sc, .slice none 0 0, .slice ma more.length mc] 38)) := (Frame.refl _ _).alloc _
  have hsm : Same K w (w.alloc (.cells #[.slice aa an ac, .slice ia inn ic, .slice ra rn rc, .slice sa sn sc, .slice none 0 0, .slice ma more.length mc] 38)) := hal1.same fun k hk => ⟨hK k hk, id⟩
  have hop := open_any L big K rs abv str rng aa ia ra sa an ac inn ic rn rc sn sc ma mc more _ (ha.keep hsm) (hi.keep hsm) (hr.keep hsm) (hs.keep hsm) (fun k hk => Nat.lt_of_lt_of_le (hK k hk) hal1.size) (hm.keep hsm) (fun p hp => by obtain ⟨h1, l, h2, h3⟩ := hmore p hp; exact ⟨h1, l, h2.keep hsm, h3⟩) (hL.keep hal1 id id hLl) (Nat.lt_of_lt_of_le hLl hal1.size) hok hal hil hsl hgl hrl hpw
  have HOP := Lib.hid hop; have HOK := Lib.hid hok; have HIL := Lib.hid hil; have HSL := Lib.hid hsl; have HF1 := Lib.hid hal1; have HDL := Lib.hid hdl; have HRL := Lib.hid hrl
  clear hop hsm hal1 ha hi hr hs hK hm hmore hL hok hal hil hsl hgl hrl hpw hdl
  go_enter Tryz.func11, Tryz.ntmps11
  go_wp2_with fail
  (with_reducible refine HOP.out.mono ?_)
  rintro e w2 ⟨D, R, KX, us, rfl, hdat, hus, hoff, hf2, hkx⟩
  have hgood := goods HOK.out hus hoff HIL.out HSL.out
  have h0 : 0 < us.length := hdat.ne.1
  have hn0 := ((hgood.near us[0] (List.getElem_mem h0)).1).1
  have HG := Lib.hid hgood; have HDAT := Lib.hid hdat; have HUS := Lib.hid hus; have HF2 := Lib.hid (HF1.out.trans hf2 fun _ h => h.elim); have HKX := Lib.hid hkx
  clear hgood hus hoff hf2 hkx HOP
  go_wp2_with fail
  (with_reducible refine (reader_any D R KX big str us w2 hdat h0 hn0).mono ?_)
  rintro e w3 ⟨B, rfl, hB, hrd, hf3⟩
  have hd3 := hdat.keep hf3 fun _ _ => id
  have HRD := Lib.hid hrd; have HF3 := Lib.hid (HF2.out.trans hf3 fun _ h => h.elim); have HD3 := Lib.hid hd3
  have hBw : w.heap.size ≤ B := Nat.le_trans HF2.out.size hB
  clear hrd hf3 hd3 hdat hn0
  go_upto_block 0 with fail
  have hst : ElSt w w3.heap.size B D R KX big str us 0 [] us[0].r.ps (.slice (some ⟨w3.heap.size, 0, none⟩) 0 0) (w3.alloc (.cells #[] 96)) := by
    have hal : Frame no w3 (w3.alloc (.cells #[] 96)) := (Frame.refl _ _).alloc _
    obtain ⟨_, _, _, _, hbb⟩ := HRD.out.ex
    exact ⟨⟨h0, rfl⟩, HD3.out.keep hal fun _ _ => id, fun _ => by simpa [piecesB] using HRD.out.keep hal id fun _ _ => id, ⟨[], World.ownsRow_made _ _ _ (Nat.le_refl _) (by decide) rfl, by simp [dueT], fun p hp => by cases hp⟩,
      HF3.out.trans hal fun _ h => h.elim, ⟨hBw, hbb.lt_size, HD3.out.lt, hal.size, HF3.out.size⟩⟩
  have HST := Lib.hid hst
  generalize hbase : w3.heap.size = base at *
  clear hst hbase
  generalize (w3.alloc (.cells #[] 96)) = w4 at *
  clear HD3 HRD
  go_wp2_with fail
  go_loopw [7, 8, 9] (fun s7 _ _ wr => ∃ (j : Nat) (ps1 ps2 : List PieceD), ElSt w base B D R KX big str us j ps1 ps2 s7 wr) (fun s7 _ _ _ => (dueT us us.length).length - sliceLen s7)
  case atStart => exact ⟨0, [], us[0].r.ps, HST.out⟩
  case round =>
  obtain ⟨j, ps1, ps2, hst⟩ := hrel
  clear HST
  obtain ⟨es, hrow, hdone, heach⟩ := hst.row
  obtain ⟨oa, oc, hov⟩ := ownsRow_shape hrow
  subst hov
  have hesl : es.length = (dueT us j).length + ps1.length := by have := congrArg List.length hdone; simpa using this
  have hjl := hst.lt.1
  have hns : us.flatMap (fun u => u.r.ps.map PieceD.e) = rs.flatMap fun r => r.ps.map PieceD.e := by rw [← HUS.out, List.flatMap_map]
  have htot : dueT us us.length = rs.flatMap fun r => r.ps.map PieceD.e := by unfold dueT; rw [List.take_length]; exact hns
  rcases hst.step HG.out with ⟨hps2, hje⟩ | ⟨j', ps1', p, ps3, hj', hdn, hj1, hj1', hw⟩
  · subst hps2
    have hcall := next_end B D R KX big str us j _ _ hst.dat (hst.rdr hjl) hje HG.out.near
    have HC := Lib.hid hcall; have HST := Lib.hid hst; have HROW := Lib.hid hrow; have HEA := Lib.hid heach; have HDN := Lib.hid hdone; have HTOT := Lib.hid htot
    have HESL := Lib.hid hesl
    clear hcall hst hrow heach hdone hns htot hesl
    go_wp2_with fail
    (with_reducible refine HC.out.mono ?_)
    rintro e w5 ⟨rfl, hf5⟩
    go_wp2_with fail
    go_ret2
    obtain ⟨o1, o2, o3, o4, o5⟩ := HST.out.ord
    have hlt := HROW.out.lt
    have hs5 := hf5.size
    have hfin : es.map Prod.fst = rs.flatMap fun r => r.ps.map PieceD.e := by
      rw [HDN.out, ← HTOT.out, ← hje, dueT_succ us j hjl, HST.out.lt.2]; simp
    have hrow5 := ownsRow_keep HROW.out (w' := w5) fun k hk => hf5.block k (hlt k hk).2 (by have := (hlt k hk).1; omega)
    refine ⟨.slice oa es.length oc, rfl, HST.out.frame.trans hf5 fun k hk => .inr (by omega), es, hfin, ⟨fun _ _ => rfl, (Sl.of_own hrow5).mono fun k hk => ⟨by have := (hlt k hk).1; omega, by have := (hlt k hk).2; omega⟩⟩, fun x hx => ?_⟩
    exact ((HEA.out x hx).keep (hf5.same fun k hk => ⟨hk.2.1, by omega⟩)).mono fun k hk => ⟨by omega, by omega⟩
  · have hpiece : PieceOk (us[j'].r.env big str) us[j'].r.abs (us[j'].start + (piecesB ps1').length) p := by
      have h1 := (HG.out.ps us[j'] (List.getElem_mem hj1')).1
      rw [hj'.2] at h1
      exact h1.at
    have hcode : p.code < 4294967296 := (HG.out.ps us[j'] (List.getElem_mem hj1')).2 p (by rw [hj'.2]; simp)
    have hcall := next_any B D R KX big str us j _ _ _ hst.dat (hst.rdr hjl) hjl HG.out.near HG.out.str j' _ p (piecesB ps3) hw hj1' hpiece hcode
    have HC := Lib.hid hcall; have HST := Lib.hid hst; have HROW := Lib.hid hrow; have HEA := Lib.hid heach; have HDN := Lib.hid hdone; have HTOT := Lib.hid htot; have HP := Lib.hid hpiece; have HJ := Lib.hid hj'; have HDD := Lib.hid hdn
    have HESL := Lib.hid hesl
    clear hcall hst hrow heach hdone hns htot hpiece hj' hdn hw hesl
    go_wp2_with fail
    (with_reducible refine HC.out.mono ?_)
    rintro e w5 ⟨E0, rfl, hE0, hent, hrd5, hf5⟩
    obtain ⟨o1, o2, o3, o4, o5⟩ := HST.out.ord
    have hlt := HROW.out.lt
    have hs5 := hf5.size
    obtain ⟨⟨hnr, _⟩, hgd⟩ := HG.out.near us[j'] (List.getElem_mem hj1')
    have hpb : p.bytes.length < 1000000000000 := by
      have h1 := hnr.2
      rw [HJ.out.2, piecesB_append, piecesB_cons, List.length_append, List.length_append] at h1
      omega
    have hsl : str.length < 1000000000000 := Nat.lt_trans HG.out.str (by decide)
    have hko : ∀ f ∈ p.e.fields, KindOk f.kind f.n f.data := piece_kinds HP.out hpb hsl
    have hshort : p.e.fields.length ≤ 1000000 := Nat.le_trans (piece_short HP.out fun ab hab => (hgd.abs ab hab).2.2) (by decide)
    have HEO := Lib.hid (entry_of E0 _ p.e w5 (fun k hk => hk.2) hent hko hshort)
    have hrow5 := ownsRow_keep HROW.out (w' := w5) fun k hk => hf5.block k (hlt k hk).2 (by have := (hlt k hk).1; omega)
    have hnum : es.length + 1 ≤ (dueT us us.length).length := by
      have h1 := dueT_le us (j' + 1)
      rw [dueT_succ us j' hj1', HJ.out.2] at h1
      have h2 := congrArg List.length HDD.out
      simp only [List.length_append, List.length_map, List.length_cons] at h1 h2
      have h3 := HESL.out
      omega
    have hmax : es.length + 1 ≤ 1000000000 := by have := HDL.out; rw [← HTOT.out] at this; omega
    have HNUM := Lib.hid hnum; have HMAX := Lib.hid hmax
    have HR5 := Lib.hid hrow5; have HRD5 := Lib.hid hrd5; have HF5 := Lib.hid hf5
    clear hrd5 hf5 hent hko hshort hpb hsl hrow5 hnum hmax hgd hnr
    go_wp2_with fail
    (with_reducible refine HEO.out.mono ?_)
    rintro e w6 ⟨fv, rfl, hf6, hfl⟩
    obtain ⟨fa, fc, hfv, _⟩ := hfl.elem
    obtain ⟨fn, hfn⟩ : ∃ n, n = p.e.fields.length := ⟨_, rfl⟩
    rw [← hfn] at hfv
    subst hfv
    have hrow6 := ownsRow_keep HR5.out (w' := w6) fun k hk => hf6.block k (HR5.out.lt k hk).2 id
    have hs6 := hf6.size
    have HFL := Lib.hid hfl; have HF6 := Lib.hid hf6; have HFN := Lib.hid hfn
    clear hfl hf6 hfn
    have hm1 := HMAX.out
    go_wp2_with (at_builtin; refine app_any info96 underlying39 rfl (by decide) rfl _ _ rfl base (.slice oa es.length oc) es.length (es.flatMap entC) rfl (hrow6.alloc _) (fun k => k = w6.heap.size) (.slice (some ⟨w6.heap.size, 0, none⟩) 1 1) 1 [.int .u32 (p.e.off : Int), .int .u32 (p.e.tag : Int), .bool p.e.children, .slice fa fn fc] rfl (Sl.laid w6 [.int .u32 (p.e.off : Int), .int .u32 (p.e.tag : Int), .bool p.e.children, .slice fa fn fc] 4 1 96 rfl (by decide)) (by intro y hy; simp at hy; rcases hy with rfl | rfl | rfl | rfl <;> rfl) (by unfold maxLen; omega) (by omega) (by simp; omega) ?_; intro v' w7 ho hg _ hm; obtain ⟨xb, xd, rfl⟩ := ownsRow_shape ho)
    have hbl : (piecesB (ps1' ++ [p])).length = (piecesB ps1').length + p.bytes.length := by
      rw [piecesB_append, List.length_append, piecesB_cons]; simp [piecesB]
    have hf67 : Frame (fun k => (Value.slice oa es.length oc).ownBlock = some k) w6 w7 := ((Frame.refl _ _).alloc _).grown hg fun k hk => .inl hk
    refine ⟨⟨j', ps1' ++ [p], ps3, HST.out.push (w2 := w6) (fv := .slice fa fn fc) HJ.out HDD.out (fun h => by rw [hbl, ← Nat.add_assoc]; exact HRD5.out) HF5.out HF6.out HFL.out hf67 (fun k hk => (hm.or k hk).imp id fun e => by simp only [World.size_alloc] at e; omega) es HROW.out HDN.out HEA.out ho⟩, ?_⟩
    have := HNUM.out
    simp only [sliceLen]
    omega
end Go.Proofs.YtklcoppfkfenfaaGreatDoor
