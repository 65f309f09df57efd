/-
  The program's Written, for units of versions ahead of 5.
-/
import Derived.Test.YtklcoppfkfenfaaGreatDoorFP19
import Derived.Test.YtklcoppfkfenfaaGreatDoorFP24
import Derived.Test.YtklcoppfkfenfaaGreatDoorFP25
set_option linter.all false
set_option linter.unusedVariables false
set_option linter.unusedSimpArgs false
namespace Go.Proofs.YtklcoppfkfenfaaGreatDoor
set_option maxRecDepth 100000
open Go Go.RowKit

theorem NodeAt.q {d : Nat} : ∀ {K : Bs} {w : World} {p : NodeV}, NodeAt d K w p → AllN NodeQ p.1 := by
  induction d with
  | zero => intro K w p h; exact h.elim
  | succ d ih =>
    rintro K w ⟨nd, x, y⟩ ⟨h1, ⟨ps, hps, _, hal⟩, qs, h3, h4, h5⟩
    refine (AllN_eq _ _).2 ⟨fun a ha => ?_, (AllL_iff _ _).2 fun k hk => ?_⟩
    · dsimp only at hps
      rw [← hps] at ha
      obtain ⟨p, hp, rfl⟩ := List.mem_map.1 ha
      obtain ⟨q1, q2, q3, q4, q5⟩ := hal p hp
      exact ⟨⟨q1, q2, q3, fun x hx => (q5.2 x hx).2⟩, q4.2⟩
    · dsimp only at h3
      rw [← h3] at hk
      obtain ⟨q, hq, rfl⟩ := List.mem_map.1 hk
      exact ih (h5 q hq)
/-- a state of the writer that is right for a unit -/
def OkW (st : WSt) : Prop := NoTabs st ∧ Small st 20000000
theorem unitC_old (u : UnitD) (d : Nat) (hu : UnitP u) (hv : u.version < 5) (hq : AllN NodeQ u.root) (hn : nodesF u.root ≤ 1000) : UnitC u (d + 1) OkW := by
  intro base B w V st0 K x y hW hnd hKD hok
  obtain ⟨h1, h2, h3, h4, h5, h6⟩ := hu
  have hbU : basedU u st0 = u := by unfold basedU; rw [if_pos hv]
  have hbS : basedS u st0 = st0 := by unfold basedS; rw [if_pos hv]
  obtain ⟨abs, ha1, ha2, ha3, ha4⟩ := unit_abs u h6 hv hn
  have hc := nodesF_cost u.version u.root h6
  have hsm := unitF_small u st0 20000000 ⟨h1, h2, h3, h4, h5, h6⟩ hv hq hn hok.2 (by omega) hok.1
  refine unit_any u PlainA NoTabs h1 h2 h3 h4 (d + 1) (based_old u d hv) base B w V st0 K x y 20000000 hW hnd hKD hok.2 (by rw [hbU]; omega) (by rw [hbU]; exact value_plain u h4) (by rw [hbU]; exact tables_old u) (by rw [hbU, hbS]; exact hsm.2.2.2) (by rw [hbU]; exact AllN_mono (fun n h a ha => (h a ha).1) _ hq) ?_ (by rw [hbU]; omega) (by rw [hbU, ha3]; omega)
  rw [hbU]
  refine AllN_mono (fun n h => ⟨fun a ha => ?_, by have := h.2.2.2; omega⟩) _ h6
  have hf := (h.1 a ha).forms hv
  have hfo := hf.2.2.1
  have h35 := hf.2.2.2.2.1
  unfold FormOk at hfo
  exact ⟨hf.2.2.2.2.2.1, (h.1 a ha).1, by omega⟩

/-- the values of an empty writer -/
def V0 (K : Bs) (kn : Value) : WV := { abv := nilS, ranges := nilS, str := nilS, info := nilS, rngs := nilS, strs := nilS, addrs := nilS, offsets := nilS, units := nilS, places := nilS, due := nilS, lists := nilS, known := kn, es := [], ls := [], D := K }
theorem V0_S {K : Bs} {kn : Value} {big : Bool} {B : Nat} : ∀ k, (V0 K kn).S (startW big) B k → k = B := by
  rintro k (h | ⟨r, hr, hk⟩)
  · exact h
  · simp [WV.rows, V0] at hr
    rcases hr with rfl | rfl | rfl | rfl | rfl | rfl | rfl | rfl | rfl | rfl | rfl | rfl <;> cases hk
theorem Wr.new {w : World} {B : Nat} {K : Bs} {big : Bool} {kn : Value} (hB : B < w.heap.size) (hK : ∀ k, K k → k < w.heap.size ∧ k ≠ B)
    (hc : w.heap[B]? = some (.cells #[.bool big, nilS, nilS, nilS, nilS, nilS, nilS, nilS, nilS, nilS, nilS, nilS, kn, nilS, nilS, .int .u32 0, nilS, nilS, nilS, .int .u64 0, .int .u64 0, .int .u64 0] 82)) : Wr w B B (V0 K kn) (startW big) := by
  have hS : ∀ k, (V0 K kn).S (startW big) B k → k = B := by
    rintro k (h | ⟨r, hr, hk⟩)
    · exact h
    · simp [WV.rows, V0] at hr
      rcases hr with rfl | rfl | rfl | rfl | rfl | rfl | rfl | rfl | rfl | rfl | rfl | rfl <;> cases hk
  refine ⟨Nat.le_refl _, hc, ⟨fun r hr => ?_, ?_, fun r hr e => ?_⟩, ⟨?_, ?_, ?_, ?_, ?_, ?_, ?_, ?_, ?_, ?_⟩, rfl, fun p hp => (by cases hp), rfl, fun p hp => (by cases hp), fun k hk => ⟨(hK k hk).1, fun e => (hK k hk).2 (hS k e)⟩⟩
  · simp [WV.rows, V0] at hr
    rcases hr with rfl | rfl | rfl | rfl | rfl | rfl | rfl | rfl | rfl | rfl | rfl | rfl <;> exact ⟨rfl, .inl ⟨rfl, rfl⟩⟩
  · simp [WV.rows, V0, Value.ownBlock]
  · simp [WV.rows, V0] at hr
    rcases hr with rfl | rfl | rfl | rfl | rfl | rfl | rfl | rfl | rfl | rfl | rfl | rfl <;> cases e
  all_goals (intro x hx; cases hx)

theorem set6 {w : World} {X : Nat} {T : TypeId} {a0 a1 a2 a3 a4 a5 : Value} (h : w.heap[X]? = some (.cells #[a0, a1, a2, a3, a4, a5] T)) (v0 v1 v2 v3 v4 v5 : Value) :
    (((((((w.setCell ⟨X, 0, none⟩ v0).setCell ⟨X, 1, none⟩ v1).setCell ⟨X, 2, none⟩ v2).setCell ⟨X, 3, none⟩ v3).setCell ⟨X, 4, none⟩ v4).setCell ⟨X, 5, none⟩ v5).drew).heap[X]? = some (.cells #[v0, v1, v2, v3, v4, v5] T) ∧
    Frame (fun k => k = X) w ((((((w.setCell ⟨X, 0, none⟩ v0).setCell ⟨X, 1, none⟩ v1).setCell ⟨X, 2, none⟩ v2).setCell ⟨X, 3, none⟩ v3).setCell ⟨X, 4, none⟩ v4).setCell ⟨X, 5, none⟩ v5).drew := by
  have h0 := heap_setCell_row h (i := 0) v0
  have h1 := heap_setCell_row h0 (i := 1) v1
  have h2 := heap_setCell_row h1 (i := 2) v2
  have h3 := heap_setCell_row h2 (i := 3) v3
  have h4 := heap_setCell_row h3 (i := 4) v4
  have h5 := heap_setCell_row h4 (i := 5) v5
  have f0 := Frame.set (b := X) (i := 0) (Frame.refl (fun k => k = X) w) (.inl rfl) v0
  have f1 := Frame.set (b := X) (i := 1) f0 (.inl rfl) v1
  have f2 := Frame.set (b := X) (i := 2) f1 (.inl rfl) v2
  have f3 := Frame.set (b := X) (i := 3) f2 (.inl rfl) v3
  have f4 := Frame.set (b := X) (i := 4) f3 (.inl rfl) v4
  have f5 := Frame.set (b := X) (i := 5) f4 (.inl rfl) v5
  refine ⟨?_, f5.drew⟩
  rw [show ∀ x : World, x.drew.heap = x.heap from fun _ => rfl, h5]
  rfl
/-- what Written leaves -/
def WrPost (us : List UnitD) (big : Bool) (w : World) (e : Ending) (w' : World) : Prop :=
  ∃ (abv info ranges str due offs units strs addrs rv : Value) (m : Nat), e = .returned (.tuple #[.agg #[abv, info, ranges, str, nilS, .slice (some ⟨m, 0, none⟩) 3 3], due, offs, units]) ∧ Frame no w w' ∧
    Rd (fun k => k < w'.heap.size) w' abv (allF us (startW big)).abv ∧ Rd (fun k => k < w'.heap.size) w' info (allF us (startW big)).info ∧ Rd (fun k => k < w'.heap.size) w' ranges (allF us (startW big)).ranges ∧ Rd (fun k => k < w'.heap.size) w' str (allF us (startW big)).str ∧
    w'.heap[m]? = some (.cells #[.string sOffs, strs, .string sAddr, addrs, .string sRngs, rv] 125) ∧ Rd (fun k => k < w'.heap.size) w' strs (allF us (startW big)).strs ∧ Rd (fun k => k < w'.heap.size) w' addrs (allF us (startW big)).addrs ∧ Rd (fun k => k < w'.heap.size) w' rv ((allF us (startW big)).rngs ++ [0]) ∧
    EntsAt (fun k => k < w'.heap.size) w' due (allF us (startW big)).due

/-- the hypotheses of the walk over all units -/
theorem all_old (us : List UnitD) (d : Nat) (big : Bool) (hP : UnitsP us) (hv : ∀ u ∈ us, u.version < 5) (hq : ∀ u ∈ us, AllN NodeQ u.root) :
    (∀ u ∈ us, u.typed = false) ∧ (∀ u ∈ us, UnitC u (d + 1) OkW) ∧ (∀ k, k < us.length → OkW (allF (us.take k) (startW big))) ∧ Small (allF us (startW big)) 20000000 := by
  obtain ⟨p1, p2, p3, p4⟩ := hP
  have hn : ∀ u ∈ us, nodesF u.root ≤ 1000 := by
    intro u hu
    obtain ⟨i, hi, rfl⟩ := List.mem_iff_getElem.1 hu
    have h1 := nodesU_take_succ us i hi
    have h2 := nodesU_take_le us (i + 1)
    omega
  have h0 : Small (startW big) 0 := ⟨Nat.le_refl _, Nat.le_refl _, Nat.le_refl _, Nat.le_refl _, Nat.le_refl _, Nat.le_refl _, Nat.le_refl _, Nat.le_refl _, Nat.le_refl _, Nat.le_refl _, Nat.le_refl _, Nat.le_refl _, Nat.le_refl _⟩
  have hs : ∀ us' : List UnitD, (∀ u ∈ us', u ∈ us) → us'.length ≤ 4 → OkW (allF us' (startW big)) := by
    intro us' hsub hl
    obtain ⟨_, _, _, _, _, _, _, h7, h8, _⟩ := allF_ok (allF us' (startW big)).abv (allF us' (startW big)).str us' (startW big) 0 (fun u hu => ⟨p4 u (hsub u hu), hv u (hsub u hu), hq u (hsub u hu), hn u (hsub u hu)⟩) h0 (by omega) ⟨rfl, rfl⟩ (List.prefix_refl _) (List.prefix_refl _)
    exact ⟨h8, h7.mono (by omega)⟩
  refine ⟨fun u hu => (p4 u hu).1, fun u hu => unitC_old u d (p4 u hu) (hv u hu) (hq u hu) (hn u hu), fun k hk => hs _ (fun u hu => List.mem_of_mem_take hu) (by rw [List.length_take]; omega), (hs us (fun _ h => h) p2).2⟩

set_option maxHeartbeats 8000000 in
theorem written_any (us : List UnitD) (d : Nat) (big : Bool) (K : Bs) (a : Option Addr) (cap : Nat) (w : World) (hu : UnitsAt (d + 1) K w (.slice a us.length cap) us) (hK : ∀ k, K k → k < w.heap.size) (hP : UnitsP us) (hv : ∀ u ∈ us, u.version < 5) :
    Calls Tryz.prog 10 #[.slice a us.length cap, .bool big] w (WrPost us big w) := by
  have hq : ∀ u ∈ us, AllN NodeQ u.root := by
    obtain ⟨ps, rfl, _, h3⟩ := hu
    intro u hu
    obtain ⟨p, hp, rfl⟩ := List.mem_map.1 hu
    exact (h3 p hp).2.2.2.2.q
  obtain ⟨h1, h2, h3, h4⟩ := all_old us d big hP hv hq
  have hrng : (allF us (startW big)).rngs.length ≤ 50000000 := Nat.le_trans h4.rngs (by decide)
  have HALL := Lib.hid (fun (B : Nat) (w : World) (kn : Value) (hW : Wr w B B (V0 K kn) (startW big)) (hu : UnitsAt (d + 1) K w (.slice a us.length cap) us) => all_any us (d + 1) OkW (startW big) h1 h2 h3 hrng B B w (V0 K kn) K (.slice a us.length cap) hW hu fun _ h => h)
  have HU := Lib.hid hu; have HK := Lib.hid hK
  clear h1 h2 h3 h4 hrng hq hP hv hu hK
  generalize hst : allF us (startW big) = st at *
  obtain ⟨un, hun⟩ : ∃ n, n = us.length := ⟨_, rfl⟩
  have HST := Lib.hid hst; clear hst
  go_enter Tryz.func10, Tryz.ntmps10
  go_wp2_with fail
  have hal1 : Frame no w (w.alloc (.cells #[.slice none 0 0, .slice none 0 0, .slice none 0 0, .slice none 0 0, .slice none 0 0, .slice none 0 0] 38)) := (Frame.refl _ _).alloc _
  have hb1 := heap_alloc_new w (.cells #[.slice none 0 0, .slice none 0 0, .slice none 0 0, .slice none 0 0, .slice none 0 0, .slice none 0 0] 38)
  have hs1 : (w.alloc (.cells #[.slice none 0 0, .slice none 0 0, .slice none 0 0, .slice none 0 0, .slice none 0 0, .slice none 0 0] 38)).heap.size = w.heap.size + 1 := by simp
  generalize (w.alloc (.cells #[.slice none 0 0, .slice none 0 0, .slice none 0 0, .slice none 0 0, .slice none 0 0, .slice none 0 0] 38)) = w1 at *
  have hal2 : Frame no w1 (w1.alloc (.cells #[.bool big, .slice none 0 0, .slice none 0 0, .slice none 0 0, .slice none 0 0, .slice none 0 0, .slice none 0 0, .slice none 0 0, .slice none 0 0, .slice none 0 0, .slice none 0 0, .slice none 0 0, .slice none 0 0, .slice none 0 0, .slice none 0 0, .int .u32 0, .slice none 0 0, .slice none 0 0, .slice none 0 0, .int .u64 0, .int .u64 0, .int .u64 0] 82)) := (Frame.refl _ _).alloc _
  have hb2 := heap_alloc_new w1 (.cells #[.bool big, .slice none 0 0, .slice none 0 0, .slice none 0 0, .slice none 0 0, .slice none 0 0, .slice none 0 0, .slice none 0 0, .slice none 0 0, .slice none 0 0, .slice none 0 0, .slice none 0 0, .slice none 0 0, .slice none 0 0, .slice none 0 0, .int .u32 0, .slice none 0 0, .slice none 0 0, .slice none 0 0, .int .u64 0, .int .u64 0, .int .u64 0] 82)
  have hs2 : (w1.alloc (.cells #[.bool big, .slice none 0 0, .slice none 0 0, .slice none 0 0, .slice none 0 0, .slice none 0 0, .slice none 0 0, .slice none 0 0, .slice none 0 0, .slice none 0 0, .slice none 0 0, .slice none 0 0, .slice none 0 0, .slice none 0 0, .slice none 0 0, .int .u32 0, .slice none 0 0, .slice none 0 0, .slice none 0 0, .int .u64 0, .int .u64 0, .int .u64 0] 82)).heap.size = w.heap.size + 1 + 1 := by simp [hs1]
  rw [hs1] at hb2
  have hb12 := (hal2.block w.heap.size (by omega) id).trans hb1
  generalize (w1.alloc (.cells #[.bool big, .slice none 0 0, .slice none 0 0, .slice none 0 0, .slice none 0 0, .slice none 0 0, .slice none 0 0, .slice none 0 0, .slice none 0 0, .slice none 0 0, .slice none 0 0, .slice none 0 0, .slice none 0 0, .slice none 0 0, .slice none 0 0, .int .u32 0, .slice none 0 0, .slice none 0 0, .slice none 0 0, .int .u64 0, .int .u64 0, .int .u64 0] 82)) = w2 at *
  obtain ⟨B1, hB1⟩ : ∃ B, w.heap.size + 1 = B := ⟨_, rfl⟩
  obtain ⟨S0, hS0⟩ : ∃ B, w.heap.size = B := ⟨_, rfl⟩
  rw [hB1] at hb2
  rw [hS0] at hb12
  simp only [hB1]
  have hf2 : Frame no w w2 := hal1.trans hal2 fun _ h => h.elim
  have hK2 : ∀ k, K k → k < w2.heap.size ∧ k ≠ B1 := fun k hk => by have := HK.out k hk; omega
  have hall1 := HALL.out B1 w2 (.slice none 0 0) (Wr.new (by omega) hK2 hb2) (HU.out.keep (hf2.same fun k hk => ⟨HK.out k hk, id⟩))
  have HA1 := Lib.hid hall1; have HF2 := Lib.hid hf2; have HB12 := Lib.hid hb12; have HS0 := Lib.hid hS0; have HB1 := Lib.hid hB1; have HS2 := Lib.hid hs2
  clear hall1 hf2 hal1 hal2 hb1 hb2 hb12 hs1 hs2 hK2 hS0 hB1
  rw [show w.heap.size = S0 from HS0.out]
  (with_reducible refine HA1.out.mono ?_)
  rintro e w4 ⟨rfl, V1, w3, m1, rv1, hto1, hf34, hblk4, hm1, hmb1, hrv1⟩
  have hB1e := HB1.out
  have hS0e := HS0.out
  have hs2e := HS2.out
  have hS1 : ∀ k, (V0 K nilS).S (startW big) B1 k → k = B1 := V0_S
  have hf24 : Frame (fun k => k = B1) w2 w4 := (hto1.frame.mono fun k hk => .inl (hS1 k hk)).trans' hf34
  have hf04 : Frame no w w4 := HF2.out.trans hf24 fun k hk => .inr (by have e : k = B1 := hk; omega)
  have hSb4 := (hf24.block S0 (by omega) (by omega)).trans HB12.out
  obtain ⟨oa, oc, hov⟩ := ownsRow_shape (hto1.wr.rows.own ⟨V1.offsets, 24, 1, st.offsets.length, uv st.offsets⟩ (by simp))
  dsimp only at hov
  have k11 : w4.cell? ⟨B1, 11, none⟩ = some (.slice oa st.offsets.length oc) := by rw [← hov]; exact cell_of_row w4 B1 11 _ _ _ hblk4
  obtain ⟨on, hon⟩ : ∃ n, n = st.offsets.length := ⟨_, rfl⟩
  rw [← hon] at k11
  have HF04 := Lib.hid hf04; have HSB4 := Lib.hid hSb4
  clear hto1 hf34 hblk4 hm1 hmb1 hrv1 hS1 hf24 hf04 hSb4 hov hon HA1
  go_wp2_with fail
  have hal5 : Frame no w4 (w4.alloc (.cells #[.bool big, .slice none 0 0, .slice none 0 0, .slice none 0 0, .slice none 0 0, .slice none 0 0, .slice none 0 0, .slice none 0 0, .slice none 0 0, .slice none 0 0, .slice none 0 0, .slice none 0 0, .slice oa on oc, .slice none 0 0, .slice none 0 0, .int .u32 0, .slice none 0 0, .slice none 0 0, .slice none 0 0, .int .u64 0, .int .u64 0, .int .u64 0] 82)) := (Frame.refl _ _).alloc _
  have hb5 := heap_alloc_new w4 (.cells #[.bool big, .slice none 0 0, .slice none 0 0, .slice none 0 0, .slice none 0 0, .slice none 0 0, .slice none 0 0, .slice none 0 0, .slice none 0 0, .slice none 0 0, .slice none 0 0, .slice none 0 0, .slice oa on oc, .slice none 0 0, .slice none 0 0, .int .u32 0, .slice none 0 0, .slice none 0 0, .slice none 0 0, .int .u64 0, .int .u64 0, .int .u64 0] 82)
  have hs5 : (w4.alloc (.cells #[.bool big, .slice none 0 0, .slice none 0 0, .slice none 0 0, .slice none 0 0, .slice none 0 0, .slice none 0 0, .slice none 0 0, .slice none 0 0, .slice none 0 0, .slice none 0 0, .slice none 0 0, .slice oa on oc, .slice none 0 0, .slice none 0 0, .int .u32 0, .slice none 0 0, .slice none 0 0, .slice none 0 0, .int .u64 0, .int .u64 0, .int .u64 0] 82)).heap.size = w4.heap.size + 1 := by simp
  generalize (w4.alloc (.cells #[.bool big, .slice none 0 0, .slice none 0 0, .slice none 0 0, .slice none 0 0, .slice none 0 0, .slice none 0 0, .slice none 0 0, .slice none 0 0, .slice none 0 0, .slice none 0 0, .slice none 0 0, .slice oa on oc, .slice none 0 0, .slice none 0 0, .int .u32 0, .slice none 0 0, .slice none 0 0, .slice none 0 0, .int .u64 0, .int .u64 0, .int .u64 0] 82)) = wa at *
  obtain ⟨B2, hB2⟩ : ∃ B, w4.heap.size = B := ⟨_, rfl⟩
  rw [hB2] at hb5
  simp only [hB2]
  have hf0a : Frame no w wa := HF04.out.trans hal5 fun _ h => h.elim
  have hs4 := HF04.out.size
  have hKa : ∀ k, K k → k < wa.heap.size ∧ k ≠ B2 := fun k hk => by have := HK.out k hk; omega
  have hall2 := HALL.out B2 wa (.slice oa on oc) (Wr.new (by omega) hKa hb5) (HU.out.keep (hf0a.same fun k hk => ⟨HK.out k hk, id⟩))
  have hSba := (hal5.block S0 (Array.getElem?_eq_some_iff.1 HSB4.out).1 id).trans HSB4.out
  have HA2 := Lib.hid hall2; have HF0A := Lib.hid hf0a; have HSBA := Lib.hid hSba; have HB2 := Lib.hid hB2; have HS5 := Lib.hid hs5
  clear hall2 hf0a hal5 hb5 hKa hSba hB2 hs5 k11
  (with_reducible refine HA2.out.mono ?_)
  rintro e w6 ⟨rfl, V2, w5, m2, rv2, hto2, hf56, hblk6, hm2, hmb2, hrv2⟩
  have hB2e := HB2.out
  have hs5e := HS5.out
  have hS2 : ∀ k, (V0 K (.slice oa on oc)).S (startW big) B2 k → k = B2 := V0_S
  have hfa6 : Frame (fun k => k = B2) wa w6 := (hto2.frame.mono fun k hk => .inl (hS2 k hk)).trans' hf56
  have hf06 : Frame no w w6 := HF0A.out.trans hfa6 fun k hk => .inr (by have e : k = B2 := hk; omega)
  have hS0lt : S0 < B2 := by have := (Array.getElem?_eq_some_iff.1 HSB4.out).1; omega
  have hSb6 := (hfa6.block S0 (by omega) (by omega)).trans HSBA.out
  obtain ⟨a_abv, n_abv, c_abv, e_abv⟩ : ∃ a n c, V2.abv = .slice a n c := let ⟨a, c, h⟩ := Own.shape (w := w5) (base := B2) (l := st.abv) ⟨hto2.wr.rows.own (rowB V2.abv st.abv) (by simp), hto2.wr.ok.abv⟩; ⟨a, _, c, h⟩
  obtain ⟨a_info, n_info, c_info, e_info⟩ : ∃ a n c, V2.info = .slice a n c := let ⟨a, c, h⟩ := Own.shape (w := w5) (base := B2) (l := st.info) ⟨hto2.wr.rows.own (rowB V2.info st.info) (by simp), hto2.wr.ok.info⟩; ⟨a, _, c, h⟩
  obtain ⟨a_ranges, n_ranges, c_ranges, e_ranges⟩ : ∃ a n c, V2.ranges = .slice a n c := let ⟨a, c, h⟩ := Own.shape (w := w5) (base := B2) (l := st.ranges) ⟨hto2.wr.rows.own (rowB V2.ranges st.ranges) (by simp), hto2.wr.ok.ranges⟩; ⟨a, _, c, h⟩
  obtain ⟨a_str, n_str, c_str, e_str⟩ : ∃ a n c, V2.str = .slice a n c := let ⟨a, c, h⟩ := Own.shape (w := w5) (base := B2) (l := st.str) ⟨hto2.wr.rows.own (rowB V2.str st.str) (by simp), hto2.wr.ok.str⟩; ⟨a, _, c, h⟩
  obtain ⟨a_offsets, n_offsets, c_offsets, e_offsets⟩ : ∃ a n c, V2.offsets = .slice a n c := let ⟨a, c, h⟩ := ownsRow_shape (hto2.wr.rows.own ⟨V2.offsets, 24, 1, st.offsets.length, uv st.offsets⟩ (by simp)); ⟨a, _, c, h⟩
  obtain ⟨a_due, n_due, c_due, e_due⟩ : ∃ a n c, V2.due = .slice a n c := let ⟨a, c, h⟩ := ownsRow_shape (hto2.wr.rows.own ⟨V2.due, 96, 4, V2.es.length, V2.es.flatMap entC⟩ (by simp)); ⟨a, _, c, h⟩
  obtain ⟨a_units, n_units, c_units, e_units⟩ : ∃ a n c, V2.units = .slice a n c := let ⟨a, c, h⟩ := ownsRow_shape (hto2.wr.rows.own ⟨V2.units, 24, 1, st.units.length, uv st.units⟩ (by simp)); ⟨a, _, c, h⟩
  have k1 : w6.cell? ⟨B2, 1, none⟩ = some (.slice a_abv n_abv c_abv) := by rw [← e_abv]; exact cell_of_row w6 B2 1 _ _ _ hblk6
  have k2 : w6.cell? ⟨B2, 2, none⟩ = some (.slice a_info n_info c_info) := by rw [← e_info]; exact cell_of_row w6 B2 2 _ _ _ hblk6
  have k3 : w6.cell? ⟨B2, 3, none⟩ = some (.slice a_ranges n_ranges c_ranges) := by rw [← e_ranges]; exact cell_of_row w6 B2 3 _ _ _ hblk6
  have k4 : w6.cell? ⟨B2, 4, none⟩ = some (.slice a_str n_str c_str) := by rw [← e_str]; exact cell_of_row w6 B2 4 _ _ _ hblk6
  have k11 : w6.cell? ⟨B2, 11, none⟩ = some (.slice a_offsets n_offsets c_offsets) := by rw [← e_offsets]; exact cell_of_row w6 B2 11 _ _ _ hblk6
  have k13 : w6.cell? ⟨B2, 13, none⟩ = some (.slice a_due n_due c_due) := by rw [← e_due]; exact cell_of_row w6 B2 13 _ _ _ hblk6
  have k14 : w6.cell? ⟨B2, 14, none⟩ = some (.slice a_units n_units c_units) := by rw [← e_units]; exact cell_of_row w6 B2 14 _ _ _ hblk6
  have k5 : w6.cell? ⟨B2, 5, none⟩ = some (.slice none 0 0) := cell_of_row w6 B2 5 _ _ _ hblk6
  have k6 : w6.cell? ⟨B2, 6, none⟩ = some (.slice (some ⟨m2, 0, none⟩) 3 3) := cell_of_row w6 B2 6 _ _ _ hblk6
  have hny : ¬ B2 = S0 := by omega
  have y0 : w6.cell? ⟨S0, 0, none⟩ = some (.slice none 0 0) := cell_of_row _ _ _ _ _ _ hSb6
  have y1 : w6.cell? ⟨S0, 1, none⟩ = some (.slice none 0 0) := cell_of_row _ _ _ _ _ _ hSb6
  have y2 : w6.cell? ⟨S0, 2, none⟩ = some (.slice none 0 0) := cell_of_row _ _ _ _ _ _ hSb6
  have y3 : w6.cell? ⟨S0, 3, none⟩ = some (.slice none 0 0) := cell_of_row _ _ _ _ _ _ hSb6
  have y4 : w6.cell? ⟨S0, 4, none⟩ = some (.slice none 0 0) := cell_of_row _ _ _ _ _ _ hSb6
  have y5 : w6.cell? ⟨S0, 5, none⟩ = some (.slice none 0 0) := cell_of_row _ _ _ _ _ _ hSb6
  have hfz : ∀ i, w6.frozen? ⟨S0, i, none⟩ = false := fun i => by simp [World.frozen?, hSb6]
  have z0 := hfz 0; have z1 := hfz 1; have z2 := hfz 2; have z3 := hfz 3; have z4 := hfz 4; have z5 := hfz 5
  have HTO2 := Lib.hid hto2; have HF56 := Lib.hid hf56; have HBLK6 := Lib.hid hblk6; have HM2 := Lib.hid hm2; have HMB2 := Lib.hid hmb2; have HRV2 := Lib.hid hrv2; have HF06 := Lib.hid hf06; have HSB6 := Lib.hid hSb6; have HNY := Lib.hid hny
  have HE := Lib.hid (And.intro e_abv (And.intro e_info (And.intro e_ranges (And.intro e_str e_due))))
  clear hto2 hf56 hblk6 hm2 hmb2 hrv2 hf06 hSb6 hny hfz hS2 hfa6 e_abv e_info e_ranges e_str e_offsets e_due e_units HA2
  go_upto_region 5 with fail
  refine wp_region_seq (fun k => k = S0) 20 [(0, true), (1, true), (2, true), (3, true), (4, true), (5, true), (6, true), (7, true), (8, true), (9, true), (10, true), (11, true), (12, true), (13, true), (14, true), (15, true), (16, false), (17, true), (18, true), (19, true)] (by kernel_rfl) (by kernel_rfl) (fun _ _ _ d _ h => by cases d <;> exact h) ?_
  simp only [pickB, List.getElem?_toArray, List.getElem?_cons_zero, List.getElem?_cons_succ, Option.getD_some, Bool.false_eq_true, ↓reduceIte, Nat.reduceLT]
  iterate 16
    refine seq_val (v := ?_) (fun w' hX => ?_) ?_
    rotate_left
    · have x0 := hX.cell k1 HNY.out; have x1 := hX.cell k2 HNY.out; have x2 := hX.cell k3 HNY.out; have x3 := hX.cell k4 HNY.out; have x4 := hX.cell k5 HNY.out; have x5 := hX.cell k6 HNY.out; have x6 := hX.cell k11 HNY.out; have x7 := hX.cell k13 HNY.out; have x8 := hX.cell k14 HNY.out; clear hX; go_simp; try with_reducible rfl
    try simp only [Act.put, List.setIfInBounds_toArray, List.set_cons_zero, List.set_cons_succ]
  refine seq_new (fun KK hK => ?_)
  have x0 := y0
  go_wp2_with fail
  refine ⟨Frame.set (Frame.set (Frame.set (Frame.set (Frame.set (Frame.set (Frame.refl (fun k => k = S0) _) (.inl rfl) _) (.inl rfl) _) (.inl rfl) _) (.inl rfl) _) (.inl rfl) _) (.inl rfl) _, ?_⟩
  iterate 3
    refine seq_val (v := ?_) (fun w' hX => ?_) ?_
    rotate_left
    · clear hX; go_simp; try with_reducible rfl
    try simp only [Act.put, List.setIfInBounds_toArray, List.set_cons_zero, List.set_cons_succ]
  refine seq_nil ?_
  obtain ⟨hb7, hf67⟩ := set6 HSB6.out (.slice a_abv n_abv c_abv) (.slice a_info n_info c_info) (.slice a_ranges n_ranges c_ranges) (.slice a_str n_str c_str) (.slice none 0 0) (.slice (some ⟨m2, 0, none⟩) 3 3)
  generalize ((((((w6.setCell ⟨S0, 0, none⟩ (.slice a_abv n_abv c_abv)).setCell ⟨S0, 1, none⟩ (.slice a_info n_info c_info)).setCell ⟨S0, 2, none⟩ (.slice a_ranges n_ranges c_ranges)).setCell ⟨S0, 3, none⟩ (.slice a_str n_str c_str)).setCell ⟨S0, 4, none⟩ (.slice none 0 0)).setCell ⟨S0, 5, none⟩ (.slice (some ⟨m2, 0, none⟩) 3 3)).drew = w7 at *
  have r0 : w7.cell? ⟨S0, 0, none⟩ = some (.slice a_abv n_abv c_abv) := cell_of_row _ _ _ _ _ _ hb7
  have r1 : w7.cell? ⟨S0, 1, none⟩ = some (.slice a_info n_info c_info) := cell_of_row _ _ _ _ _ _ hb7
  have r2 : w7.cell? ⟨S0, 2, none⟩ = some (.slice a_ranges n_ranges c_ranges) := cell_of_row _ _ _ _ _ _ hb7
  have r3 : w7.cell? ⟨S0, 3, none⟩ = some (.slice a_str n_str c_str) := cell_of_row _ _ _ _ _ _ hb7
  have r4 : w7.cell? ⟨S0, 4, none⟩ = some (.slice none 0 0) := cell_of_row _ _ _ _ _ _ hb7
  have r5 : w7.cell? ⟨S0, 5, none⟩ = some (.slice (some ⟨m2, 0, none⟩) 3 3) := cell_of_row _ _ _ _ _ _ hb7
  clear hb7 y0 y1 y2 y3 y4 y5 z0 z1 z2 z3 z4 z5 k1 k2 k3 k4 k5 k6 k11 k13 k14 x0
  have HF67 := Lib.hid hf67; clear hf67
  go_wp2_with fail
  refine bodyPost_ret (v := .tuple #[.agg #[.slice a_abv n_abv c_abv, .slice a_info n_info c_info, .slice a_ranges n_ranges c_ranges, .slice a_str n_str c_str, .slice none 0 0, .slice (some ⟨m2, 0, none⟩) 3 3], .slice a_due n_due c_due, .slice a_offsets n_offsets c_offsets, .slice a_units n_units c_units]) ?_ rfl ?_
  · simp [results, Tryz.results10, go_sem, r0, r1, r2, r3, r4, r5]
  · obtain ⟨q1, q2, q3, q4, q5⟩ := HE.out
    have hwr := HTO2.out.wr
    have hf57 : Frame (fun k => k = B2 ∨ k = S0) w5 w7 := (HF56.out.mono fun k hk => .inl (.inl hk)).trans HF67.out fun k hk => .inl (.inr hk)
    have hs56 := HF56.out.size
    have hs67 := HF67.out.size
    have hsa5 := HTO2.out.frame.size
    have hrow : ∀ r ∈ V2.rows st, ∀ k, r.v.ownBlock = some k → k < w5.heap.size ∧ ¬ (k = B2 ∨ k = S0) := fun r hr k hk => by
      have h1 := hwr.rows.lt hr k hk
      have h2 : k ≠ B2 := fun e => hwr.rows.notB r hr (e ▸ hk)
      omega
    have hsec : ∀ (v : Value) (l : List Nat), rowB v l ∈ V2.rows st → IsBytes l → Rd (fun k => k < w7.heap.size) w7 v l := fun v l hr hb => by
      have ho : Own w5 B2 v l := ⟨hwr.rows.own (rowB v l) hr, hb⟩
      exact (ho.rd.keep (hf57.same fun k hk => hrow _ hr k hk)).mono fun k hk => by have := (hrow _ hr k hk).1; omega
    have hD : ∀ k, V2.D k → k < w5.heap.size ∧ ¬ (k = B2 ∨ k = S0) := fun k hk => by
      have h1 := hwr.hD k hk
      have h2 : k ≠ B2 := fun e => h1.2 (.inl e)
      rcases HTO2.out.moreD k hk with h3 | h3
      · have := HK.out k h3
        have := HS0.out
        omega
      · omega
    have hm2 := HM2.out
    obtain ⟨KR, hr1, hr2⟩ := HRV2.out
    unfold WrPost
    rw [HST.out]
    refine ⟨_, _, _, _, _, _, _, _, _, rv2, m2, rfl, HF06.out.trans HF67.out fun k hk => .inr (by rw [HS0.out]; exact Nat.le_of_eq hk.symm), ?_, ?_, ?_, ?_, (HF67.out.block m2 (Array.getElem?_eq_some_iff.1 HMB2.out).1 (by omega)).trans HMB2.out, hsec V2.strs st.strs (by simp) hwr.ok.strs, hsec V2.addrs st.addrs (by simp) hwr.ok.addrs, (hr1.keep (HF67.out.same fun k hk => ⟨(hr2 k hk).2, by have := (hr2 k hk).1; omega⟩)).mono fun k hk => Nat.lt_of_lt_of_le (hr2 k hk).2 hs67, ?_⟩
    · rw [← q1]; exact hsec V2.abv st.abv (by simp) hwr.ok.abv
    · rw [← q2]; exact hsec V2.info st.info (by simp) hwr.ok.info
    · rw [← q3]; exact hsec V2.ranges st.ranges (by simp) hwr.ok.ranges
    · rw [← q4]; exact hsec V2.str st.str (by simp) hwr.ok.str
    · rw [← q5]
      refine ⟨V2.es, hwr.due, ⟨fun _ _ => rfl, ?_⟩, fun p hp => ?_⟩
      · exact ((Sl.of_own (hwr.rows.own ⟨V2.due, 96, 4, V2.es.length, V2.es.flatMap entC⟩ (by simp))).keep (hf57.same fun k hk => hrow ⟨V2.due, 96, 4, V2.es.length, V2.es.flatMap entC⟩ (by simp) k hk)).mono fun k hk => by have := (hrow ⟨V2.due, 96, 4, V2.es.length, V2.es.flatMap entC⟩ (by simp) k hk).1; omega
      · exact ((hwr.dueAt p hp).keep (hf57.same fun k hk => hD k hk)).mono fun k hk => by have := (hD k hk).1; omega
end Go.Proofs.YtklcoppfkfenfaaGreatDoor
