/-
  Walks: the writer's values, form by form (L3).
-/
import Derived.Test.YtklcoppfkfenfaaGreatDoorFP06
set_option linter.all false
set_option linter.unusedVariables false
set_option linter.unusedSimpArgs false
namespace Go.Proofs.YtklcoppfkfenfaaGreatDoor
set_option maxRecDepth 100000
open Go Go.RowKit

set_option maxHeartbeats 2000000 in
theorem value_str (base B : Nat) (w : World) (V : WV) (st : WSt) (u : UnitD) (av kv : Value) (a : AttrD) (da la : Option Addr) (dn dc ln lc : Nat) (hW : Wr w base B V st)
    (h85 : a.attr ≠ 85) (hf32 : a.form < 4294967296) (hn : a.n < 18446744073709551616) (hS : strxF a.form = -1) (hX : addrxF a.form = -1) (hR : refF a.form = false) (f1 : a.form ≤ 8) (f1' : 8 ≤ a.form) (K : Bs) (hd : Rd K w (.slice da dn dc) a.data) (hK : ∀ k, K k → V.D k) (hlen : a.data.length ≤ 1000000)
    (size : Nat) (hsz : fixedF u.version u.wide u.address a.form = (size : Int)) (hs8 : size ≤ 8) :
    Calls Tryz.prog 97 #[.pointer (some ⟨B, 0, none⟩), .agg (unitV u av kv), .agg (attrV a (.slice da dn dc) (.slice la ln lc))] w
      (ValPost base B w V st { bytes := a.data ++ [0], kind := 6, n := 0, data := a.data, st := st }) := by
  obtain ⟨attr, form, n, data, list⟩ := a
  dsimp only at *
  have hB := hW.lt
  have hbig : w.cell? ⟨B, 0, none⟩ = some (.bool st.big) := hW.cell 0
  have hstr : w.cell? ⟨B, 4, none⟩ = some V.str := hW.cell 4
  have HW := Lib.hid hW; clear hW
  have HZ := Lib.hid hsz; clear hsz
  unfold unitV attrV
  go_enter Tryz.func97, Tryz.ntmps97
  go_wp2_with fail
  (with_reducible refine (fixed_any u av kv form _ hf32).mono ?_)
  rintro e w1 ⟨rfl, hf1⟩
  rw [HZ.out]
  have c0 : w1.cell? ⟨w.heap.size, 0, none⟩ = some (.pointer (some ⟨B, 0, none⟩)) := hf1.cell (cell_alloc (cell_alloc (cell_alloc (cell_newAt rfl rfl) _) _) _) id
  have cb : w1.cell? ⟨B, 0, none⟩ = some (.bool st.big) := hf1.cell (cell_alloc (cell_alloc (cell_alloc (cell_alloc hbig _) _) _) _) id
  have u2 : w1.cell? ⟨w.heap.size + 1, 2, none⟩ = some (.int .i64 u.address) := hf1.cell (cell_alloc (cell_alloc (cell_newAt (by simp) rfl) _) _) id
  have g0 : w1.cell? ⟨w.heap.size + 1 + 1, 0, none⟩ = some (.int .u32 (attr : Int)) := hf1.cell (cell_alloc (cell_newAt (by simp) rfl) _) id
  have g1 : w1.cell? ⟨w.heap.size + 1 + 1, 1, none⟩ = some (.int .u32 (form : Int)) := hf1.cell (cell_alloc (cell_newAt (by simp) rfl) _) id
  have g2 : w1.cell? ⟨w.heap.size + 1 + 1, 2, none⟩ = some (.int .u64 (n : Int)) := hf1.cell (cell_alloc (cell_newAt (by simp) rfl) _) id
  have g3 : w1.cell? ⟨w.heap.size + 1 + 1, 3, none⟩ = some (.slice da dn dc) := hf1.cell (cell_alloc (cell_newAt (by simp) rfl) _) id
  have z0 : w1.cell? ⟨w.heap.size + 1 + 1 + 1, 0, none⟩ = some (.int .i64 0) := hf1.cell (cell_newAt (by simp) rfl) id
  have z1 : w1.cell? ⟨w.heap.size + 1 + 1 + 1, 1, none⟩ = some (.int .u64 0) := hf1.cell (cell_newAt (by simp) rfl) id
  have z2 : w1.cell? ⟨w.heap.size + 1 + 1 + 1, 2, none⟩ = some (.slice none 0 0) := hf1.cell (cell_newAt (by simp) rfl) id
  have y0 : w1.frozen? ⟨w.heap.size + 1 + 1 + 1, 0, none⟩ = false := (hf1.frozen (cell_newAt (v := .int .i64 0) (by simp) rfl) id).trans (frozen_newAt (by simp))
  have y1 : w1.frozen? ⟨w.heap.size + 1 + 1 + 1, 1, none⟩ = false := (hf1.frozen (cell_newAt (v := .int .u64 0) (by simp) rfl) id).trans (frozen_newAt (by simp))
  have y2 : w1.frozen? ⟨w.heap.size + 1 + 1 + 1, 2, none⟩ = false := (hf1.frozen (cell_newAt (v := .slice none 0 0) (by simp) rfl) id).trans (frozen_newAt (by simp))
  have hs1 := hf1.size
  simp at hs1
  have hF1 : Frame no w w1 := ((((Frame.refl no w).alloc _).alloc _).alloc _).alloc _ |>.trans hf1 (fun _ h => h.elim)
  clear hf1
  have hz0 : w.heap.size < w1.heap.size := by omega
  have hz1 : w.heap.size + 1 < w1.heap.size := by omega
  have hz2 : w.heap.size + 1 + 1 < w1.heap.size := by omega
  have hz3 : w.heap.size + 1 + 1 + 1 < w1.heap.size := by omega
  have hzB : B < w1.heap.size := by omega
  have hd1 : Rd K w1 (.slice da dn dc) data := hd.keep (hF1.same fun k hk => ⟨(HW.out.hD k (hK k hk)).1, id⟩)
  have hk1 : ∀ k, K k → k < w1.heap.size := fun k hk => by have := (HW.out.hD k (hK k hk)).1; omega
  have d2 : w.heap.size + 1 + 1 ≠ w.heap.size + 1 + 1 + 1 := by omega
  have e2 : (w1.alloc (.cells #[.int .i64 (size : Int)] 3)).drew.cell? ⟨w.heap.size + 1 + 1, 3, none⟩ = some (.slice da dn dc) := cell_alloc g3 _
  have HD := Lib.hid hd; clear hd
  have HD1 := Lib.hid hd1; clear hd1
  go_wp2_with (first
    | (go_at_call 21; ((with_reducible refine (isStrx_any form _ hf32).mono ?_); rintro e w' ⟨rfl, rfl⟩); rw [hS])
    | (go_at_call 39; ((with_reducible refine (isAddrx_any form _ hf32).mono ?_); rintro e w' ⟨rfl, rfl⟩); rw [hX])
    | (go_at_call 114; ((with_reducible refine (isReference_any form _ hf32).mono ?_); rintro e w' ⟨rfl, rfl⟩); rw [hR]))
  have rd1 : Rd K ((w1.alloc (.cells #[.int .i64 (size : Int)] 3)).alloc (.cells #[.int .u8 0] 5)) (.slice da dn dc) data := (HD1.out.alloc hk1 _).alloc (fun k hk => by have := hk1 k hk; simp; omega) _
  have hb1 : ∀ k, K k → k < ((w1.alloc (.cells #[.int .i64 (size : Int)] 3)).alloc (.cells #[.int .u8 0] 5)).heap.size := fun k hk => by have := hk1 k hk; simp; omega
  have ro1 : Rd (fun k => k = w1.heap.size + 1) ((w1.alloc (.cells #[.int .i64 (size : Int)] 3)).alloc (.cells #[.int .u8 0] 5)) (.slice (some ⟨w1.heap.size + 1, 0, none⟩) 1 1) [0] := Rd.oneAt (by simp) rfl (by decide)
  have hb2 : ∀ k, k = w1.heap.size + 1 → k < ((w1.alloc (.cells #[.int .i64 (size : Int)] 3)).alloc (.cells #[.int .u8 0] 5)).heap.size := fun k hk => by simp only [World.size_alloc] at hk ⊢; omega
  have hb3 : data.length + [0].length ≤ 1000000000000 := by simp; omega
  have hb4 : w1.heap.size + 1 + 1 = ((w1.alloc (.cells #[.int .i64 (size : Int)] 3)).alloc (.cells #[.int .u8 0] 5)).heap.size := by simp
  have HB1 := Lib.hid hb1; clear hb1
  have HB2 := Lib.hid hb2; clear hb2
  have HB3 := Lib.hid hb3; clear hb3
  have HB4 := Lib.hid hb4; clear hb4
  go_region_held3 (fun w' => w'.cell? ⟨w.heap.size + 1 + 1, 3, none⟩ = some (.slice da dn dc))
    (first | exact cell_set (cell_set (cell_set (hf2.cell (cell_alloc (cell_alloc e2 _) _) id) d2 _) d2 _) d2 _ | exact hf2.cell (cell_alloc (cell_alloc e2 _) _) id | exact cell_alloc (cell_alloc e2 _) _ | exact cell_alloc e2 _ | exact e2)
    (first
      | (go_at_call 35
         ((with_reducible refine (join2d rd1 ro1 HB1.out HB2.out HB3.out HB4.out).mono ?_); rintro e w2 ⟨a2, m2, c2, rfl, ho, hf2⟩)
         have q0 := hf2.cell (cell_alloc (cell_alloc (cell_alloc z0 (.cells #[.int .i64 (size : Int)] 3)) _) _) id
         have q1 := hf2.cell (cell_alloc (cell_alloc (cell_alloc z1 (.cells #[.int .i64 (size : Int)] 3)) _) _) id
         have q2 := hf2.cell (cell_alloc (cell_alloc (cell_alloc z2 (.cells #[.int .i64 (size : Int)] 3)) _) _) id
         have hf3 := (((Frame.refl no w1).alloc (.cells #[.int .i64 (size : Int)] 3)).alloc (.cells #[.int .u8 0] 5)).alloc (.cells #[.slice da dn dc, .slice (some ⟨w1.heap.size + 1, 0, none⟩) 1 1] 34) |>.drew.trans hf2 (fun _ h => h.elim)
         have r0 := (hf3.frozen z0 id).trans y0
         have r1 := (hf3.frozen z1 id).trans y1
         have r2 := (hf3.frozen z2 id).trans y2))
  have hs2 := hf2.size
  simp at hs2
  have hF2 : Frame no w w2 := hF1.trans hf3 (fun _ h => h.elim)
  go_wp2_with fail
  refine bodyPost_ret (v := .tuple #[.slice a2 m2 c2, .agg #[.int .i64 6, .int .u64 0, .slice da dn dc]]) ?_ rfl ?_
  · simp [results, Tryz.results97, go_sem, q0, q1, q2]
  · have hne : ∀ k, (Value.slice a2 m2 c2).ownBlock = some k → ¬ k = w.heap.size + 1 + 1 + 1 := fun k hk e => by have := (own_lt ho k hk).1; simp at this; omega
    refine valPost_pure (n := 0) HW.out (((hF2.set (.inr (by omega)) _).set (.inr (by omega)) _).set (.inr (by omega)) _) ?_ HD.out hK
    exact (ho.keep ((((Frame.refl (fun k => k = w.heap.size + 1 + 1 + 1) w2).set (.inl rfl) _).set (.inl rfl) _).set (.inl rfl) _) hne).mono_base (by simp; omega)

set_option maxHeartbeats 2000000 in
theorem value_strp (base B : Nat) (w : World) (V : WV) (st : WSt) (u : UnitD) (av kv : Value) (a : AttrD) (da la : Option Addr) (dn dc ln lc : Nat) (hW : Wr w base B V st)
    (h85 : a.attr ≠ 85) (hf32 : a.form < 4294967296) (hn : a.n < 18446744073709551616) (hS : strxF a.form = -1) (hX : addrxF a.form = -1) (hR : refF a.form = false) (f1 : a.form ≤ 14) (f1' : 14 ≤ a.form) (K : Bs) (hd : Rd K w (.slice da dn dc) a.data) (hK : ∀ k, K k → V.D k) (hlen : a.data.length ≤ 1000000) (hsl : st.str.length ≤ 100000000)
    (size : Nat) (hsz : fixedF u.version u.wide u.address a.form = (size : Int)) (hs8 : size ≤ 8) :
    Calls Tryz.prog 97 #[.pointer (some ⟨B, 0, none⟩), .agg (unitV u av kv), .agg (attrV a (.slice da dn dc) (.slice la ln lc))] w
      (ValPost base B w V st { bytes := num st.str.length size st.big, kind := 6, n := 0, data := a.data, st := { st with str := st.str ++ (a.data ++ [0]) } }) := by
  obtain ⟨attr, form, n, data, list⟩ := a
  dsimp only at *
  have hB := hW.lt
  have hbig : w.cell? ⟨B, 0, none⟩ = some (.bool st.big) := hW.cell 0
  have hstr : w.cell? ⟨B, 4, none⟩ = some V.str := hW.cell 4
  have hsown : Own w base V.str st.str := ⟨hW.rows.own (rowB V.str st.str) (by simp), hW.ok.str⟩
  obtain ⟨sa, sc, hsv⟩ := hsown.shape
  rw [hsv] at hstr
  have HSV := Lib.hid hsv; clear hsv
  have hf4 : w.frozen? ⟨B, 4, none⟩ = false := hW.frozen 4
  have HW := Lib.hid hW; clear hW
  have HZ := Lib.hid hsz; clear hsz
  unfold unitV attrV
  go_enter Tryz.func97, Tryz.ntmps97
  go_wp2_with fail
  (with_reducible refine (fixed_any u av kv form _ hf32).mono ?_)
  rintro e w1 ⟨rfl, hf1⟩
  rw [HZ.out]
  have c0 : w1.cell? ⟨w.heap.size, 0, none⟩ = some (.pointer (some ⟨B, 0, none⟩)) := hf1.cell (cell_alloc (cell_alloc (cell_alloc (cell_newAt rfl rfl) _) _) _) id
  have cb : w1.cell? ⟨B, 0, none⟩ = some (.bool st.big) := hf1.cell (cell_alloc (cell_alloc (cell_alloc (cell_alloc hbig _) _) _) _) id
  have u2 : w1.cell? ⟨w.heap.size + 1, 2, none⟩ = some (.int .i64 u.address) := hf1.cell (cell_alloc (cell_alloc (cell_newAt (by simp) rfl) _) _) id
  have g0 : w1.cell? ⟨w.heap.size + 1 + 1, 0, none⟩ = some (.int .u32 (attr : Int)) := hf1.cell (cell_alloc (cell_newAt (by simp) rfl) _) id
  have g1 : w1.cell? ⟨w.heap.size + 1 + 1, 1, none⟩ = some (.int .u32 (form : Int)) := hf1.cell (cell_alloc (cell_newAt (by simp) rfl) _) id
  have g2 : w1.cell? ⟨w.heap.size + 1 + 1, 2, none⟩ = some (.int .u64 (n : Int)) := hf1.cell (cell_alloc (cell_newAt (by simp) rfl) _) id
  have g3 : w1.cell? ⟨w.heap.size + 1 + 1, 3, none⟩ = some (.slice da dn dc) := hf1.cell (cell_alloc (cell_newAt (by simp) rfl) _) id
  have z0 : w1.cell? ⟨w.heap.size + 1 + 1 + 1, 0, none⟩ = some (.int .i64 0) := hf1.cell (cell_newAt (by simp) rfl) id
  have z1 : w1.cell? ⟨w.heap.size + 1 + 1 + 1, 1, none⟩ = some (.int .u64 0) := hf1.cell (cell_newAt (by simp) rfl) id
  have z2 : w1.cell? ⟨w.heap.size + 1 + 1 + 1, 2, none⟩ = some (.slice none 0 0) := hf1.cell (cell_newAt (by simp) rfl) id
  have y0 : w1.frozen? ⟨w.heap.size + 1 + 1 + 1, 0, none⟩ = false := (hf1.frozen (cell_newAt (v := .int .i64 0) (by simp) rfl) id).trans (frozen_newAt (by simp))
  have y1 : w1.frozen? ⟨w.heap.size + 1 + 1 + 1, 1, none⟩ = false := (hf1.frozen (cell_newAt (v := .int .u64 0) (by simp) rfl) id).trans (frozen_newAt (by simp))
  have y2 : w1.frozen? ⟨w.heap.size + 1 + 1 + 1, 2, none⟩ = false := (hf1.frozen (cell_newAt (v := .slice none 0 0) (by simp) rfl) id).trans (frozen_newAt (by simp))
  have hs1 := hf1.size
  simp at hs1
  have hF1 : Frame no w w1 := ((((Frame.refl no w).alloc _).alloc _).alloc _).alloc _ |>.trans hf1 (fun _ h => h.elim)
  have cs : w1.cell? ⟨B, 4, none⟩ = some (.slice sa st.str.length sc) := hf1.cell (cell_alloc (cell_alloc (cell_alloc (cell_alloc hstr _) _) _) _) id
  clear hf1
  have hz0 : w.heap.size < w1.heap.size := by omega
  have hz1 : w.heap.size + 1 < w1.heap.size := by omega
  have hz2 : w.heap.size + 1 + 1 < w1.heap.size := by omega
  have hz3 : w.heap.size + 1 + 1 + 1 < w1.heap.size := by omega
  have hzB : B < w1.heap.size := by omega
  have hd1 : Rd K w1 (.slice da dn dc) data := hd.keep (hF1.same fun k hk => ⟨(HW.out.hD k (hK k hk)).1, id⟩)
  have hk1 : ∀ k, K k → k < w1.heap.size := fun k hk => by have := (HW.out.hD k (hK k hk)).1; omega
  have hso1 : Own w1 base V.str st.str := hsown.keep hF1 (fun _ _ h => h)
  have HD := Lib.hid hd; clear hd
  have HD1 := Lib.hid hd1; clear hd1
  have HSO := Lib.hid hso1; clear hso1 hsown
  have d0 : B ≠ w.heap.size := by omega
  have d1 : B ≠ w.heap.size + 1 + 1 := by omega
  have e1 : (w1.alloc (.cells #[.int .i64 (size : Int)] 3)).drew.cell? ⟨w.heap.size, 0, none⟩ = some (.pointer (some ⟨B, 0, none⟩)) := cell_alloc c0 _
  have e2 : (w1.alloc (.cells #[.int .i64 (size : Int)] 3)).drew.cell? ⟨w.heap.size + 1 + 1, 3, none⟩ = some (.slice da dn dc) := cell_alloc g3 _
  have es : (w1.alloc (.cells #[.int .i64 (size : Int)] 3)).drew.cell? ⟨B, 4, none⟩ = some (.slice sa st.str.length sc) := cell_alloc cs _
  have rd1 : Rd K ((w1.alloc (.cells #[.int .i64 (size : Int)] 3)).alloc (.cells #[.int .u8 0] 5)) (.slice da dn dc) data := (HD1.out.alloc hk1 _).alloc (fun k hk => by have := hk1 k hk; simp; omega) _
  have rs1 : Rd (fun k => V.str.ownBlock = some k) ((w1.alloc (.cells #[.int .i64 (size : Int)] 3)).alloc (.cells #[.int .u8 0] 5)) (.slice sa st.str.length sc) st.str := by
    rw [← HSV.out]
    exact (HSO.out.rd.alloc (fun k hk => (own_lt HSO.out k hk).2) _).alloc (fun k hk => by have := (own_lt HSO.out k hk).2; simp; omega) _
  have ro1 : Rd (fun k => k = w1.heap.size + 1) ((w1.alloc (.cells #[.int .i64 (size : Int)] 3)).alloc (.cells #[.int .u8 0] 5)) (.slice (some ⟨w1.heap.size + 1, 0, none⟩) 1 1) [0] := Rd.oneAt (by simp) rfl (by decide)
  have HB1 : Hid (∀ k, K k → k < ((w1.alloc (.cells #[.int .i64 (size : Int)] 3)).alloc (.cells #[.int .u8 0] 5)).heap.size) := fun k hk => by have := hk1 k hk; simp; omega
  have HB2 : Hid (∀ k, k = w1.heap.size + 1 → k < ((w1.alloc (.cells #[.int .i64 (size : Int)] 3)).alloc (.cells #[.int .u8 0] 5)).heap.size) := fun k hk => by simp only [World.size_alloc] at hk ⊢; omega
  have HB5 : Hid (∀ k, V.str.ownBlock = some k → k < ((w1.alloc (.cells #[.int .i64 (size : Int)] 3)).alloc (.cells #[.int .u8 0] 5)).heap.size) := fun k hk => by have := (own_lt HSO.out k hk).2; simp; omega
  have HB3 : Hid (st.str.length + data.length + [0].length ≤ 1000000000000) := show _ ≤ _ by simp; omega
  have HB4 : Hid (w1.heap.size + 1 + 1 = ((w1.alloc (.cells #[.int .i64 (size : Int)] 3)).alloc (.cells #[.int .u8 0] 5)).heap.size) := show _ = _ by simp
  generalize hgl : st.str.length = sl at hstr cs es rs1 hsl
  have HGL := Lib.hid hgl; clear hgl
  go_wp2_with (first
    | (go_at_call 21; ((with_reducible refine (isStrx_any form _ hf32).mono ?_); rintro e w' ⟨rfl, rfl⟩); rw [hS])
    | (go_at_call 39; ((with_reducible refine (isAddrx_any form _ hf32).mono ?_); rintro e w' ⟨rfl, rfl⟩); rw [hX])
    | (go_at_call 114; ((with_reducible refine (isReference_any form _ hf32).mono ?_); rintro e w' ⟨rfl, rfl⟩); rw [hR]))
  refine wp_region_seq no 14 [(0, true), (1, true), (2, true), (3, true), (4, true), (5, true), (6, true), (7, true), (8, false), (9, false), (10, false), (11, false), (12, false), (13, true), (14, false)] (by kernel_rfl) (by kernel_rfl) (fun _ _ _ d _ h => by cases d <;> exact h) ?_
  simp only [pickB, List.getElem?_toArray, List.getElem?_cons_zero, List.getElem?_cons_succ, Option.getD_some, Bool.false_eq_true, ↓reduceIte, Nat.reduceLT]
  iterate 8
    refine seq_val (v := ?_) (fun w' hX => ?_) ?_
    rotate_left
    · have x0 := hX.cell e1 id; have x1 := hX.cell e2 id; have x2 := hX.cell es id; clear hX; go_simp; try with_reducible rfl
    try simp only [Act.put, List.setIfInBounds_toArray, List.set_cons_zero, List.set_cons_succ]
  refine seq_new (fun _ _ => ?_)
  go_wp2_with fail
  refine ⟨(Frame.refl _ _).alloc _, ?_⟩
  refine seq_new (fun _ _ => ?_)
  go_wp2_with fail
  refine ⟨(Frame.refl _ _).alloc _, ?_⟩
  refine seq_new (fun _ _ => ?_)
  go_wp2_with fail
  (with_reducible refine (join3d rs1 rd1 ro1 HB5.out HB1.out HB2.out HB3.out HB4.out).mono ?_)
  rintro e w2 ⟨a2, m2, c2, rfl, ho, hf2⟩
  have x1 := hf2.cell (cell_alloc (cell_alloc e1 (.cells #[.int .u8 0] 5)) _) id
  have hf3 := (((Frame.refl no w1).alloc (.cells #[.int .i64 (size : Int)] 3)).alloc (.cells #[.int .u8 0] 5)).alloc (.cells #[.slice sa sl sc, .slice da dn dc, .slice (some ⟨w1.heap.size + 1, 0, none⟩) 1 1] 34) |>.drew.trans hf2 (fun _ h => h.elim)
  have cB2 := hf3.cell cs id
  have fB2 : w2.frozen? ⟨B, 4, none⟩ = false := ((hF1.trans hf3 (fun _ h => h.elim)).frozen hstr id).trans hf4
  go_wp2_with fail
  refine ⟨hf2, ?_⟩
  refine seq_new (fun _ _ => ?_)
  go_wp2_with fail
  refine ⟨Frame.refl _ _, ?_⟩
  refine seq_new (fun _ _ => ?_)
  go_wp2_with fail
  refine ⟨Frame.refl _ _, ?_⟩
  iterate 1
    refine seq_val (v := ?_) (fun w' hX => ?_) ?_
    rotate_left
    · clear hX; go_simp; try with_reducible rfl
    try simp only [Act.put, List.setIfInBounds_toArray, List.set_cons_zero, List.set_cons_succ]
  refine seq_out (fun _ _ => ?_)
  go_wp2_with fail
  refine seq_nil ?_
  have hF2 : Frame no w w2 := hF1.trans hf3 (fun _ h => h.elim)
  have hsz2 := hf2.size
  simp only [World.size_alloc, World.size_drew] at hsz2
  have hS3 : ¬ ({ V with str := .slice a2 m2 c2 } : WV).S { st with str := st.str ++ (data ++ [0]) } B (w.heap.size + 1 + 1 + 1) := by
    intro e
    rcases WV.S_swap (V := V) (st := st) (l1 := [rowB V.abv st.abv, rowB V.ranges st.ranges]) (r := rowB V.str st.str) (r' := rowB (.slice a2 m2 c2) (st.str ++ (data ++ [0]))) rfl rfl _ e with e | e
    · have := (HW.out.S_lt _ e).2; omega
    · have := (own_lt ho _ e).1
      simp only [World.size_alloc, World.size_drew] at this
      omega
  have HS3 := Lib.hid hS3; clear hS3
  have hup : WrTo base B w V st (w2.setCell ⟨B, 4, none⟩ (.slice a2 m2 c2)) { V with str := .slice a2 m2 c2 } { st with str := st.str ++ (data ++ [0]) } := by
    have hw := HW.out
    refine hw.upd (l1 := [rowB V.abv st.abv, rowB V.ranges st.ranges]) (r := rowB V.str st.str) (r' := rowB (.slice a2 m2 c2) (st.str ++ (data ++ [0]))) rfl rfl rfl (Frame.of_no hF2) (.inr fun k hk => ?_) ?_ ?_ hw.due (fun p hp => .inl hp) hw.lists (fun p hp => .inl hp) (fun _ h => h) (fun _ h => .inl h)
    · have := (own_lt ho k hk).1
      simp only [World.size_alloc, World.size_drew] at this
      omega
    · exact (ho.mono_base (b := base) (by have := hw.hb; simp only [World.size_alloc, World.size_drew]; omega)).1
    · exact { hw.ok with str := ho.2 }
  have hB0 := hup.wr.cell 0
  have t1 : (w2.setCell ⟨B, 4, none⟩ (.slice a2 m2 c2)).cell? ⟨w1.heap.size, 0, none⟩ = some (.int .i64 (size : Int)) := cell_set (hf2.cell (cell_alloc (cell_alloc (cell_newAt rfl rfl) _) _) id) (Ne.symm (Nat.ne_of_lt hzB)) _
  have t2 : (w2.setCell ⟨B, 4, none⟩ (.slice a2 m2 c2)).cell? ⟨w.heap.size, 0, none⟩ = some (.pointer (some ⟨B, 0, none⟩)) := cell_set (hf3.cell c0 id) (Ne.symm d0) _
  have t3 : (w2.setCell ⟨B, 4, none⟩ (.slice a2 m2 c2)).cell? ⟨w.heap.size + 1 + 1, 3, none⟩ = some (.slice da dn dc) := cell_set (hf3.cell g3 id) (Ne.symm d1) _
  have d3 : w.heap.size + 1 + 1 + 1 ≠ B := by omega
  have t4 : (w2.setCell ⟨B, 4, none⟩ (.slice a2 m2 c2)).cell? ⟨w.heap.size + 1 + 1 + 1, 0, none⟩ = some (.int .i64 0) := cell_set (hf3.cell z0 id) d3 _
  have t5 : (w2.setCell ⟨B, 4, none⟩ (.slice a2 m2 c2)).cell? ⟨w.heap.size + 1 + 1 + 1, 1, none⟩ = some (.int .u64 0) := cell_set (hf3.cell z1 id) d3 _
  have t6 : (w2.setCell ⟨B, 4, none⟩ (.slice a2 m2 c2)).cell? ⟨w.heap.size + 1 + 1 + 1, 2, none⟩ = some (.slice none 0 0) := cell_set (hf3.cell z2 id) d3 _
  have hfs : Frame (fun k => k = B) w1 (w2.setCell ⟨B, 4, none⟩ (.slice a2 m2 c2)) := Frame.set (S := fun k => k = B) (Frame.of_no hf3) (.inl rfl) _
  have t7 := (hfs.frozen z0 d3).trans y0
  have t8 := (hfs.frozen z1 d3).trans y1
  have t9 := (hfs.frozen z2 d3).trans y2
  have hs3 := hup.frame.size
  have hs3' := hfs.size
  clear hf2 hf3 cB2 fB2 ho c0 cb u2 g0 g1 g2 g3 z0 z1 z2 y0 y1 y2 e1 e2 es rs1 rd1 ro1 x1 cs hfs hF2
  replace hB0 : (w2.setCell ⟨B, 4, none⟩ (.slice a2 m2 c2)).cell? ⟨B, 0, none⟩ = some (.bool st.big) := hB0
  go_wp2_with fail
  have hgS : ¬ ({ V with str := .slice a2 m2 c2 } : WV).S { st with str := st.str ++ (data ++ [0]) } B (w.heap.size + 1 + 1 + 1) ∧ ¬ ({ V with str := .slice a2 m2 c2 } : WV).D (w.heap.size + 1 + 1 + 1) := ⟨HS3.out, fun e => by have := (HW.out.hD _ e).1; omega⟩
  have HGS := Lib.hid hgS; clear hgS
  generalize w2.setCell ⟨B, 4, none⟩ (.slice a2 m2 c2) = w3 at *
  have HUP := Lib.hid hup; clear hup
  have hwn : IntKind.u64.wrap (sl : Int) = sl := IntWalk.u64_in _ (by omega)
  have hsl64 : sl < 18446744073709551616 := by omega
  refine wp_region_seq no 11 [(0, true), (1, true), (2, true), (3, true), (4, true), (5, true), (7, true), (8, true), (9, true), (6, false), (10, true), (11, false)] (by kernel_rfl) (by kernel_rfl) (fun _ _ _ d _ h => by cases d <;> exact h) ?_
  simp only [pickB, List.getElem?_toArray, List.getElem?_cons_zero, List.getElem?_cons_succ, Option.getD_some, Bool.false_eq_true, ↓reduceIte, Nat.reduceLT]
  iterate 9
    refine seq_val (v := ?_) (fun w' hX => ?_) ?_
    rotate_left
    · have x0 := hX.cell t1 id; have x1 := hX.cell t2 id; have x2 := hX.cell t3 id; have x3 := hX.cell hB0 id; clear hX; go_simp; try with_reducible rfl
    try simp only [Act.put, List.setIfInBounds_toArray, List.set_cons_zero, List.set_cons_succ]
  refine seq_new (fun _ _ => ?_)
  go_wp2_with fail
  (with_reducible refine (number_any sl size st.big _ hsl64 hs8).mono ?_)
  rintro e w4 ⟨a4, m4, c4, rfl, ho4, hf4⟩
  have q4 := hf4.cell t4 id
  have q5 := hf4.cell t5 id
  have q6 := hf4.cell t6 id
  have q7 := (hf4.frozen t4 id).trans t7
  have q8 := (hf4.frozen t5 id).trans t8
  have q9 := (hf4.frozen t6 id).trans t9
  go_wp2_with fail
  refine ⟨hf4, ?_⟩
  iterate 1
    refine seq_val (v := ?_) (fun w' hX => ?_) ?_
    rotate_left
    · clear hX; go_simp; try with_reducible rfl
    try simp only [Act.put, List.setIfInBounds_toArray, List.set_cons_zero, List.set_cons_succ]
  refine seq_out (fun _ _ => ?_)
  go_wp2_with fail
  refine seq_nil ?_
  go_wp2_with fail
  refine bodyPost_ret (v := .tuple #[.slice a4 m4 c4, .agg #[.int .i64 6, .int .u64 0, .slice da dn dc]]) ?_ rfl ?_
  · simp [results, Tryz.results97, go_sem, q4, q5, q6]
  · have hne : ∀ k, (Value.slice a4 m4 c4).ownBlock = some k → ¬ k = w.heap.size + 1 + 1 + 1 := fun k hk e => by have := (own_lt ho4 k hk).1; simp only [World.size_drew] at this; omega
    have hfe := Frame.set3 w4 (w.heap.size + 1 + 1 + 1) (Value.int .i64 6) (Value.int .u64 0) (Value.slice da dn dc)
    rw [← HGL.out] at ho4
    refine valPost_to (n := 0) (g := w.heap.size + 1 + 1 + 1) HUP.out (by omega) HGS.out ((Frame.of_no ((Frame.refl no w3).drew.trans hf4 (fun _ h => h.elim))).trans' hfe) (ho4.keep hfe hne) (Nat.le_refl _) HW.out HD.out hK

end Go.Proofs.YtklcoppfkfenfaaGreatDoor
