/-
  Walks: the writer's values, form by form (L1). Walks: the writer's values, form by form (L2).
-/
import Derived.Test.YtklcoppfkfenfaaGreatDoorFP06
set_option linter.all false
set_option linter.unusedVariables false
set_option linter.unusedSimpArgs false
namespace Go.Proofs.YtklcoppfkfenfaaGreatDoor
set_option maxRecDepth 100000
open Go Go.RowKit

set_option maxHeartbeats 2000000 in
theorem value_num (base B : Nat) (w : World) (V : WV) (st : WSt) (u : UnitD) (av kv : Value) (a : AttrD) (da la : Option Addr) (dn dc ln lc : Nat) (hW : Wr w base B V st)
    (h85 : a.attr ≠ 85) (hf32 : a.form < 4294967296) (hn : a.n < 18446744073709551616) (hS : strxF a.form = -1) (hX : addrxF a.form = -1) (hR : refF a.form = false) (f1 : a.form ≠ 1) (f32 : a.form ≠ 32) (f8 : a.form ≠ 8) (f14 : a.form ≠ 14) (f10 : a.form ≠ 10) (f12 : a.form ≠ 12) (f13 : a.form ≠ 13) (f15 : a.form ≠ 15)
    (size : Nat) (hsz : fixedF u.version u.wide u.address a.form = (size : Int)) (hs8 : size ≤ 8) :
    Calls Tryz.prog 97 #[.pointer (some ⟨B, 0, none⟩), .agg (unitV u av kv), .agg (attrV a (.slice da dn dc) (.slice la ln lc))] w
      (ValPost base B w V st { bytes := num (cutF a.n size) size st.big, kind := 1, n := cutF a.n size, data := [], st := st }) := by
  obtain ⟨attr, form, n, data, list⟩ := a
  dsimp only at *
  have hB := hW.lt
  have hbig : w.cell? ⟨B, 0, none⟩ = some (.bool st.big) := hW.cell 0
  have hstr : w.cell? ⟨B, 4, none⟩ = some V.str := hW.cell 4
  have HW := Lib.hid hW; clear hW
  have HZ := Lib.hid hsz; clear hsz
  unfold unitV attrV
  go_enter Tryz.func97, Tryz.ntmps97
  go_wp2_with fail
  (with_reducible refine (fixed_any u av kv form _ hf32).mono ?_)
  rintro e w1 ⟨rfl, hf1⟩
  rw [HZ.out]
  have c0 : w1.cell? ⟨w.heap.size, 0, none⟩ = some (.pointer (some ⟨B, 0, none⟩)) := hf1.cell (cell_alloc (cell_alloc (cell_alloc (cell_newAt rfl rfl) _) _) _) id
  have cb : w1.cell? ⟨B, 0, none⟩ = some (.bool st.big) := hf1.cell (cell_alloc (cell_alloc (cell_alloc (cell_alloc hbig _) _) _) _) id
  have u2 : w1.cell? ⟨w.heap.size + 1, 2, none⟩ = some (.int .i64 u.address) := hf1.cell (cell_alloc (cell_alloc (cell_newAt (by simp) rfl) _) _) id
  have g0 : w1.cell? ⟨w.heap.size + 1 + 1, 0, none⟩ = some (.int .u32 (attr : Int)) := hf1.cell (cell_alloc (cell_newAt (by simp) rfl) _) id
  have g1 : w1.cell? ⟨w.heap.size + 1 + 1, 1, none⟩ = some (.int .u32 (form : Int)) := hf1.cell (cell_alloc (cell_newAt (by simp) rfl) _) id
  have g2 : w1.cell? ⟨w.heap.size + 1 + 1, 2, none⟩ = some (.int .u64 (n : Int)) := hf1.cell (cell_alloc (cell_newAt (by simp) rfl) _) id
  have g3 : w1.cell? ⟨w.heap.size + 1 + 1, 3, none⟩ = some (.slice da dn dc) := hf1.cell (cell_alloc (cell_newAt (by simp) rfl) _) id
  have z0 : w1.cell? ⟨w.heap.size + 1 + 1 + 1, 0, none⟩ = some (.int .i64 0) := hf1.cell (cell_newAt (by simp) rfl) id
  have z1 : w1.cell? ⟨w.heap.size + 1 + 1 + 1, 1, none⟩ = some (.int .u64 0) := hf1.cell (cell_newAt (by simp) rfl) id
  have z2 : w1.cell? ⟨w.heap.size + 1 + 1 + 1, 2, none⟩ = some (.slice none 0 0) := hf1.cell (cell_newAt (by simp) rfl) id
  have y0 : w1.frozen? ⟨w.heap.size + 1 + 1 + 1, 0, none⟩ = false := (hf1.frozen (cell_newAt (v := .int .i64 0) (by simp) rfl) id).trans (frozen_newAt (by simp))
  have y1 : w1.frozen? ⟨w.heap.size + 1 + 1 + 1, 1, none⟩ = false := (hf1.frozen (cell_newAt (v := .int .u64 0) (by simp) rfl) id).trans (frozen_newAt (by simp))
  have y2 : w1.frozen? ⟨w.heap.size + 1 + 1 + 1, 2, none⟩ = false := (hf1.frozen (cell_newAt (v := .slice none 0 0) (by simp) rfl) id).trans (frozen_newAt (by simp))
  have hs1 := hf1.size
  simp at hs1
  have hF1 : Frame no w w1 := ((((Frame.refl no w).alloc _).alloc _).alloc _).alloc _ |>.trans hf1 (fun _ h => h.elim)
  clear hf1
  have hz0 : w.heap.size < w1.heap.size := by omega
  have hz1 : w.heap.size + 1 < w1.heap.size := by omega
  have hz2 : w.heap.size + 1 + 1 < w1.heap.size := by omega
  have hz3 : w.heap.size + 1 + 1 + 1 < w1.heap.size := by omega
  have hzB : B < w1.heap.size := by omega
  go_wp2_with (first
    | (go_at_call 21; ((with_reducible refine (isStrx_any form _ hf32).mono ?_); rintro e w' ⟨rfl, rfl⟩); rw [hS])
    | (go_at_call 39; ((with_reducible refine (isAddrx_any form _ hf32).mono ?_); rintro e w' ⟨rfl, rfl⟩); rw [hX])
    | (go_at_call 114; ((with_reducible refine (isReference_any form _ hf32).mono ?_); rintro e w' ⟨rfl, rfl⟩); rw [hR]))
  (with_reducible refine (cut_any n size _ hn hs8).mono ?_)
  rintro e w' ⟨rfl, rfl⟩
  have hcl : cutF n size < 18446744073709551616 := Nat.lt_of_le_of_lt (Nat.mod_le _ _) hn
  go_wp2_with fail
  (with_reducible refine (numClo_any 1 (cutF n size) size st.big w1.heap.size w.heap.size B _ hcl hs8 (cell_newAt rfl rfl) (cell_alloc c0 _) (cell_alloc cb _)).mono ?_)
  rintro e w2 ⟨a2, m2, c2, rfl, ho, hf2⟩
  have q0 := hf2.cell (cell_alloc z0 (.cells #[.int .i64 (size : Int)] 3)) id
  have q1 := hf2.cell (cell_alloc z1 (.cells #[.int .i64 (size : Int)] 3)) id
  have q2 := hf2.cell (cell_alloc z2 (.cells #[.int .i64 (size : Int)] 3)) id
  have r0 := (hf2.frozen (cell_alloc z0 (.cells #[.int .i64 (size : Int)] 3)) id).trans ((((Frame.refl no w1).alloc _).frozen z0 id).trans y0)
  have r1 := (hf2.frozen (cell_alloc z1 (.cells #[.int .i64 (size : Int)] 3)) id).trans ((((Frame.refl no w1).alloc _).frozen z1 id).trans y1)
  have r2 := (hf2.frozen (cell_alloc z2 (.cells #[.int .i64 (size : Int)] 3)) id).trans ((((Frame.refl no w1).alloc _).frozen z2 id).trans y2)
  have hs2 := hf2.size
  simp at hs2
  have hF2 : Frame no w w2 := (hF1.alloc _).trans hf2 (fun _ h => h.elim)
  go_wp2_with fail
  refine bodyPost_ret (v := .tuple #[.slice a2 m2 c2, .agg #[.int .i64 1, .int .u64 (cutF n size : Int), .slice none 0 0]]) ?_ rfl ?_
  · simp [results, Tryz.results97, go_sem, q0, q1, q2]
  · have hne : ∀ k, (Value.slice a2 m2 c2).ownBlock = some k → ¬ k = w.heap.size + 1 + 1 + 1 := fun k hk e => by have := (own_lt ho k hk).1; simp at this; omega
    refine valPost_pure (K := no) HW.out (((hF2.set (.inr (by omega)) _).set (.inr (by omega)) _).set (.inr (by omega)) _) ?_ (rd_nil _ _) (fun _ h => h.elim)
    exact (ho.keep ((((Frame.refl (fun k => k = w.heap.size + 1 + 1 + 1) w2).set (.inl rfl) _).set (.inl rfl) _).set (.inl rfl) _) hne).mono_base (by simp; omega)

set_option maxHeartbeats 2000000 in
theorem value_addr (base B : Nat) (w : World) (V : WV) (st : WSt) (u : UnitD) (av kv : Value) (a : AttrD) (da la : Option Addr) (dn dc ln lc : Nat) (hW : Wr w base B V st)
    (h85 : a.attr ≠ 85) (hf32 : a.form < 4294967296) (hn : a.n < 18446744073709551616) (hS : strxF a.form = -1) (hX : addrxF a.form = -1) (hR : refF a.form = false) (f1 : a.form ≤ 1) (f1' : 1 ≤ a.form)
    (size : Nat) (hsz : fixedF u.version u.wide u.address a.form = (size : Int)) (hs8 : size ≤ 8) :
    Calls Tryz.prog 97 #[.pointer (some ⟨B, 0, none⟩), .agg (unitV u av kv), .agg (attrV a (.slice da dn dc) (.slice la ln lc))] w
      (ValPost base B w V st { bytes := num (cutF a.n size) size st.big, kind := 2, n := cutF a.n size, data := [], st := st }) := by
  obtain ⟨attr, form, n, data, list⟩ := a
  dsimp only at *
  have hB := hW.lt
  have hbig : w.cell? ⟨B, 0, none⟩ = some (.bool st.big) := hW.cell 0
  have hstr : w.cell? ⟨B, 4, none⟩ = some V.str := hW.cell 4
  have HW := Lib.hid hW; clear hW
  have HZ := Lib.hid hsz; clear hsz
  unfold unitV attrV
  go_enter Tryz.func97, Tryz.ntmps97
  go_wp2_with fail
  (with_reducible refine (fixed_any u av kv form _ hf32).mono ?_)
  rintro e w1 ⟨rfl, hf1⟩
  rw [HZ.out]
  have c0 : w1.cell? ⟨w.heap.size, 0, none⟩ = some (.pointer (some ⟨B, 0, none⟩)) := hf1.cell (cell_alloc (cell_alloc (cell_alloc (cell_newAt rfl rfl) _) _) _) id
  have cb : w1.cell? ⟨B, 0, none⟩ = some (.bool st.big) := hf1.cell (cell_alloc (cell_alloc (cell_alloc (cell_alloc hbig _) _) _) _) id
  have u2 : w1.cell? ⟨w.heap.size + 1, 2, none⟩ = some (.int .i64 u.address) := hf1.cell (cell_alloc (cell_alloc (cell_newAt (by simp) rfl) _) _) id
  have g0 : w1.cell? ⟨w.heap.size + 1 + 1, 0, none⟩ = some (.int .u32 (attr : Int)) := hf1.cell (cell_alloc (cell_newAt (by simp) rfl) _) id
  have g1 : w1.cell? ⟨w.heap.size + 1 + 1, 1, none⟩ = some (.int .u32 (form : Int)) := hf1.cell (cell_alloc (cell_newAt (by simp) rfl) _) id
  have g2 : w1.cell? ⟨w.heap.size + 1 + 1, 2, none⟩ = some (.int .u64 (n : Int)) := hf1.cell (cell_alloc (cell_newAt (by simp) rfl) _) id
  have g3 : w1.cell? ⟨w.heap.size + 1 + 1, 3, none⟩ = some (.slice da dn dc) := hf1.cell (cell_alloc (cell_newAt (by simp) rfl) _) id
  have z0 : w1.cell? ⟨w.heap.size + 1 + 1 + 1, 0, none⟩ = some (.int .i64 0) := hf1.cell (cell_newAt (by simp) rfl) id
  have z1 : w1.cell? ⟨w.heap.size + 1 + 1 + 1, 1, none⟩ = some (.int .u64 0) := hf1.cell (cell_newAt (by simp) rfl) id
  have z2 : w1.cell? ⟨w.heap.size + 1 + 1 + 1, 2, none⟩ = some (.slice none 0 0) := hf1.cell (cell_newAt (by simp) rfl) id
  have y0 : w1.frozen? ⟨w.heap.size + 1 + 1 + 1, 0, none⟩ = false := (hf1.frozen (cell_newAt (v := .int .i64 0) (by simp) rfl) id).trans (frozen_newAt (by simp))
  have y1 : w1.frozen? ⟨w.heap.size + 1 + 1 + 1, 1, none⟩ = false := (hf1.frozen (cell_newAt (v := .int .u64 0) (by simp) rfl) id).trans (frozen_newAt (by simp))
  have y2 : w1.frozen? ⟨w.heap.size + 1 + 1 + 1, 2, none⟩ = false := (hf1.frozen (cell_newAt (v := .slice none 0 0) (by simp) rfl) id).trans (frozen_newAt (by simp))
  have hs1 := hf1.size
  simp at hs1
  have hF1 : Frame no w w1 := ((((Frame.refl no w).alloc _).alloc _).alloc _).alloc _ |>.trans hf1 (fun _ h => h.elim)
  clear hf1
  have hz0 : w.heap.size < w1.heap.size := by omega
  have hz1 : w.heap.size + 1 < w1.heap.size := by omega
  have hz2 : w.heap.size + 1 + 1 < w1.heap.size := by omega
  have hz3 : w.heap.size + 1 + 1 + 1 < w1.heap.size := by omega
  have hzB : B < w1.heap.size := by omega
  go_wp2_with (first
    | (go_at_call 21; ((with_reducible refine (isStrx_any form _ hf32).mono ?_); rintro e w' ⟨rfl, rfl⟩); rw [hS])
    | (go_at_call 39; ((with_reducible refine (isAddrx_any form _ hf32).mono ?_); rintro e w' ⟨rfl, rfl⟩); rw [hX])
    | (go_at_call 114; ((with_reducible refine (isReference_any form _ hf32).mono ?_); rintro e w' ⟨rfl, rfl⟩); rw [hR]))
  (with_reducible refine (cut_any n size _ hn hs8).mono ?_)
  rintro e w' ⟨rfl, rfl⟩
  have hcl : cutF n size < 18446744073709551616 := Nat.lt_of_le_of_lt (Nat.mod_le _ _) hn
  go_wp2_with fail
  (with_reducible refine (numClo_any 2 (cutF n size) size st.big w1.heap.size w.heap.size B _ hcl hs8 (cell_newAt rfl rfl) (cell_alloc c0 _) (cell_alloc cb _)).mono ?_)
  rintro e w2 ⟨a2, m2, c2, rfl, ho, hf2⟩
  have q0 := hf2.cell (cell_alloc z0 (.cells #[.int .i64 (size : Int)] 3)) id
  have q1 := hf2.cell (cell_alloc z1 (.cells #[.int .i64 (size : Int)] 3)) id
  have q2 := hf2.cell (cell_alloc z2 (.cells #[.int .i64 (size : Int)] 3)) id
  have r0 := (hf2.frozen (cell_alloc z0 (.cells #[.int .i64 (size : Int)] 3)) id).trans ((((Frame.refl no w1).alloc _).frozen z0 id).trans y0)
  have r1 := (hf2.frozen (cell_alloc z1 (.cells #[.int .i64 (size : Int)] 3)) id).trans ((((Frame.refl no w1).alloc _).frozen z1 id).trans y1)
  have r2 := (hf2.frozen (cell_alloc z2 (.cells #[.int .i64 (size : Int)] 3)) id).trans ((((Frame.refl no w1).alloc _).frozen z2 id).trans y2)
  have hs2 := hf2.size
  simp at hs2
  have hF2 : Frame no w w2 := (hF1.alloc _).trans hf2 (fun _ h => h.elim)
  go_wp2_with fail
  refine bodyPost_ret (v := .tuple #[.slice a2 m2 c2, .agg #[.int .i64 2, .int .u64 (cutF n size : Int), .slice none 0 0]]) ?_ rfl ?_
  · simp [results, Tryz.results97, go_sem, q0, q1, q2]
  · have hne : ∀ k, (Value.slice a2 m2 c2).ownBlock = some k → ¬ k = w.heap.size + 1 + 1 + 1 := fun k hk e => by have := (own_lt ho k hk).1; simp at this; omega
    refine valPost_pure (K := no) HW.out (((hF2.set (.inr (by omega)) _).set (.inr (by omega)) _).set (.inr (by omega)) _) ?_ (rd_nil _ _) (fun _ h => h.elim)
    exact (ho.keep ((((Frame.refl (fun k => k = w.heap.size + 1 + 1 + 1) w2).set (.inl rfl) _).set (.inl rfl) _).set (.inl rfl) _) hne).mono_base (by simp; omega)

end Go.Proofs.YtklcoppfkfenfaaGreatDoor
namespace Go.Proofs.YtklcoppfkfenfaaGreatDoor
set_option maxRecDepth 100000
open Go Go.RowKit

set_option maxHeartbeats 2000000 in
theorem value_udata (base B : Nat) (w : World) (V : WV) (st : WSt) (u : UnitD) (av kv : Value) (a : AttrD) (da la : Option Addr) (dn dc ln lc : Nat) (hW : Wr w base B V st)
    (h85 : a.attr ≠ 85) (hf32 : a.form < 4294967296) (hn : a.n < 18446744073709551616) (hS : strxF a.form = -1) (hX : addrxF a.form = -1) (hR : refF a.form = false) (f1 : a.form ≤ 15) (f1' : 15 ≤ a.form)
    (size : Nat) (hsz : fixedF u.version u.wide u.address a.form = (size : Int)) (hs8 : size ≤ 8) :
    Calls Tryz.prog 97 #[.pointer (some ⟨B, 0, none⟩), .agg (unitV u av kv), .agg (attrV a (.slice da dn dc) (.slice la ln lc))] w
      (ValPost base B w V st { bytes := uleb a.n, kind := 1, n := a.n, data := [], st := st }) := by
  obtain ⟨attr, form, n, data, list⟩ := a
  dsimp only at *
  have hB := hW.lt
  have hbig : w.cell? ⟨B, 0, none⟩ = some (.bool st.big) := hW.cell 0
  have hstr : w.cell? ⟨B, 4, none⟩ = some V.str := hW.cell 4
  have HW := Lib.hid hW; clear hW
  have HZ := Lib.hid hsz; clear hsz
  unfold unitV attrV
  go_enter Tryz.func97, Tryz.ntmps97
  go_wp2_with fail
  (with_reducible refine (fixed_any u av kv form _ hf32).mono ?_)
  rintro e w1 ⟨rfl, hf1⟩
  rw [HZ.out]
  have c0 : w1.cell? ⟨w.heap.size, 0, none⟩ = some (.pointer (some ⟨B, 0, none⟩)) := hf1.cell (cell_alloc (cell_alloc (cell_alloc (cell_newAt rfl rfl) _) _) _) id
  have cb : w1.cell? ⟨B, 0, none⟩ = some (.bool st.big) := hf1.cell (cell_alloc (cell_alloc (cell_alloc (cell_alloc hbig _) _) _) _) id
  have u2 : w1.cell? ⟨w.heap.size + 1, 2, none⟩ = some (.int .i64 u.address) := hf1.cell (cell_alloc (cell_alloc (cell_newAt (by simp) rfl) _) _) id
  have g0 : w1.cell? ⟨w.heap.size + 1 + 1, 0, none⟩ = some (.int .u32 (attr : Int)) := hf1.cell (cell_alloc (cell_newAt (by simp) rfl) _) id
  have g1 : w1.cell? ⟨w.heap.size + 1 + 1, 1, none⟩ = some (.int .u32 (form : Int)) := hf1.cell (cell_alloc (cell_newAt (by simp) rfl) _) id
  have g2 : w1.cell? ⟨w.heap.size + 1 + 1, 2, none⟩ = some (.int .u64 (n : Int)) := hf1.cell (cell_alloc (cell_newAt (by simp) rfl) _) id
  have g3 : w1.cell? ⟨w.heap.size + 1 + 1, 3, none⟩ = some (.slice da dn dc) := hf1.cell (cell_alloc (cell_newAt (by simp) rfl) _) id
  have z0 : w1.cell? ⟨w.heap.size + 1 + 1 + 1, 0, none⟩ = some (.int .i64 0) := hf1.cell (cell_newAt (by simp) rfl) id
  have z1 : w1.cell? ⟨w.heap.size + 1 + 1 + 1, 1, none⟩ = some (.int .u64 0) := hf1.cell (cell_newAt (by simp) rfl) id
  have z2 : w1.cell? ⟨w.heap.size + 1 + 1 + 1, 2, none⟩ = some (.slice none 0 0) := hf1.cell (cell_newAt (by simp) rfl) id
  have y0 : w1.frozen? ⟨w.heap.size + 1 + 1 + 1, 0, none⟩ = false := (hf1.frozen (cell_newAt (v := .int .i64 0) (by simp) rfl) id).trans (frozen_newAt (by simp))
  have y1 : w1.frozen? ⟨w.heap.size + 1 + 1 + 1, 1, none⟩ = false := (hf1.frozen (cell_newAt (v := .int .u64 0) (by simp) rfl) id).trans (frozen_newAt (by simp))
  have y2 : w1.frozen? ⟨w.heap.size + 1 + 1 + 1, 2, none⟩ = false := (hf1.frozen (cell_newAt (v := .slice none 0 0) (by simp) rfl) id).trans (frozen_newAt (by simp))
  have hs1 := hf1.size
  simp at hs1
  have hF1 : Frame no w w1 := ((((Frame.refl no w).alloc _).alloc _).alloc _).alloc _ |>.trans hf1 (fun _ h => h.elim)
  clear hf1
  have hz0 : w.heap.size < w1.heap.size := by omega
  have hz1 : w.heap.size + 1 < w1.heap.size := by omega
  have hz2 : w.heap.size + 1 + 1 < w1.heap.size := by omega
  have hz3 : w.heap.size + 1 + 1 + 1 < w1.heap.size := by omega
  have hzB : B < w1.heap.size := by omega
  have d2 : w.heap.size + 1 + 1 ≠ w.heap.size + 1 + 1 + 1 := by omega
  have e2 : (w1.alloc (.cells #[.int .i64 (size : Int)] 3)).drew.cell? ⟨w.heap.size + 1 + 1, 2, none⟩ = some (.int .u64 (n : Int)) := cell_alloc g2 _
  go_wp2_with (first
    | (go_at_call 21; ((with_reducible refine (isStrx_any form _ hf32).mono ?_); rintro e w' ⟨rfl, rfl⟩); rw [hS])
    | (go_at_call 39; ((with_reducible refine (isAddrx_any form _ hf32).mono ?_); rintro e w' ⟨rfl, rfl⟩); rw [hX])
    | (go_at_call 114; ((with_reducible refine (isReference_any form _ hf32).mono ?_); rintro e w' ⟨rfl, rfl⟩); rw [hR]))
  go_region_held3 (fun w' => w'.cell? ⟨w.heap.size + 1 + 1, 2, none⟩ = some (.int .u64 (n : Int)))
    (first | exact cell_set (cell_set (cell_set (hf2.cell e2 id) d2 _) d2 _) d2 _ | exact hf2.cell e2 id | exact e2)
    (first
      | (go_at_call 63
         ((with_reducible refine (unsigned_any n _ hn).mono ?_); rintro e w2 ⟨a2, m2, c2, rfl, ho, hf2⟩)
         have q0 := hf2.cell (cell_alloc z0 (.cells #[.int .i64 (size : Int)] 3)) id
         have r0 := (hf2.frozen (cell_alloc z0 (.cells #[.int .i64 (size : Int)] 3)) id).trans ((((Frame.refl no w1).alloc _).frozen z0 id).trans y0)
         have q1 := hf2.cell (cell_alloc z1 (.cells #[.int .i64 (size : Int)] 3)) id
         have r1 := (hf2.frozen (cell_alloc z1 (.cells #[.int .i64 (size : Int)] 3)) id).trans ((((Frame.refl no w1).alloc _).frozen z1 id).trans y1)
         have q2 := hf2.cell (cell_alloc z2 (.cells #[.int .i64 (size : Int)] 3)) id
         have r2 := (hf2.frozen (cell_alloc z2 (.cells #[.int .i64 (size : Int)] 3)) id).trans ((((Frame.refl no w1).alloc _).frozen z2 id).trans y2)))
  have hs2 := hf2.size
  simp at hs2
  have hF2 : Frame no w w2 := ((hF1.alloc _).drew).trans hf2 (fun _ h => h.elim)
  go_wp2_with fail
  refine bodyPost_ret (v := .tuple #[.slice a2 m2 c2, .agg #[.int .i64 1, .int .u64 (n : Int), .slice none 0 0]]) ?_ rfl ?_
  · simp [results, Tryz.results97, go_sem, q0, q1, q2]
  · have hne : ∀ k, (Value.slice a2 m2 c2).ownBlock = some k → ¬ k = w.heap.size + 1 + 1 + 1 := fun k hk e => by have := (own_lt ho k hk).1; simp at this; omega
    refine valPost_pure (K := no) HW.out (((hF2.set (.inr (by omega)) _).set (.inr (by omega)) _).set (.inr (by omega)) _) ?_ (rd_nil _ _) (fun _ h => h.elim)
    exact (ho.keep ((((Frame.refl (fun k => k = w.heap.size + 1 + 1 + 1) w2).set (.inl rfl) _).set (.inl rfl) _).set (.inl rfl) _) hne).mono_base (by simp; omega)

set_option maxHeartbeats 2000000 in
theorem value_sdata (base B : Nat) (w : World) (V : WV) (st : WSt) (u : UnitD) (av kv : Value) (a : AttrD) (da la : Option Addr) (dn dc ln lc : Nat) (hW : Wr w base B V st)
    (h85 : a.attr ≠ 85) (hf32 : a.form < 4294967296) (hn : a.n < 18446744073709551616) (hS : strxF a.form = -1) (hX : addrxF a.form = -1) (hR : refF a.form = false) (f1 : a.form ≤ 13) (f1' : 13 ≤ a.form)
    (size : Nat) (hsz : fixedF u.version u.wide u.address a.form = (size : Int)) (hs8 : size ≤ 8) :
    Calls Tryz.prog 97 #[.pointer (some ⟨B, 0, none⟩), .agg (unitV u av kv), .agg (attrV a (.slice da dn dc) (.slice la ln lc))] w
      (ValPost base B w V st { bytes := sleb (sgn a.n), kind := 1, n := a.n, data := [], st := st }) := by
  obtain ⟨attr, form, n, data, list⟩ := a
  dsimp only at *
  have hB := hW.lt
  have hbig : w.cell? ⟨B, 0, none⟩ = some (.bool st.big) := hW.cell 0
  have hstr : w.cell? ⟨B, 4, none⟩ = some V.str := hW.cell 4
  have HW := Lib.hid hW; clear hW
  have HZ := Lib.hid hsz; clear hsz
  unfold unitV attrV
  go_enter Tryz.func97, Tryz.ntmps97
  go_wp2_with fail
  (with_reducible refine (fixed_any u av kv form _ hf32).mono ?_)
  rintro e w1 ⟨rfl, hf1⟩
  rw [HZ.out]
  have c0 : w1.cell? ⟨w.heap.size, 0, none⟩ = some (.pointer (some ⟨B, 0, none⟩)) := hf1.cell (cell_alloc (cell_alloc (cell_alloc (cell_newAt rfl rfl) _) _) _) id
  have cb : w1.cell? ⟨B, 0, none⟩ = some (.bool st.big) := hf1.cell (cell_alloc (cell_alloc (cell_alloc (cell_alloc hbig _) _) _) _) id
  have u2 : w1.cell? ⟨w.heap.size + 1, 2, none⟩ = some (.int .i64 u.address) := hf1.cell (cell_alloc (cell_alloc (cell_newAt (by simp) rfl) _) _) id
  have g0 : w1.cell? ⟨w.heap.size + 1 + 1, 0, none⟩ = some (.int .u32 (attr : Int)) := hf1.cell (cell_alloc (cell_newAt (by simp) rfl) _) id
  have g1 : w1.cell? ⟨w.heap.size + 1 + 1, 1, none⟩ = some (.int .u32 (form : Int)) := hf1.cell (cell_alloc (cell_newAt (by simp) rfl) _) id
  have g2 : w1.cell? ⟨w.heap.size + 1 + 1, 2, none⟩ = some (.int .u64 (n : Int)) := hf1.cell (cell_alloc (cell_newAt (by simp) rfl) _) id
  have g3 : w1.cell? ⟨w.heap.size + 1 + 1, 3, none⟩ = some (.slice da dn dc) := hf1.cell (cell_alloc (cell_newAt (by simp) rfl) _) id
  have z0 : w1.cell? ⟨w.heap.size + 1 + 1 + 1, 0, none⟩ = some (.int .i64 0) := hf1.cell (cell_newAt (by simp) rfl) id
  have z1 : w1.cell? ⟨w.heap.size + 1 + 1 + 1, 1, none⟩ = some (.int .u64 0) := hf1.cell (cell_newAt (by simp) rfl) id
  have z2 : w1.cell? ⟨w.heap.size + 1 + 1 + 1, 2, none⟩ = some (.slice none 0 0) := hf1.cell (cell_newAt (by simp) rfl) id
  have y0 : w1.frozen? ⟨w.heap.size + 1 + 1 + 1, 0, none⟩ = false := (hf1.frozen (cell_newAt (v := .int .i64 0) (by simp) rfl) id).trans (frozen_newAt (by simp))
  have y1 : w1.frozen? ⟨w.heap.size + 1 + 1 + 1, 1, none⟩ = false := (hf1.frozen (cell_newAt (v := .int .u64 0) (by simp) rfl) id).trans (frozen_newAt (by simp))
  have y2 : w1.frozen? ⟨w.heap.size + 1 + 1 + 1, 2, none⟩ = false := (hf1.frozen (cell_newAt (v := .slice none 0 0) (by simp) rfl) id).trans (frozen_newAt (by simp))
  have hs1 := hf1.size
  simp at hs1
  have hF1 : Frame no w w1 := ((((Frame.refl no w).alloc _).alloc _).alloc _).alloc _ |>.trans hf1 (fun _ h => h.elim)
  clear hf1
  have hz0 : w.heap.size < w1.heap.size := by omega
  have hz1 : w.heap.size + 1 < w1.heap.size := by omega
  have hz2 : w.heap.size + 1 + 1 < w1.heap.size := by omega
  have hz3 : w.heap.size + 1 + 1 + 1 < w1.heap.size := by omega
  have hzB : B < w1.heap.size := by omega
  obtain ⟨sn, hsn⟩ : ∃ sn, sn = sgn n := ⟨_, rfl⟩
  have hwn : IntKind.i64.wrap (n : Int) = sn := by rw [hsn]; exact sgn_wrap n hn
  have hsb : -9223372036854775808 ≤ sn ∧ sn ≤ 9223372036854775807 := by rw [hsn]; exact sgn_bd n hn
  have HSN := Lib.hid hsn; clear hsn
  have d2 : w.heap.size + 1 + 1 ≠ w.heap.size + 1 + 1 + 1 := by omega
  have e2 : (w1.alloc (.cells #[.int .i64 (size : Int)] 3)).drew.cell? ⟨w.heap.size + 1 + 1, 2, none⟩ = some (.int .u64 (n : Int)) := cell_alloc g2 _
  go_wp2_with (first
    | (go_at_call 21; ((with_reducible refine (isStrx_any form _ hf32).mono ?_); rintro e w' ⟨rfl, rfl⟩); rw [hS])
    | (go_at_call 39; ((with_reducible refine (isAddrx_any form _ hf32).mono ?_); rintro e w' ⟨rfl, rfl⟩); rw [hX])
    | (go_at_call 114; ((with_reducible refine (isReference_any form _ hf32).mono ?_); rintro e w' ⟨rfl, rfl⟩); rw [hR]))
  go_region_held3 (fun w' => w'.cell? ⟨w.heap.size + 1 + 1, 2, none⟩ = some (.int .u64 (n : Int)))
    (first | exact cell_set (cell_set (cell_set (hf2.cell e2 id) d2 _) d2 _) d2 _ | exact hf2.cell e2 id | exact e2)
    (first
      | (go_at_call 116
         ((with_reducible refine (signed_any sn _ hsb).mono ?_); rintro e w2 ⟨a2, m2, c2, rfl, ho, hf2⟩)
         have q0 := hf2.cell (cell_alloc z0 (.cells #[.int .i64 (size : Int)] 3)) id
         have r0 := (hf2.frozen (cell_alloc z0 (.cells #[.int .i64 (size : Int)] 3)) id).trans ((((Frame.refl no w1).alloc _).frozen z0 id).trans y0)
         have q1 := hf2.cell (cell_alloc z1 (.cells #[.int .i64 (size : Int)] 3)) id
         have r1 := (hf2.frozen (cell_alloc z1 (.cells #[.int .i64 (size : Int)] 3)) id).trans ((((Frame.refl no w1).alloc _).frozen z1 id).trans y1)
         have q2 := hf2.cell (cell_alloc z2 (.cells #[.int .i64 (size : Int)] 3)) id
         have r2 := (hf2.frozen (cell_alloc z2 (.cells #[.int .i64 (size : Int)] 3)) id).trans ((((Frame.refl no w1).alloc _).frozen z2 id).trans y2)))
  have hs2 := hf2.size
  simp at hs2
  have hF2 : Frame no w w2 := ((hF1.alloc _).drew).trans hf2 (fun _ h => h.elim)
  go_wp2_with fail
  refine bodyPost_ret (v := .tuple #[.slice a2 m2 c2, .agg #[.int .i64 1, .int .u64 (n : Int), .slice none 0 0]]) ?_ rfl ?_
  · simp [results, Tryz.results97, go_sem, q0, q1, q2]
  · have hne : ∀ k, (Value.slice a2 m2 c2).ownBlock = some k → ¬ k = w.heap.size + 1 + 1 + 1 := fun k hk e => by have := (own_lt ho k hk).1; simp at this; omega
    refine valPost_pure (K := no) HW.out (((hF2.set (.inr (by omega)) _).set (.inr (by omega)) _).set (.inr (by omega)) _) ?_ (rd_nil _ _) (fun _ h => h.elim)
    rw [← HSN.out]
    exact (ho.keep ((((Frame.refl (fun k => k = w.heap.size + 1 + 1 + 1) w2).set (.inl rfl) _).set (.inl rfl) _).set (.inl rfl) _) hne).mono_base (by simp; omega)

end Go.Proofs.YtklcoppfkfenfaaGreatDoor
