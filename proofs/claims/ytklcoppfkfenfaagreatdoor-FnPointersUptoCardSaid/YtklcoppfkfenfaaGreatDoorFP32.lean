/-
  The reader's entry, of an abbreviation.
-/
import Derived.Test.YtklcoppfkfenfaaGreatDoorFP31
set_option linter.all false
set_option linter.unusedVariables false
set_option linter.unusedSimpArgs false
namespace Go.Proofs.YtklcoppfkfenfaaGreatDoor
set_option maxRecDepth 1000000
open Go Go.RowKit

theorem Frame.dl {S : Bs} {a w : World} (h : Frame S a w) : Frame S a.drew w := ⟨h.os, h.tape, h.output, h.size, h.block⟩
theorem ul119 : Tryz.prog.underlying 119 = some (.slice 156) := by kernel_rfl
theorem info156 : (Tryz.prog.info? 156).map (fun i => (i.zero, i.size, i.bytes)) = some (some (.agg z3.toArray), 3, 32) := by kernel_rfl
theorem make119 (n : Nat) (h : n ≤ 1000000) (w : World) : (Instr.makeSlice 119 (.int .i64 (n : Int)) (.int .i64 (n : Int))).run Tryz.prog w = .ok (.slice (some ⟨w.heap.size, 0, none⟩) n n) (w.alloc (.cells (zerosL z3 n).toArray 156)) := by
  obtain ⟨i, hi, h0, h1, h2⟩ := info_parts info156
  have := run_make (P := Tryz.prog) w 119 156 i _ ul119 hi h0 .i64 .i64 (n : Int) (n : Int) (by omega) (by omega) (by rw [h2]; omega) (by omega)
  rw [this, h1]
  simp only [Int.toNat_natCast, Value.cells]
  rw [madeCells_zeros z3 3 rfl (by decide)]

/-- i attributes of an entry are read -/
structure EnSt (w0 : World) (B pb A E0 F : Nat) (fa : Option Addr) (fcap : Nat) (K : Bs) (c : BufK) (ab : AbD) (fields : List FieldD) (vals : List (List Nat)) (l : List Nat) (off0 eoff i : Nat) (w : World) : Prop where
  frame : Frame (fun k => k = B) w0 w
  p : w.cell? ⟨pb, 0, none⟩ = some (.pointer (some ⟨B, 0, none⟩))
  e : w.heap[E0]? = some (.cells #[.int .u32 (eoff : Int), .int .u32 (ab.tag : Int), .bool ab.child, .slice (some ⟨F, 0, none⟩) ab.fields.length ab.fields.length] 121)
  a : w.heap[A]? = some (.cells #[.int .u32 (ab.tag : Int), .bool ab.child, .slice fa ab.fields.length fcap] 188)
  row : w.heap[F]? = some (.cells ((fields.take i).flatMap fldC ++ zerosL z3 (ab.fields.length - i)).toArray 156)
  buf : Buf w B K c (off0 + (vals.take i).flatten.length) ((vals.drop i).flatten ++ l)
theorem FieldsOk.len {E : EnvD} : ∀ {ps : List (Nat × Nat)} {vs : List (List Nat)} {fs : List FieldD}, FieldsOk E ps vs fs → vs.length = ps.length ∧ fs.length = ps.length
  | [], [], [], _ => ⟨rfl, rfl⟩
  | _ :: ps, _ :: vs, _ :: fs, h => by have := FieldsOk.len h.2; simp [this.1, this.2]
theorem FieldsOk.at {E : EnvD} : ∀ {ps : List (Nat × Nat)} {vs : List (List Nat)} {fs : List FieldD}, FieldsOk E ps vs fs → ∀ i (h1 : i < ps.length) (h2 : i < vs.length) (h3 : i < fs.length), fs[i].attr = ps[i].1 ∧ fs[i].cls = classF ps[i].1 ps[i].2 E.version ∧ ValOk E ps[i].2 vs[i] fs[i].kind fs[i].n fs[i].data
  | _ :: _, _ :: _, _ :: _, h, 0, _, _, _ => h.1
  | _ :: ps, _ :: vs, _ :: fs, h, i + 1, h1, h2, h3 => by
    have := FieldsOk.at h.2 i (by simpa using h1) (by simpa using h2) (by simpa using h3)
    simpa using this
theorem St.upd91 {v0 v1 v2 v3 v4 v5 v6 v7 v8 u : Value} {T : Array Value} {d : List Deferred} (h : St 677 KL [v0, v1, v2, v3, v4, v5, v6, v7, v8] ⟨T, d⟩) : St 677 KL [v0, v1, v2, v3, v4, v5, v6, v7, u] ⟨T.setIfInBounds 91 u, d⟩ := by
  have hz : T.size = 677 := h.size
  refine ⟨by simp [hz], h.defers, fun i t v h1 h2 => ?_⟩
  have hne : ∀ t', t' ≠ 91 → (T.setIfInBounds 91 u)[t']? = T[t']? := fun t' ht => Array.getElem?_setIfInBounds_ne (Ne.symm ht)
  match i, h1, h2 with
  | 0, h1, h2 => simp [KL] at h1 h2; subst h1; subst h2; rw [hne _ (by decide)]; exact h.val 0 _ _ rfl rfl
  | 1, h1, h2 => simp [KL] at h1 h2; subst h1; subst h2; rw [hne _ (by decide)]; exact h.val 1 _ _ rfl rfl
  | 2, h1, h2 => simp [KL] at h1 h2; subst h1; subst h2; rw [hne _ (by decide)]; exact h.val 2 _ _ rfl rfl
  | 3, h1, h2 => simp [KL] at h1 h2; subst h1; subst h2; rw [hne _ (by decide)]; exact h.val 3 _ _ rfl rfl
  | 4, h1, h2 => simp [KL] at h1 h2; subst h1; subst h2; rw [hne _ (by decide)]; exact h.val 4 _ _ rfl rfl
  | 5, h1, h2 => simp [KL] at h1 h2; subst h1; subst h2; rw [hne _ (by decide)]; exact h.val 5 _ _ rfl rfl
  | 6, h1, h2 => simp [KL] at h1 h2; subst h1; subst h2; rw [hne _ (by decide)]; exact h.val 6 _ _ rfl rfl
  | 7, h1, h2 => simp [KL] at h1 h2; subst h1; subst h2; rw [hne _ (by decide)]; exact h.val 7 _ _ rfl rfl
  | 8, h1, h2 => simp [KL] at h1 h2; subst h1; subst h2; simp [hz]
  | i + 9, h1, h2 => simp [KL] at h1

set_option maxHeartbeats 8000000 in
theorem entry_ab (B U uo D M nT code : Nat) (K KT KS : Bs) (c : BufK) (E : EnvD) (off : Nat) (vals : List (List Nat)) (l : List Nat) (ab : AbD) (abs : List AbD) (fields : List FieldD) (w : World) (cu : Value) (base : Nat) (vers : Int)
    (hU3 : w.cell? ⟨U, uo + 3, none⟩ = some (.map (some M))) (hU0 : w.cell? ⟨U, uo, none⟩ = some (.int .u32 (base : Int))) (hU6 : w.cell? ⟨U, uo + 6, none⟩ = some (.int .i64 vers))
    (hT : TabAt KT w M nT (E.version : Int) abs) (hcode : 1 ≤ code) (hcl : code < 4294967296) (habs : abs[code - 1]? = some ab) (hfo : FieldsOk E ab.fields vals fields) (hpl : ∀ p ∈ ab.fields, p.2 ≠ 27 ∧ p.2 ≠ 35 ∧ p.2 ≠ 22) (hfl : ab.fields.length ≤ 1000000)
    (hKT : ∀ k, KT k → k < w.heap.size ∧ k ≠ B) (hMB : ¬ M = B) (hC : RdCtx w B U uo D KS c E)
    (h : Buf w B K c off (uleb code ++ (vals.flatten ++ l))) : Calls Tryz.prog 47 #[.pointer (some ⟨B, 0, none⟩), cu, .pointer (some ⟨U, uo, none⟩)] w
      (EntPost B K c (off + (uleb code).length + vals.flatten.length) l { off := off, tag := ab.tag, children := ab.child, fields := fields } w) := by
  have HH := Lib.hid hfo; have HPL := Lib.hid hpl; have HC := Lib.hid hC; have HKT := Lib.hid hKT
  obtain ⟨f, hmap, htab⟩ := hT
  obtain ⟨hcl2, hce⟩ := List.getElem?_eq_some_iff.1 habs
  obtain ⟨val, hfv, hab⟩ := htab (code - 1) hcl2
  rw [hce] at hab
  rw [show code - 1 + 1 = code by omega] at hfv
  obtain ⟨fv, rfl, har⟩ := hab
  obtain ⟨fa, fcap, rfl, hf1, hf2, hfel⟩ := har.elem (by decide)
  unfold maxLen at hf2
  have HFEL := Lib.hid hfel; have HMAP := Lib.hid hmap; have HFV := Lib.hid hfv
  have hidw : IntKind.u32.wrap (code : Int) = code := by rw [IntKind.wrap_u32]; omega
  have hid0 : ((code : Int) == 0) = false := by rw [beq_eq_false_iff_ne]; omega
  clear hfo hpl hC hKT hmap htab hcl2 hce hfv har hfel habs
  refine calls_of_wp Tryz.func47 rfl ?_
  rw [Tryz.ntmps47]
  refine wp_abs (R := St 677 [0, 2] [.pointer (some ⟨B, 0, none⟩), .pointer (some ⟨U, uo, none⟩)]) ?_ ?_
  · refine ⟨by simp, rfl, fun i t v h1 h2 => ?_⟩
    match i, h1, h2 with
    | 0, h1, h2 => simp at h1 h2; subst h1; subst h2; simp
    | 1, h1, h2 => simp at h1 h2; subst h1; subst h2; simp
    | i + 2, h1, h2 => simp at h1
  intro a hst
  have h0 := hst.get 0 0 _ rfl rfl
  have h2 := hst.get 1 2 _ rfl rfl
  have hz := hst.size
  have g3 : 3 < a.tmps.size := by rw [hz]; decide
  have g6 : 6 < a.tmps.size := by rw [hz]; decide
  have g7 : 7 < a.tmps.size := by rw [hz]; decide
  have g8 : 8 < a.tmps.size := by rw [hz]; decide
  have g9 : 9 < a.tmps.size := by rw [hz]; decide
  have g10 : 10 < a.tmps.size := by rw [hz]; decide
  have g11 : 11 < a.tmps.size := by rw [hz]; decide
  have g12 : 12 < a.tmps.size := by rw [hz]; decide
  have g13 : 13 < a.tmps.size := by rw [hz]; decide
  have g14 : 14 < a.tmps.size := by rw [hz]; decide
  have g15 : 15 < a.tmps.size := by rw [hz]; decide
  have g16 : 16 < a.tmps.size := by rw [hz]; decide
  have g40 : 40 < a.tmps.size := by rw [hz]; decide
  have g41 : 41 < a.tmps.size := by rw [hz]; decide
  have g42 : 42 < a.tmps.size := by rw [hz]; decide
  have g43 : 43 < a.tmps.size := by rw [hz]; decide
  have g44 : 44 < a.tmps.size := by rw [hz]; decide
  have g45 : 45 < a.tmps.size := by rw [hz]; decide
  have g46 : 46 < a.tmps.size := by rw [hz]; decide
  have g47 : 47 < a.tmps.size := by rw [hz]; decide
  have g48 : 48 < a.tmps.size := by rw [hz]; decide
  have g49 : 49 < a.tmps.size := by rw [hz]; decide
  have g50 : 50 < a.tmps.size := by rw [hz]; decide
  have g51 : 51 < a.tmps.size := by rw [hz]; decide
  have g52 : 52 < a.tmps.size := by rw [hz]; decide
  have g53 : 53 < a.tmps.size := by rw [hz]; decide
  have g54 : 54 < a.tmps.size := by rw [hz]; decide
  have g55 : 55 < a.tmps.size := by rw [hz]; decide
  have g56 : 56 < a.tmps.size := by rw [hz]; decide
  have g57 : 57 < a.tmps.size := by rw [hz]; decide
  have g58 : 58 < a.tmps.size := by rw [hz]; decide
  have g59 : 59 < a.tmps.size := by rw [hz]; decide
  have g60 : 60 < a.tmps.size := by rw [hz]; decide
  have g61 : 61 < a.tmps.size := by rw [hz]; decide
  have g62 : 62 < a.tmps.size := by rw [hz]; decide
  have g63 : 63 < a.tmps.size := by rw [hz]; decide
  have g64 : 64 < a.tmps.size := by rw [hz]; decide
  have g65 : 65 < a.tmps.size := by rw [hz]; decide
  have g66 : 66 < a.tmps.size := by rw [hz]; decide
  have g67 : 67 < a.tmps.size := by rw [hz]; decide
  have g68 : 68 < a.tmps.size := by rw [hz]; decide
  have g69 : 69 < a.tmps.size := by rw [hz]; decide
  have g70 : 70 < a.tmps.size := by rw [hz]; decide
  have g71 : 71 < a.tmps.size := by rw [hz]; decide
  have g72 : 72 < a.tmps.size := by rw [hz]; decide
  have g73 : 73 < a.tmps.size := by rw [hz]; decide
  have g74 : 74 < a.tmps.size := by rw [hz]; decide
  have g75 : 75 < a.tmps.size := by rw [hz]; decide
  have g76 : 76 < a.tmps.size := by rw [hz]; decide
  have g77 : 77 < a.tmps.size := by rw [hz]; decide
  have g78 : 78 < a.tmps.size := by rw [hz]; decide
  have g79 : 79 < a.tmps.size := by rw [hz]; decide
  have g80 : 80 < a.tmps.size := by rw [hz]; decide
  have g81 : 81 < a.tmps.size := by rw [hz]; decide
  have g82 : 82 < a.tmps.size := by rw [hz]; decide
  have g83 : 83 < a.tmps.size := by rw [hz]; decide
  have g84 : 84 < a.tmps.size := by rw [hz]; decide
  have g85 : 85 < a.tmps.size := by rw [hz]; decide
  have g86 : 86 < a.tmps.size := by rw [hz]; decide
  have g87 : 87 < a.tmps.size := by rw [hz]; decide
  have g88 : 88 < a.tmps.size := by rw [hz]; decide
  have g89 : 89 < a.tmps.size := by rw [hz]; decide
  have g90 : 90 < a.tmps.size := by rw [hz]; decide
  have g91 : 91 < a.tmps.size := by rw [hz]; decide
  have HDF := Lib.hid hst.defers; have HST := Lib.hid hst; clear hst hz
  go_upto_region 1 with fail
  have hal : Frame no w (w.alloc (.cells #[.pointer (some ⟨B, 0, none⟩)] 184)) := (Frame.refl _ _).alloc _
  have u3 := hal.cell hU3 id
  have u0 := hal.cell hU0 id
  have u6 := hal.cell hU6 id
  have hpb : (w.alloc (.cells #[.pointer (some ⟨B, 0, none⟩)] 184)).cell? ⟨w.heap.size, 0, none⟩ = some (.pointer (some ⟨B, 0, none⟩)) := cell_new _ _ _ _
  have hb1 := h.keep hal id (fun k hk => ⟨(h.apart k hk).1, id⟩)
  obtain ⟨_, _, _, c4, _⟩ := hb1.get
  have HB1 := Lib.hid hb1; have HAL := Lib.hid hal; have hBw := h.lt_size
  clear hb1 hal hU3 hU0 hU6 h
  refine wp_region_S no 15 [(0, true), (1, true), (2, true), (3, true), (4, true), (5, true), (6, true), (7, true), (8, true), (9, true), (10, true), (11, true), (12, true), (13, true), (14, true)] (by kernel_rfl) (by kernel_rfl) (fun c a w d v h => by cases d <;> exact h) ?_
  simp only [pickB, List.getElem?_toArray, List.getElem?_cons_zero, List.getElem?_cons_succ, Option.getD_some, Bool.false_eq_true, ↓reduceIte, Nat.reduceLT]
  iterate 15
    refine seqS_val (v := ?_) (fun w' hX => ?_) ?_
    rotate_left
    · have x0 := hX.cell u3 id; have x1 := hX.cell u0 id; have x2 := hX.cell u6 id; clear hX; go_simp; try with_reducible rfl
    try simp only [Act.put, List.setIfInBounds_toArray, List.set_cons_zero, List.set_cons_succ]
  refine seqS_nil ?_
  have hF1 : Frame no w (w.alloc (.cells #[.pointer (some ⟨B, 0, none⟩)] 184)).drew := HAL.out.drew
  have HB2 := Lib.hid (HB1.out.keep (w' := (w.alloc (.cells #[.pointer (some ⟨B, 0, none⟩)] 184)).drew) ((Frame.refl no _).drew) id (fun k hk => ⟨(HB1.out.apart k hk).1, id⟩))
  have HF1 := Lib.hid hF1; clear hF1 u3 u0 u6
  replace hpb : (w.alloc (.cells #[.pointer (some ⟨B, 0, none⟩)] 184)).drew.cell? ⟨w.heap.size, 0, none⟩ = some (.pointer (some ⟨B, 0, none⟩)) := hpb
  replace c4 : (w.alloc (.cells #[.pointer (some ⟨B, 0, none⟩)] 184)).drew.cell? ⟨B, 4, none⟩ = some (.int .u32 (off : Int)) := c4
  generalize (w.alloc (.cells #[.pointer (some ⟨B, 0, none⟩)] 184)).drew = w1 at *
  go_wp2_with fail
  (with_reducible refine (uint_any B K c off code _ w1 HB2.out (by omega)).mono ?_)
  rintro e w2 ⟨rfl, hb3, hf3⟩
  have hs1 := HF1.out.size
  have hpbB : ¬ w.heap.size = B := by omega
  have p2 := hf3.cell hpb hpbB
  have hF2 : Frame (fun k => k = B) w w2 := (HF1.out.mono fun _ h => h.elim).trans' hf3
  have HMAP2 := Lib.hid (HMAP.out.keep (hF2.block M HMAP.out.lt hMB))
  have hlook := HMAP2.out.look ul24 ul140 (zero188 w2) code (wf_u32 code hcl)
  rw [HFV.out] at hlook
  have HB3 := Lib.hid hb3; have HF3 := Lib.hid hf3; have HF2 := Lib.hid hF2; clear hb3 hf3 hpb c4 hF2
  go_upto_if 60 with fail
  refine wp_cond_false (eval_tmp (by simp [g60])) ?_
  go_upto_if 70 with fail
  refine wp_cond_false (eval_tmp (by simp [g70])) ?_
  go_upto_region 10 with fail
  have hal3 : Frame no w2 (w2.alloc (.cells #[.int .u32 (ab.tag : Int), .bool ab.child, .slice fa ab.fields.length fcap] 188)) := (Frame.refl _ _).alloc _
  have hA3 := heap_alloc_new w2 (.cells #[.int .u32 (ab.tag : Int), .bool ab.child, .slice fa ab.fields.length fcap] 188)
  generalize hw3 : (w2.alloc (.cells #[.int .u32 (ab.tag : Int), .bool ab.child, .slice fa ab.fields.length fcap] 188)) = w3 at *
  clear hw3
  have a0 := cell_of_row w3 _ 0 _ _ _ hA3
  have a1 := cell_of_row w3 _ 1 _ _ _ hA3
  have a2 := cell_of_row w3 _ 2 _ _ _ hA3
  simp only [List.getElem?_toArray, List.getElem?_cons_zero, List.getElem?_cons_succ] at a0 a1 a2
  have hmk := make119 ab.fields.length hfl
  have HA3 := Lib.hid hA3; have HAL3 := Lib.hid hal3; clear hA3 hal3
  refine wp_region_S no 12 [(0, true), (1, true), (2, true), (3, true), (4, true), (5, true), (6, true), (7, true), (8, false), (9, true), (10, false), (11, true)] (by kernel_rfl) (by kernel_rfl) (fun c a w d v h => by cases d <;> exact h) ?_
  simp only [pickB, List.getElem?_toArray, List.getElem?_cons_zero, List.getElem?_cons_succ, Option.getD_some, Bool.false_eq_true, ↓reduceIte, Nat.reduceLT]
  iterate 8
    refine seqS_val (v := ?_) (fun w' hX => ?_) ?_
    rotate_left
    · have x0 := hX.cell a0 id; have x1 := hX.cell a1 id; have x2 := hX.cell a2 id; clear hX; go_simp; try with_reducible rfl
    try simp only [Act.put, List.setIfInBounds_toArray, List.set_cons_zero, List.set_cons_succ]
  refine seqS_new (fun KK hK => ?_)
  go_simp
  refine hK _ _ (And.intro (Frame.dl (((Frame.refl no _).alloc _).drew)) ?_)
  clear hK
  iterate 1
    refine seqS_val (v := ?_) (fun w' hX => ?_) ?_
    rotate_left
    · clear hX; go_simp; try with_reducible rfl
    try simp only [Act.put, List.setIfInBounds_toArray, List.set_cons_zero, List.set_cons_succ]
  refine seqS_new (fun KK hK => ?_)
  go_simp
  refine hK _ _ (And.intro (Frame.dl (((Frame.refl no _).alloc _).drew)) ?_)
  clear hK
  iterate 1
    refine seqS_val (v := ?_) (fun w' hX => ?_) ?_
    rotate_left
    · clear hX; go_simp; try with_reducible rfl
    try simp only [Act.put, List.setIfInBounds_toArray, List.set_cons_zero, List.set_cons_succ]
  refine seqS_nil ?_
  clear a0 a1 a2
  have hF5 : Frame no w3 ((w3.alloc (.cells (zerosL z3 ab.fields.length).toArray 156)).alloc (.cells #[.int .u32 (off : Int), .int .u32 (ab.tag : Int), .bool ab.child, .slice (some ⟨w3.heap.size, 0, none⟩) ab.fields.length ab.fields.length] 121)).drew := (((Frame.refl _ _).alloc _).alloc _).drew
  have hFb : ((w3.alloc (.cells (zerosL z3 ab.fields.length).toArray 156)).alloc (.cells #[.int .u32 (off : Int), .int .u32 (ab.tag : Int), .bool ab.child, .slice (some ⟨w3.heap.size, 0, none⟩) ab.fields.length ab.fields.length] 121)).drew.heap[w3.heap.size]? = some (.cells (zerosL z3 ab.fields.length).toArray 156) := (Below.heap_alloc _ _ _ (by simp)).trans (heap_alloc_new _ _)
  have hEb : ((w3.alloc (.cells (zerosL z3 ab.fields.length).toArray 156)).alloc (.cells #[.int .u32 (off : Int), .int .u32 (ab.tag : Int), .bool ab.child, .slice (some ⟨w3.heap.size, 0, none⟩) ab.fields.length ab.fields.length] 121)).drew.heap[w3.heap.size + 1]? = some (.cells #[.int .u32 (off : Int), .int .u32 (ab.tag : Int), .bool ab.child, .slice (some ⟨w3.heap.size, 0, none⟩) ab.fields.length ab.fields.length] 121) := by
    have := heap_alloc_new (w3.alloc (.cells (zerosL z3 ab.fields.length).toArray 156)) (.cells #[.int .u32 (off : Int), .int .u32 (ab.tag : Int), .bool ab.child, .slice (some ⟨w3.heap.size, 0, none⟩) ab.fields.length ab.fields.length] 121)
    simp only [World.size_alloc] at this
    exact this
  have hw2s := HAL3.out.size
  have hA2 : w2.heap.size < w3.heap.size := (Array.getElem?_eq_some_iff.1 HA3.out).1
  generalize ((w3.alloc (.cells (zerosL z3 ab.fields.length).toArray 156)).alloc (.cells #[.int .u32 (off : Int), .int .u32 (ab.tag : Int), .bool ab.child, .slice (some ⟨w3.heap.size, 0, none⟩) ab.fields.length ab.fields.length] 121)).drew = w5 at *
  generalize hE0 : w3.heap.size + 1 = E0 at *
  generalize hF0 : w3.heap.size = F at *
  have e3 := cell_of_row w5 E0 3 _ _ _ hEb
  simp only [List.getElem?_toArray, List.getElem?_cons_zero, List.getElem?_cons_succ] at e3
  have HE0 := Lib.hid hE0; have HF0 := Lib.hid hF0; have HF5 := Lib.hid hF5; have HFB := Lib.hid hFb; have HEB := Lib.hid hEb
  clear hE0 hF0 hF5 hFb hEb
  go_upto_block 0 with fail
  refine wp_abs (R := St 677 KL [.pointer (some ⟨w.heap.size, 0, none⟩), .pointer (some ⟨E0, 0, none⟩), .pointer (some ⟨w2.heap.size, 0, none⟩), .pointer (some ⟨U, uo, none⟩), .int .i64 vers, .int .u32 (base : Int), .map (some M), .int .i64 (ab.fields.length : Int), .int .i64 ((0 : Nat) : Int)]) ?_ ?_
  · iterate 9 refine St.more ?_ (by simp [g3, g6, g7, g8, g9, g10, g11, g12, g13, g14, g15, g16, g40, g41, g42, g43, g44, g45, g46, g47, g48, g49, g50, g51, g52, g53, g54, g55, g56, g57, g58, g59, g60, g61, g62, g63, g64, g65, g66, g67, g68, g69, g70, g71, g72, g73, g74, g75, g76, g77, g78, g79, g80, g81, g82, g83, g84, g85, g86, g87, g88, g89, g90, g91, h2])
    exact St.nil (by simp only [Array.size_setIfInBounds]; exact HST.out.size) HDF.out
  clear HST HDF h0 h2 g3 g6 g7 g8 g9 g10 g11 g12 g13 g14 g15 g16 g40 g41 g42 g43 g44 g45 g46 g47 g48 g49 g50 g51 g52 g53 g54 g55 g56 g57 g58 g59 g60 g61 g62 g63 g64 g65 g66 g67 g68 g69 g70 g71 g72 g73 g74 g75 g76 g77 g78 g79 g80 g81 g82 g83 g84 g85 g86 g87 g88 g89 g90 g91
  intro a hst
  have HST := Lib.hid hst; clear hst
  have hlens := HH.out.len
  have hst0 : EnSt w B w.heap.size w2.heap.size E0 F fa fcap K c ab fields vals l (off + (uleb code).length) off 0 w5 := by
    have hE0v := HE0.out
    have hF0v := HF0.out
    have hs1' := HF1.out.size
    have hs2' := HF3.out.size
    have h35 : Frame no w2 w5 := HAL3.out.trans HF5.out fun _ h => h.elim
    have hb5 := HB3.out.keep h35 id (fun k hk => ⟨(HB3.out.apart k hk).1, id⟩)
    refine ⟨HF2.out.trans h35 fun _ h => h.elim, h35.cell p2 id, HEB.out, (HF5.out.block _ (Array.getElem?_eq_some_iff.1 HA3.out).1 id).trans HA3.out, ?_, ?_⟩
    · rw [List.take_zero, Nat.sub_zero]; exact HFB.out
    · rw [List.take_zero, List.drop_zero]; exact hb5
  have hST0 := Lib.hid hst0; clear hst0
  refine wp_block ?_
  refine wp_loop (fun a' w' => ∃ i : Nat, i ≤ ab.fields.length ∧ St 677 KL [.pointer (some ⟨w.heap.size, 0, none⟩), .pointer (some ⟨E0, 0, none⟩), .pointer (some ⟨w2.heap.size, 0, none⟩), .pointer (some ⟨U, uo, none⟩), .int .i64 vers, .int .u32 (base : Int), .map (some M), .int .i64 (ab.fields.length : Int), .int .i64 (i : Int)] a' ∧ a'.defers = [] ∧ EnSt w B w.heap.size w2.heap.size E0 F fa fcap K c ab fields vals l (off + (uleb code).length) off i w')
    (fun a' _ => ab.fields.length - (intOf (a'.eval (.tmp 91))).toNat) ⟨0, Nat.zero_le _, HST.out, HST.out.defers, hST0.out⟩ ?_
  clear HST hST0
  rintro a w6 ⟨i, hi, hst, hdf, hen⟩
  have h90 := hst.get 7 90 _ rfl rfl
  have h91 := hst.get 8 91 _ rfl rfl
  have hz := hst.size
  have g92 : 92 < a.tmps.size := by rw [hz]; decide
  have HST := Lib.hid hst; have HEN := Lib.hid hen; have HDF := Lib.hid hdf
  have h91e : a.eval (.tmp 91) = .int .i64 (i : Int) := eval_tmp h91
  have H91 := Lib.hid h91e
  clear hst hen hz hdf h91e
  go_upto_if 92 with fail
  by_cases hlt : i < ab.fields.length
  · refine wp_cond_true (eval_tmp (by simp [g92]; omega)) ?_
    go_upto_block 1 with fail
    refine wp_abs (R := St 677 KL [.pointer (some ⟨w.heap.size, 0, none⟩), .pointer (some ⟨E0, 0, none⟩), .pointer (some ⟨w2.heap.size, 0, none⟩), .pointer (some ⟨U, uo, none⟩), .int .i64 vers, .int .u32 (base : Int), .map (some M), .int .i64 (ab.fields.length : Int), .int .i64 (i : Int)]) ((HST.out.mk').setV 92 _ (by decide)) ?_
    clear HST h90 h91 g92
    intro a7 hst
    obtain ⟨Rb, Ro, hfa, hKb, hcell⟩ := HFEL.out i hlt
    have hl1 := hlens.1
    have hl2 := hlens.2
    obtain ⟨ha1, ha2, ha3⟩ := HH.out.at i hlt (by omega) (by omega)
    obtain ⟨p27, p35, p22⟩ := HPL.out _ (List.getElem_mem hlt)
    have r0 := HEN.out.frame.cell (hcell 0 _ rfl) (HKT.out Rb hKb).2
    have r1 := HEN.out.frame.cell (hcell 1 _ rfl) (HKT.out Rb hKb).2
    have r2 := HEN.out.frame.cell (hcell 2 _ rfl) (HKT.out Rb hKb).2
    have hRbl := (HKT.out Rb hKb).1
    have hrow : Row w6 F 156 ((fields.take i).flatMap fldC) z3 (zerosL z3 (ab.fields.length - (i + 1))) := by
      have := HEN.out.row
      rw [show ab.fields.length - i = ab.fields.length - (i + 1) + 1 by omega, zerosL_succ] at this
      unfold Row; rw [this, List.append_assoc]
    have hAA : ((fields.take i).flatMap fldC).length = i * 3 := by
      rw [flat_length fldC 3 _ (fun _ _ => rfl), List.length_take, Nat.min_eq_left (by omega)]
    have hbuf := HEN.out.buf
    rw [List.drop_eq_getElem_cons (show i < vals.length by omega), List.flatten_cons, List.append_assoc] at hbuf
    have hA2' := cell_of_row w6 w2.heap.size 2 _ _ _ HEN.out.a
    have hE3' := cell_of_row w6 E0 3 _ _ _ HEN.out.e
    simp only [List.getElem?_toArray, List.getElem?_cons_zero, List.getElem?_cons_succ] at hA2' hE3'
    rw [hfa] at hA2'
    have hE0v := HE0.out
    have hF0v := HF0.out
    have hUl := cell_lt HC.out.asz
    have hDl := cell_lt HC.out.order
    have hs1' := HF1.out.size
    have hs2' := HF3.out.size
    dsimp only at hUl hDl
    have hC6 := HC.out.keep HEN.out.frame HC.out.apart.2 HC.out.apart.1 (fun k hk => (HC.out.hKS k hk).2)
    refine en_round B w.heap.size U uo D E0 w2.heap.size F Rb Ro ab.fields.length ab.fields.length fcap i K KS c E _ _ _ _ _ _ _ _ _ _ _ _ _ _ _ w6 a7 _ (fun c a w d v h => by cases d <;> exact h) hst ha3 p27 p35 p22 hC6 HEN.out.p hpbB hbuf hE3' hA2' hlt hlt hfl hf1 hf2 r0 r1 r2 hrow hAA ⟨by omega, by omega, by omega, by omega, by omega, by omega, by omega, fun h => by have := (HC.out.hKS _ h).1; omega, fun h => by have := (HB2.out.apart _ h).1; omega⟩ (by omega) ?_
    clear r0 r1 r2 hrow hbuf hA2' hE3' hC6 hst
    intro a8 w8 hst8 hrow8 hb8 hf8
    have h91 := hst8.get 8 91 _ rfl rfl
    have hz := hst8.size
    have g91 : 91 < a8.tmps.size := by rw [hz]; decide
    have g670 : 670 < a8.tmps.size := by rw [hz]; decide
    have h91g : a8.tmps[91]'g91 = .int .i64 (i : Int) := by obtain ⟨q1, q2⟩ := Array.getElem?_eq_some_iff.1 h91; exact q2
    clear h91
    have HST8 := Lib.hid hst8; have HROW8 := Lib.hid hrow8; have HB8 := Lib.hid hb8; have HF8 := Lib.hid hf8
    have HA1 := Lib.hid ha1; have HA2 := Lib.hid ha2
    clear hst8 hrow8 hb8 hf8 hz ha1 ha2 ha3 hcell hfa
    go_wp2_with fail
    have hBF : ¬ F = B := by omega
    refine ⟨⟨i + 1, by omega, ?_, HST8.out.defers, ⟨?_, ?_, ?_, ?_, ?_, ?_⟩⟩, ?_⟩
    · rw [show ((i + 1 : Nat) : Int) = (i : Int) + 1 by omega]
      exact (HST8.out.mk'.setV 670 _ (by decide)).upd91
    · exact HEN.out.frame.trans HF8.out fun k hk => hk.elim .inl fun e => .inr (by omega)
    · exact HF8.out.cell HEN.out.p (by show ¬ (w.heap.size = B ∨ w.heap.size = F); omega)
    · exact (HF8.out.block E0 (Array.getElem?_eq_some_iff.1 HEN.out.e).1 (by show ¬ (E0 = B ∨ E0 = F); omega)).trans HEN.out.e
    · exact (HF8.out.block _ (Array.getElem?_eq_some_iff.1 HEN.out.a).1 (by show ¬ (w2.heap.size = B ∨ w2.heap.size = F); omega)).trans HEN.out.a
    · have := HROW8.out
      unfold Row at this
      rw [this, List.take_succ_eq_append_getElem (by omega), List.flatMap_append]
      simp [fldC, HA1.out, HA2.out]
    · have := HB8.out
      rw [take_flatten_succ vals i (by omega), List.length_append, ← Nat.add_assoc]
      exact this
    · rw [H91.out, eval_tmp (v := .int .i64 ((i : Int) + 1)) (by simp [g91])]
      simp [intOf]; omega
  · refine wp_cond_false (eval_tmp (by simp [g92]; omega)) ?_
    have hie : i = ab.fields.length := by omega
    have h3 := HST.out.get 0 3 _ rfl rfl
    have h14 := HST.out.get 1 14 _ rfl rfl
    have hz := HST.out.size
    have g6 : 6 < a.tmps.size := by rw [hz]; decide
    have g671 : 671 < a.tmps.size := by rw [hz]; decide
    have g672 : 672 < a.tmps.size := by rw [hz]; decide
    have g673 : 673 < a.tmps.size := by rw [hz]; decide
    have g674 : 674 < a.tmps.size := by rw [hz]; decide
    have g675 : 675 < a.tmps.size := by rw [hz]; decide
    have g676 : 676 < a.tmps.size := by rw [hz]; decide
    have hp6 := HEN.out.p
    obtain ⟨_, _, _, _, c6, _⟩ := HEN.out.buf.get
    have HIE := Lib.hid hie
    clear hz hie h90 h91
    refine wp_exit ?_
    go_upto_if 675 with fail
    refine wp_cond_false (eval_tmp (by simp [g675])) ?_
    go_wp2_with fail
    refine bodyPost_ret (v := .pointer (some ⟨E0, 0, none⟩)) ?_ HDF.out ?_
    · rw [results_tmp Tryz.results47]; simp [g6]
    have hE0v := HE0.out
    have hF0v := HF0.out
    have hs1' := HF1.out.size
    have hs2' := HF3.out.size
    have hl1 := hlens.1
    have hl2 := hlens.2
    have hrow := HEN.out.row
    have hbuf := HEN.out.buf
    have hfr := HEN.out.frame
    have heb := HEN.out.e
    rw [HIE.out, Nat.sub_self, zerosL_zero, List.append_nil, List.take_of_length_le (by omega)] at hrow
    rw [HIE.out, List.take_of_length_le (show vals.length ≤ ab.fields.length by omega), List.drop_eq_nil_of_le (show vals.length ≤ ab.fields.length by omega)] at hbuf
    rw [← hl2] at heb
    exact ⟨E0, rfl, by omega, ⟨_, heb, Ar.ofRow hrow (fun _ _ => rfl) (by unfold maxLen; omega) ⟨by omega, (Array.getElem?_eq_some_iff.1 hrow).1⟩⟩, hbuf, hfr⟩
end Go.Proofs.YtklcoppfkfenfaaGreatDoor
