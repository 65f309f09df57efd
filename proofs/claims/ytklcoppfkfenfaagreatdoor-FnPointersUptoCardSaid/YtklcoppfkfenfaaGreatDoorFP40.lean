/-
  The program's entryOf: an entry of the package as the statement's entry.
-/
import Derived.Test.YtklcoppfkfenfaaGreatDoorFP38
import Derived.Test.YtklcoppfkfenfaaGreatDoorFP16
import Derived.Test.YtklcoppfkfenfaaGreatDoorFP33
set_option linter.all false
set_option linter.unusedVariables false
set_option linter.unusedSimpArgs false
namespace Go.Proofs.YtklcoppfkfenfaaGreatDoor
set_option maxRecDepth 1000000
open Go Go.RowKit

/-- entryOf under way -/
structure EoSt (w : World) (e : EntryD) (fv : Value) (ps : List (FieldD × Value)) (wr : World) : Prop where
  frame : Frame no w wr
  size : w.heap.size + 2 ≤ wr.heap.size
  res : wr.heap[w.heap.size]? = some (.cells #[.int .u32 0, .int .u32 0, .bool false, .slice none 0 0] 96)
  blk : wr.heap[w.heap.size + 1]? = some (.cells #[.int .u32 (e.off : Int), .int .u32 (e.tag : Int), .bool e.children, fv] 96)
  row : wr.ownsRow (w.heap.size + 2) 101 5 fv ps.length (ps.flatMap fieldC)
  data : ∀ p ∈ ps, Rd (fun k => w.heap.size + 2 ≤ k ∧ k < wr.heap.size ∧ ¬ fv.ownBlock = some k) wr p.2 p.1.data

theorem EoSt.fields {w : World} {e : EntryD} {fv : Value} {ps : List (FieldD × Value)} {wr : World} (h : EoSt w e fv ps wr) : FieldsAt (fun k => w.heap.size + 2 ≤ k ∧ k < wr.heap.size) wr fv (ps.map Prod.fst) :=
  ⟨ps, rfl, ⟨fun _ _ => rfl, (Sl.of_own h.row).mono fun k hk => ⟨(h.row.lt k hk).1, (h.row.lt k hk).2⟩⟩, fun p hp => (h.data p hp).mono fun k hk => ⟨hk.1, hk.2.1⟩⟩

/-- one more field -/
theorem EoSt.push {w w1 w2 : World} {e : EntryD} {fv v' dv : Value} {ps : List (FieldD × Value)} {wr : World} {f : FieldD} (h : EoSt w e fv ps wr) (hf1 : Frame no wr w1) (hd : Rd (fun k => wr.heap.size ≤ k ∧ k < w1.heap.size) w1 dv f.data)
    (hf : Frame (fun k => fv.ownBlock = some k) w1 w2) (hm : ∀ k, v'.ownBlock = some k → fv.ownBlock = some k ∨ w1.heap.size ≤ k) (ho : w2.ownsRow (w.heap.size + 2) 101 5 v' (ps.length + 1) (ps.flatMap fieldC ++ fieldC (f, dv))) :
    EoSt w e v' (ps ++ [(f, dv)]) (w2.setCell ⟨w.heap.size + 1, 3, none⟩ v') := by
  have hlt := h.row.lt
  have hsz := h.size
  have hn : ∀ k, k < w.heap.size + 2 → ¬ fv.ownBlock = some k := fun k hk e => by have := (hlt k e).1; omega
  have hn' : ∀ k, k < w.heap.size + 2 → ¬ v'.ownBlock = some k := fun k hk e => by have := (ho.lt k e).1; omega
  have hs1 := hf1.size
  have hs2 := hf.size
  have hfe : Frame (fun k => k = w.heap.size + 1) w2 (w2.setCell ⟨w.heap.size + 1, 3, none⟩ v') := (Frame.refl (fun k => k = w.heap.size + 1) w2).set (.inl rfl) _
  have hb : w2.heap[w.heap.size + 1]? = some (.cells #[.int .u32 (e.off : Int), .int .u32 (e.tag : Int), .bool e.children, fv] 96) :=
    (hf.block _ (by omega) (hn _ (by omega))).trans ((hf1.block _ (by omega) id).trans h.blk)
  have hr : w2.heap[w.heap.size]? = some (.cells #[.int .u32 0, .int .u32 0, .bool false, .slice none 0 0] 96) :=
    (hf.block _ (by omega) (hn _ (by omega))).trans ((hf1.block _ (by omega) id).trans h.res)
  have hss : (w2.setCell ⟨w.heap.size + 1, 3, none⟩ v').heap.size = w2.heap.size := by simp [World.setCell]
  refine ⟨?_, by omega, ?_, heap_setCell_row hb v', ?_, fun p hp => ?_⟩
  · refine ((h.frame.trans' hf1).trans hf fun k hk => .inr ?_).set (.inr (by simp)) _
    have := (hlt k hk).1
    omega
  · exact (hfe.block _ (by omega) (by omega)).trans hr
  · have : w2.ownsRow (w.heap.size + 2) 101 5 v' (ps ++ [(f, dv)]).length ((ps ++ [(f, dv)]).flatMap fieldC) := by simpa using ho
    exact ownsRow_keep this fun k hk => hfe.block k (this.lt k hk).2 (by have := (this.lt k hk).1; omega)
  · rcases List.mem_append.1 hp with hp | hp
    · have h1 := ((h.data p hp).keep (hf1.same fun k hk => ⟨hk.2.1, id⟩)).keep (hf.same fun k hk => ⟨by omega, hk.2.2⟩)
      refine (h1.keep (hfe.same fun k hk => ⟨by omega, by omega⟩)).mono fun k hk => ⟨hk.1, by omega, fun e => ?_⟩
      rcases hm k e with e | e
      · exact hk.2.2 e
      · omega
    · simp at hp
      subst hp
      refine ((hd.keep (hf.same fun k hk => ⟨hk.2, fun e => by have := (hlt k e).2; omega⟩)).keep (hfe.same fun k hk => ⟨by omega, by omega⟩)).mono fun k hk => ⟨by omega, by omega, fun e => ?_⟩
      rcases hm k e with e | e
      · have := (hlt k e).2; omega
      · omega

set_option maxHeartbeats 8000000 in
theorem entry_of (E0 : Nat) (K : Bs) (e : EntryD) (w : World) (hK : ∀ k, K k → k < w.heap.size) (h : EntR K w E0 e) (hko : ∀ f ∈ e.fields, KindOk f.kind f.n f.data) (hlen : e.fields.length ≤ 1000000) :
    Calls Tryz.prog 30 #[.pointer (some ⟨E0, 0, none⟩)] w fun en w' => ∃ fv, en = .returned (.agg #[.int .u32 (e.off : Int), .int .u32 (e.tag : Int), .bool e.children, fv]) ∧ Frame no w w' ∧ FieldsAt (fun k => w.heap.size ≤ k ∧ k < w'.heap.size) w' fv e.fields := by
  obtain ⟨iv, hE, har⟩ := h
  obtain ⟨fa, fcap, rfl, hcap, hcm, hel⟩ := har.elem (by decide)
  have HEL := Lib.hid hel; clear hel har
  have HKO := Lib.hid hko; clear hko
  have HK := Lib.hid hK; clear hK
  unfold maxLen at hcm
  have hal : Frame no w (w.alloc (.cells #[.int .u32 0, .int .u32 0, .bool false, .slice none 0 0] 96)) := (Frame.refl _ _).alloc _
  have e0 := hal.cell (show w.cell? ⟨E0, 0, none⟩ = some (.int .u32 (e.off : Int)) from cell_of_row _ _ _ _ _ _ hE) id
  have e1 := hal.cell (show w.cell? ⟨E0, 1, none⟩ = some (.int .u32 (e.tag : Int)) from cell_of_row _ _ _ _ _ _ hE) id
  have e2 := hal.cell (show w.cell? ⟨E0, 2, none⟩ = some (.bool e.children) from cell_of_row _ _ _ _ _ _ hE) id
  have e3 := hal.cell (show w.cell? ⟨E0, 3, none⟩ = some (.slice fa e.fields.length fcap) from cell_of_row _ _ _ _ _ _ hE) id
  clear hE
  have HAL := Lib.hid hal; clear hal
  go_enter Tryz.func30, Tryz.ntmps30
  go_upto_region 1 with fail
  generalize hw1 : w.alloc (.cells #[.int .u32 0, .int .u32 0, .bool false, .slice none 0 0] 96) = w1 at *
  have HW1 := Lib.hid hw1; clear hw1
  refine wp_region_seq no 14 [(0, true), (1, true), (2, true), (3, true), (4, true), (5, true), (6, true), (7, true), (8, true), (9, true), (10, true), (11, true), (12, true), (13, false), (14, false)] (by kernel_rfl) (by kernel_rfl) (fun _ _ _ d _ h => by cases d <;> exact h) ?_
  simp only [pickB, List.getElem?_toArray, List.getElem?_cons_zero, List.getElem?_cons_succ, Option.getD_some, Bool.false_eq_true, ↓reduceIte, Nat.reduceLT]
  iterate 13
    refine seq_val (v := ?_) (fun w' hX => ?_) ?_
    rotate_left
    · have x0 := hX.cell e0 id; have x1 := hX.cell e1 id; have x2 := hX.cell e2 id; clear hX; go_simp; try with_reducible rfl
    try simp only [Act.put, List.setIfInBounds_toArray, List.set_cons_zero, List.set_cons_succ]
  refine seq_new (fun _ _ => ?_)
  go_wp2_with fail
  refine ⟨(Frame.refl _ _).alloc _, ?_⟩
  refine seq_out (fun KK hK => ?_)
  go_wp2_with fail
  refine seq_nil ?_
  have hs1 : w1.heap.size = w.heap.size + 1 := by rw [← HW1.out]; simp
  have hEO : EoSt w e nilS [] ((w1.alloc (.cells #[.int .u32 (e.off : Int), .int .u32 (e.tag : Int), .bool e.children, .slice none 0 0] 96)).drew) := by
    refine ⟨(HAL.out.alloc _).drew, by simp [hs1], ?_, ?_, ⟨rfl, .inl ⟨rfl, rfl⟩⟩, fun p hp => by cases hp⟩
    · refine (heap_alloc_old w1 _ (by omega)).trans ?_
      rw [← HW1.out]
      exact heap_alloc_new _ _
    · rw [← hs1]
      exact heap_alloc_new _ _
  rw [hs1]
  have e3' := (((Frame.refl no w1).alloc (.cells #[.int .u32 (e.off : Int), .int .u32 (e.tag : Int), .bool e.children, .slice none 0 0] 96)).drew).cell e3 id
  generalize (w1.alloc (.cells #[.int .u32 (e.off : Int), .int .u32 (e.tag : Int), .bool e.children, .slice none 0 0] 96)).drew = w2 at *
  clear e0 e1 e2 e3 hs1 HW1 HAL
  go_upto_block 0 with fail
  go_cut [5, 24] (fun _ _ wx => ∃ (w20 : World) (fv : Value) (ps : List (FieldD × Value)), w20 = wx ∧ EoSt w e fv ps wx ∧ ps.map Prod.fst = e.fields)
  case first =>
    go_wp2_with fail
    go_loopw [5, 24] (fun _ i wr => ∃ (k : Nat) (fv : Value) (ps : List (FieldD × Value)), k ≤ e.fields.length ∧ i = .int .i64 k ∧ EoSt w e fv ps wr ∧ ps.map Prod.fst = e.fields.take k) (fun _ i _ => e.fields.length - (intOf i).toNat)
    case atStart => exact ⟨0, nilS, [], Nat.zero_le _, rfl, hEO, rfl⟩
    case round =>
    clear hEO e3'
    obtain ⟨k, fv, ps, hk', rfl, hEO, hps⟩ := hrel
    by_cases hlt : k < e.fields.length
    · obtain ⟨b, o, rfl, hb, hc⟩ := HEL.out k hlt
      have c0 := hEO.frame.cell (hc 0 _ rfl) id
      have c1 := hEO.frame.cell (hc 1 _ rfl) id
      have c2 := hEO.frame.cell (hc 2 _ rfl) id
      rw [Nat.add_zero] at c0
      have hko := HKO.out e.fields[k] (List.getElem_mem hlt)
      generalize hF : e.fields[k] = F at *
      have HF := Lib.hid hF; clear hF hc
      have HKF := Lib.hid hko; clear hko
      have HEO := Lib.hid hEO; clear hEO
      have HPS := Lib.hid hps; clear hps
      obtain ⟨it, ix, hiv⟩ := ifv_shape F.kind F.n F.data
      have c1' : wr.cell? ⟨b, o + k * 3 + 1, none⟩ = some (.iface it ix) := by rw [← hiv]; exact c1
      have HIV := Lib.hid hiv; clear hiv c1
      go_upto_region 5 with fail
      clear c0 c1' c2
      have q0 : (wr.alloc (.cells #[.int .u32 (F.attr : Int), .iface it ix, .int .i64 F.cls] 156)).cell? ⟨wr.heap.size, 0, none⟩ = some (.int .u32 (F.attr : Int)) := cell_new _ _ _ _
      have q1 : (wr.alloc (.cells #[.int .u32 (F.attr : Int), .iface it ix, .int .i64 F.cls] 156)).cell? ⟨wr.heap.size, 1, none⟩ = some (.iface it ix) := cell_new _ _ _ _
      have q2 : (wr.alloc (.cells #[.int .u32 (F.attr : Int), .iface it ix, .int .i64 F.cls] 156)).cell? ⟨wr.heap.size, 2, none⟩ = some (.int .i64 F.cls) := cell_new _ _ _ _
      have hfa : Frame no wr (wr.alloc (.cells #[.int .u32 (F.attr : Int), .iface it ix, .int .i64 F.cls] 156)) := (Frame.refl _ _).alloc _
      have hsa : (wr.alloc (.cells #[.int .u32 (F.attr : Int), .iface it ix, .int .i64 F.cls] 156)).heap.size = wr.heap.size + 1 := by simp
      have hrow := ownsRow_keep HEO.out.row fun k hk => hfa.block k (HEO.out.row.lt k hk).2 id
      obtain ⟨fb, fbc, hfv⟩ := ownsRow_shape hrow
      have q3 : (wr.alloc (.cells #[.int .u32 (F.attr : Int), .iface it ix, .int .i64 F.cls] 156)).cell? ⟨w.heap.size + 1, 3, none⟩ = some fv := hfa.cell (cell_of_row _ _ _ _ _ _ HEO.out.blk) id
      have hnB : ¬ fv.ownBlock = some (w.heap.size + 1) := fun e => by have := (HEO.out.row.lt _ e).1; omega
      have hnW : ¬ fv.ownBlock = some wr.heap.size := fun e => by have := (HEO.out.row.lt _ e).2; omega
      have HnB := Lib.hid hnB; have HnW := Lib.hid hnW; clear hnB hnW
      rw [hfv] at q3 hrow
      have HFV := Lib.hid hfv; clear hfv
      generalize (wr.alloc (.cells #[.int .u32 (F.attr : Int), .iface it ix, .int .i64 F.cls] 156)) = w3 at *
      have HFA := Lib.hid hfa; have HSA := Lib.hid hsa; clear hfa hsa
      refine wp_region_seq (fun k => fv.ownBlock = some k) 13 [(0, true), (1, true), (2, true), (3, true), (4, true), (5, true), (6, true), (7, true), (8, false), (9, true), (10, false), (11, false), (12, true), (13, false)] (by kernel_rfl) (by kernel_rfl) (fun _ _ _ d _ h => by cases d <;> exact h) ?_
      simp only [pickB, List.getElem?_toArray, List.getElem?_cons_zero, List.getElem?_cons_succ, Option.getD_some, Bool.false_eq_true, ↓reduceIte, Nat.reduceLT]
      iterate 8
        refine seq_val (v := ?_) (fun w' hX => ?_) ?_
        rotate_left
        · have x0 := hX.cell q0 HnW.out; have x1 := hX.cell q1 HnW.out; have x2 := hX.cell q2 HnW.out; have x3 := hX.cell q3 HnB.out; clear hX; go_simp; try with_reducible rfl
        try simp only [Act.put, List.setIfInBounds_toArray, List.set_cons_zero, List.set_cons_succ]
      refine seq_new (fun KK hK => ?_)
      go_wp2_with fail
      have hvo := value_of F.kind F.n F.data w3.drew HKF.out
      rw [HIV.out] at hvo
      (with_reducible refine hvo.mono ?_)
      clear hvo
      rintro en w9 ⟨dv, rfl, hf9, hrd9⟩
      obtain ⟨da, dcap, rfl⟩ := hrd9.shape
      have hF9 : Frame no w3 w9 := ((Frame.refl no w3).drew).trans hf9 (fun _ h => h.elim)
      go_wp2_with fail
      refine ⟨Frame.of_no hf9, ?_⟩
      iterate 1
        refine seq_val (v := ?_) (fun w' hX => ?_) ?_
        rotate_left
        · clear hX; go_simp; try with_reducible rfl
        try simp only [Act.put, List.setIfInBounds_toArray, List.set_cons_zero, List.set_cons_succ]
      refine seq_new (fun _ _ => ?_)
      go_wp2_with fail
      refine ⟨(Frame.refl _ _).alloc _, ?_⟩
      have hpl : ps.length = k := by have := congrArg List.length HPS.out; simp only [List.length_map, List.length_take] at this; omega
      refine seq_new (fun KK hK => ?_)
      have hro := ownsRow_keep hrow (w' := w9.alloc (.cells #[.int .u32 (F.attr : Int), .int .i64 F.cls, .int .i64 F.kind, .int .u64 (F.n : Int), .slice da F.data.length dcap] 101)) (fun k hk => (hF9.alloc _).block k (hrow.lt k hk).2 id)
      refine wp_app_any info101 underlying94 rfl (by decide) _ _ rfl (w.heap.size + 2) (.slice fb ps.length fbc) ps.length (ps.flatMap fieldC) rfl hro (fun k => k = w9.heap.size) ⟨w9.heap.size, 0, none⟩ 1 1 [.int .u32 (F.attr : Int), .int .i64 F.cls, .int .i64 F.kind, .int .u64 (F.n : Int), .slice da F.data.length dcap] rfl (Sl.laidAt rfl rfl (by decide)) (by intro y hy; simp at hy; rcases hy with rfl | rfl | rfl | rfl | rfl <;> rfl) (by unfold maxLen; omega) (by omega) (by have := hF9.size; have := HEO.out.size; have := HSA.out; simp only [World.size_alloc]; omega) (fun v' w10 p1 p2 p4 => ?_)
      obtain ⟨va, vc, rfl⟩ := ownsRow_shape p1
      have hg10 : Frame (fun k => fv.ownBlock = some k) w9 w10 := ((Frame.refl _ _).alloc _).grown p2 (fun k hk => .inl (by rw [HFV.out]; exact hk))
      have cE10 := hg10.cell (hF9.cell q3 id) HnB.out
      have fE10 : w10.frozen? ⟨w.heap.size + 1, 3, none⟩ = false := (hg10.frozen (hF9.cell q3 id) HnB.out).trans ((hF9.frozen q3 id).trans ((HFA.out.frozen (cell_of_row _ _ 3 _ _ _ HEO.out.blk) id).trans (by simp [World.frozen?, HEO.out.blk])))
      refine hK _ _ ⟨(Frame.refl _ _).grown p2 (fun k hk => .inl (by rw [HFV.out]; exact hk)), ?_⟩
      try simp only [Act.put, List.setIfInBounds_toArray, List.set_cons_zero, List.set_cons_succ]
      iterate 1
        refine seq_val (v := ?_) (fun w' hX => ?_) ?_
        rotate_left
        · clear hX; go_simp; try with_reducible rfl
        try simp only [Act.put, List.setIfInBounds_toArray, List.set_cons_zero, List.set_cons_succ]
      refine seq_out (fun KK hK => ?_)
      go_wp2_with fail
      refine seq_nil ?_
      have hsa := HSA.out
      have hs9 := hF9.size
      have hEO' := HEO.out.push (f := F) (w1 := w9) (w2 := w10) (v' := .slice va (ps.length + 1) vc) (dv := .slice da F.data.length dcap) (HFA.out.trans hF9 fun _ h => h.elim) (hrd9.mono fun k hk => by have h := hk.1; simp only [World.size_drew] at h; omega) hg10
        (fun k hk => by rw [HFV.out]; exact (p4.or k hk).imp id fun e => by simp only [World.size_alloc] at e; omega) p1
      rw [hpl] at hEO'
      clear hg10 cE10 fE10 p1 p2 p4 hro hrow q0 q1 q2 q3 hF9 hf9 hrd9
      go_wp2_with fail
      go_roundw
      case rel =>
        refine ⟨k + 1, _, ps ++ [(F, .slice da F.data.length dcap)], by omega, by go_num, hEO', ?_⟩
        rw [List.take_succ_eq_append_getElem hlt, HF.out, List.map_append, HPS.out]; rfl
      case measure => simp [intOf]; omega
    · have HT := Lib.hid (show e.fields.take k = e.fields from List.take_of_length_le (by omega))
      go_wp2_with fail
      go_meet
      case rel => exact ⟨_, fv, ps, rfl, hEO, by rw [hps, HT.out]⟩
  case rest =>
  obtain ⟨w20, fv, ps, rfl, hEO, hps⟩ := hcut
  have b0 : w20.cell? ⟨w.heap.size + 1, 0, none⟩ = some (.int .u32 (e.off : Int)) := cell_of_row _ _ _ _ _ _ hEO.blk
  have b1 : w20.cell? ⟨w.heap.size + 1, 1, none⟩ = some (.int .u32 (e.tag : Int)) := cell_of_row _ _ _ _ _ _ hEO.blk
  have b2 : w20.cell? ⟨w.heap.size + 1, 2, none⟩ = some (.bool e.children) := cell_of_row _ _ _ _ _ _ hEO.blk
  have b3 : w20.cell? ⟨w.heap.size + 1, 3, none⟩ = some fv := cell_of_row _ _ _ _ _ _ hEO.blk
  obtain ⟨fb, fbc, hfv⟩ := ownsRow_shape hEO.row
  rw [hfv] at b3
  have HFV := Lib.hid hfv; clear hfv
  have r0 : ∀ i (h : i < 4), w20.cell? ⟨w.heap.size, i, none⟩ = (#[Value.int .u32 0, .int .u32 0, .bool false, .slice none 0 0] : Array Value)[i]? := fun i h => cell_of_row _ _ _ _ _ _ hEO.res
  have z0 : w20.cell? ⟨w.heap.size, 0, none⟩ = some (.int .u32 0) := r0 0 (by decide)
  have z1 : w20.cell? ⟨w.heap.size, 1, none⟩ = some (.int .u32 0) := r0 1 (by decide)
  have z2 : w20.cell? ⟨w.heap.size, 2, none⟩ = some (.bool false) := r0 2 (by decide)
  have z3 : w20.cell? ⟨w.heap.size, 3, none⟩ = some (.slice none 0 0) := r0 3 (by decide)
  have y : ∀ i, w20.frozen? ⟨w.heap.size, i, none⟩ = false := fun i => by simp [World.frozen?, hEO.res]
  have y0 := y 0; have y1 := y 1; have y2 := y 2; have y3 := y 3
  have HEO := Lib.hid hEO; have HPS := Lib.hid hps
  clear hEO hps r0 y
  go_wp2_with fail
  refine bodyPost_ret (v := .agg #[.int .u32 (e.off : Int), .int .u32 (e.tag : Int), .bool e.children, .slice fb ps.length fbc]) ?_ rfl ⟨_, rfl, ?_, ?_⟩
  · simp [results, Tryz.results30, go_sem, z0, z1, z2, z3]
  · exact ((((HEO.out.frame.set (.inr (Nat.le_refl _)) _).set (.inr (Nat.le_refl _)) _).set (.inr (Nat.le_refl _)) _).set (.inr (Nat.le_refl _)) _)
  · have h := HEO.out.fields
    rw [HFV.out, HPS.out] at h
    have hf : Frame (fun k => k = w.heap.size) w20 ((((w20.setCell ⟨w.heap.size, 0, none⟩ (.int .u32 (e.off : Int))).setCell ⟨w.heap.size, 1, none⟩ (.int .u32 (e.tag : Int))).setCell ⟨w.heap.size, 2, none⟩ (.bool e.children)).setCell ⟨w.heap.size, 3, none⟩ (.slice fb ps.length fbc)) :=
      Frame.set (Frame.set (Frame.set (Frame.set (Frame.refl (fun k => k = w.heap.size) w20) (.inl rfl) _) (.inl rfl) _) (.inl rfl) _) (.inl rfl) _
    exact (h.keep (hf.same fun k hk => ⟨hk.2, by omega⟩)).mono fun k hk => ⟨by omega, Nat.lt_of_lt_of_le hk.2 hf.size⟩
end Go.Proofs.YtklcoppfkfenfaaGreatDoor
