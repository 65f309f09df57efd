/-
  Walks: the writer's values, form by form (L4). The writer's value of whatever form, as one contract. A region that draws its order, walked once, where operations may be guarded.
-/
import Derived.Test.YtklcoppfkfenfaaGreatDoorFP06
import Derived.Test.YtklcoppfkfenfaaGreatDoorFP12
import Derived.Test.YtklcoppfkfenfaaGreatDoorFP13
import Derived.Test.YtklcoppfkfenfaaGreatDoorFP14
set_option linter.all false
set_option linter.unusedVariables false
set_option linter.unusedSimpArgs false
namespace Go.Proofs.YtklcoppfkfenfaaGreatDoor
set_option maxRecDepth 100000
open Go Go.RowKit

set_option maxHeartbeats 2000000 in
theorem value_addrx (base B : Nat) (w : World) (V : WV) (st : WSt) (u : UnitD) (av kv : Value) (a : AttrD) (da la : Option Addr) (dn dc ln lc : Nat) (hW : Wr w base B V st)
    (h85 : a.attr ≠ 85) (hf32 : a.form < 4294967296) (hn : a.n < 18446744073709551616) (hS : strxF a.form = -1) (hX : addrxF a.form = 0) (f27 : a.form ≤ 27) (f27' : 27 ≤ a.form) (ad : Nat) (had : u.address = (ad : Int)) (had8 : ad ≤ 8) (hpl : st.places.length ≤ 100000000)
    (size : Nat) (hsz : fixedF u.version u.wide u.address a.form = (size : Int)) (hs8 : size ≤ 8) :
    Calls Tryz.prog 97 #[.pointer (some ⟨B, 0, none⟩), .agg (unitV u av kv), .agg (attrV a (.slice da dn dc) (.slice la ln lc))] w
      (ValPost base B w V st { bytes := uleb st.places.length, kind := 2, n := cutF a.n ad, data := [], st := { st with places := st.places ++ [cutF a.n ad] } }) := by
  obtain ⟨attr, form, n, data, list⟩ := a
  dsimp only at *
  have hB := hW.lt
  have hbig : w.cell? ⟨B, 0, none⟩ = some (.bool st.big) := hW.cell 0
  have hstr : w.cell? ⟨B, 4, none⟩ = some V.str := hW.cell 4
  have hrow : w.ownsRow base 29 1 V.places st.places.length (qv st.places) := hW.rows.own ⟨V.places, 29, 1, st.places.length, qv st.places⟩ (by simp)
  obtain ⟨sa, sn, sc, hsv⟩ : ∃ sa sn sc, V.places = .slice sa sn sc := by obtain ⟨_, a, c, e, _⟩ := Sl.of_own hrow; exact ⟨a, _, c, e⟩
  have hpc : w.cell? ⟨B, 17, none⟩ = some V.places := hW.cell 17
  rw [hsv] at hpc hrow
  have hown0 : ∀ k, (Value.slice sa sn sc).ownBlock = some k → k < w.heap.size := fun k hk => (hrow.lt k hk).2
  have hnB : ∀ k, (Value.slice sa sn sc).ownBlock = some k → k ≠ B := fun k hk e => hW.rows.notB ⟨V.places, 29, 1, st.places.length, qv st.places⟩ (by simp) (by show V.places.ownBlock = _; rw [hsv, hk, e])
  have hf17 : w.frozen? ⟨B, 17, none⟩ = false := hW.frozen 17
  have HSV := Lib.hid hsv; clear hsv
  have HW := Lib.hid hW; clear hW
  have HAD := Lib.hid had; clear had
  have HZ := Lib.hid hsz; clear hsz
  unfold unitV attrV
  go_enter Tryz.func97, Tryz.ntmps97
  go_wp2_with fail
  (with_reducible refine (fixed_any u av kv form _ hf32).mono ?_)
  rintro e w1 ⟨rfl, hf1⟩
  rw [HZ.out]
  have c0 : w1.cell? ⟨w.heap.size, 0, none⟩ = some (.pointer (some ⟨B, 0, none⟩)) := hf1.cell (cell_alloc (cell_alloc (cell_alloc (cell_newAt rfl rfl) _) _) _) id
  have cb : w1.cell? ⟨B, 0, none⟩ = some (.bool st.big) := hf1.cell (cell_alloc (cell_alloc (cell_alloc (cell_alloc hbig _) _) _) _) id
  have u2 : w1.cell? ⟨w.heap.size + 1, 2, none⟩ = some (.int .i64 u.address) := hf1.cell (cell_alloc (cell_alloc (cell_newAt (by simp) rfl) _) _) id
  have g0 : w1.cell? ⟨w.heap.size + 1 + 1, 0, none⟩ = some (.int .u32 (attr : Int)) := hf1.cell (cell_alloc (cell_newAt (by simp) rfl) _) id
  have g1 : w1.cell? ⟨w.heap.size + 1 + 1, 1, none⟩ = some (.int .u32 (form : Int)) := hf1.cell (cell_alloc (cell_newAt (by simp) rfl) _) id
  have g2 : w1.cell? ⟨w.heap.size + 1 + 1, 2, none⟩ = some (.int .u64 (n : Int)) := hf1.cell (cell_alloc (cell_newAt (by simp) rfl) _) id
  have g3 : w1.cell? ⟨w.heap.size + 1 + 1, 3, none⟩ = some (.slice da dn dc) := hf1.cell (cell_alloc (cell_newAt (by simp) rfl) _) id
  have z0 : w1.cell? ⟨w.heap.size + 1 + 1 + 1, 0, none⟩ = some (.int .i64 0) := hf1.cell (cell_newAt (by simp) rfl) id
  have z1 : w1.cell? ⟨w.heap.size + 1 + 1 + 1, 1, none⟩ = some (.int .u64 0) := hf1.cell (cell_newAt (by simp) rfl) id
  have z2 : w1.cell? ⟨w.heap.size + 1 + 1 + 1, 2, none⟩ = some (.slice none 0 0) := hf1.cell (cell_newAt (by simp) rfl) id
  have y0 : w1.frozen? ⟨w.heap.size + 1 + 1 + 1, 0, none⟩ = false := (hf1.frozen (cell_newAt (v := .int .i64 0) (by simp) rfl) id).trans (frozen_newAt (by simp))
  have y1 : w1.frozen? ⟨w.heap.size + 1 + 1 + 1, 1, none⟩ = false := (hf1.frozen (cell_newAt (v := .int .u64 0) (by simp) rfl) id).trans (frozen_newAt (by simp))
  have y2 : w1.frozen? ⟨w.heap.size + 1 + 1 + 1, 2, none⟩ = false := (hf1.frozen (cell_newAt (v := .slice none 0 0) (by simp) rfl) id).trans (frozen_newAt (by simp))
  have hs1 := hf1.size
  simp at hs1
  have hF1 : Frame no w w1 := ((((Frame.refl no w).alloc _).alloc _).alloc _).alloc _ |>.trans hf1 (fun _ h => h.elim)
  have cs : w1.cell? ⟨B, 17, none⟩ = some (.slice sa sn sc) := hf1.cell (cell_alloc (cell_alloc (cell_alloc (cell_alloc hpc _) _) _) _) id
  clear hf1
  have hz0 : w.heap.size < w1.heap.size := by omega
  have hz1 : w.heap.size + 1 < w1.heap.size := by omega
  have hz2 : w.heap.size + 1 + 1 < w1.heap.size := by omega
  have hz3 : w.heap.size + 1 + 1 + 1 < w1.heap.size := by omega
  have hzB : B < w1.heap.size := by omega
  rw [HAD.out] at u2
  have d0 : B ≠ w.heap.size := by omega
  have e1 : (w1.alloc (.cells #[.int .i64 (size : Int)] 3)).drew.cell? ⟨w.heap.size, 0, none⟩ = some (.pointer (some ⟨B, 0, none⟩)) := cell_alloc c0 _
  have es : (w1.alloc (.cells #[.int .i64 (size : Int)] 3)).drew.cell? ⟨B, 17, none⟩ = some (.slice sa sn sc) := cell_alloc cs _
  have k1 : ¬ (Value.slice sa sn sc).ownBlock = some w.heap.size := fun e => by have := hown0 _ e; omega
  have k2 : ¬ (Value.slice sa sn sc).ownBlock = some B := fun e => hnB _ e rfl
  have HN1 := Lib.hid k1; clear k1
  have HN2 := Lib.hid k2; clear k2
  have HOL := Lib.hid hown0; clear hown0
  have HNB := Lib.hid hnB; clear hnB
  go_wp2_with (first
    | (go_at_call 21; ((with_reducible refine (isStrx_any form _ hf32).mono ?_); rintro e w' ⟨rfl, rfl⟩); rw [hS])
    | (go_at_call 39; ((with_reducible refine (isAddrx_any form _ hf32).mono ?_); rintro e w' ⟨rfl, rfl⟩); rw [hX]))
  (with_reducible refine (cut_any n ad _ hn had8).mono ?_)
  rintro e w' ⟨rfl, rfl⟩
  generalize hcn : cutF n ad = cn
  have HCN := Lib.hid hcn; clear hcn
  go_wp2_with fail
  refine wp_region_seq ((fun k => (Value.slice sa sn sc).ownBlock = some k)) 10 [(0, true), (1, true), (2, true), (3, true), (4, true), (5, true), (6, false), (7, false), (8, false), (9, true), (10, false)] (by kernel_rfl) (by kernel_rfl) (fun _ _ _ d _ h => by cases d <;> exact h) ?_
  simp only [pickB, List.getElem?_toArray, List.getElem?_cons_zero, List.getElem?_cons_succ, Option.getD_some, Bool.false_eq_true, ↓reduceIte, Nat.reduceLT]
  iterate 6
    refine seq_val (v := ?_) (fun w' hX => ?_) ?_
    rotate_left
    · have x0 := hX.cell e1 HN1.out; have x1 := hX.cell es HN2.out; clear hX; go_simp; try with_reducible rfl
    try simp only [Act.put, List.setIfInBounds_toArray, List.set_cons_zero, List.set_cons_succ]
  refine seq_new (fun _ _ => ?_)
  go_wp2_with fail
  refine ⟨(Frame.refl _ _).alloc _, ?_⟩
  refine seq_new (fun K hK => ?_)
  have hro := ownsRow_keep hrow (w' := ((w1.alloc (.cells #[.int .i64 (size : Int)] 3)).alloc (.cells #[.int .u64 (cn : Int)] 29)).drew) (fun k hk => (hF1.alloc _ |>.alloc _ |>.drew).block k (HOL.out k hk) id)
  refine wp_app_any info29 underlying64 rfl (by decide) _ _ rfl base (.slice sa sn sc) st.places.length (qv st.places) rfl hro (fun k => k = w1.heap.size + 1) ⟨w1.heap.size + 1, 0, none⟩ 1 1 [.int .u64 (cn : Int)] rfl (Sl.laidAt (by simp) rfl (by decide)) (by intro y hy; simp at hy; subst hy; rfl) (by unfold maxLen; omega) (by omega) (by have := HW.out.hb; simp only [World.size_alloc, World.size_drew]; omega) (fun v' w3 p1 p2 p4 => ?_)
  obtain ⟨va, vn, vc, rfl⟩ : ∃ va vn vc, v' = .slice va vn vc := by obtain ⟨_, a, c, e, _⟩ := Sl.of_own p1; exact ⟨a, _, c, e⟩
  have hg3 : Frame (fun k => (Value.slice sa sn sc).ownBlock = some k) w1 w3 := (((Frame.refl _ w1).alloc _).alloc _ |>.drew).grown p2 (fun k hk => .inl hk)
  have cB3 := hg3.cell cs HN2.out
  have fB3 : w3.frozen? ⟨B, 17, none⟩ = false := (((Frame.of_no hF1).trans' hg3).frozen hpc HN2.out).trans hf17
  refine hK _ _ ⟨(Frame.refl _ _).grown p2 (fun k hk => .inl hk), ?_⟩
  try simp only [Act.put, List.setIfInBounds_toArray, List.set_cons_zero, List.set_cons_succ]
  refine seq_new (fun _ _ => ?_)
  go_wp2_with fail
  refine ⟨Frame.refl _ _, ?_⟩
  iterate 1
    refine seq_val (v := ?_) (fun w' hX => ?_) ?_
    rotate_left
    · clear hX; go_simp; try with_reducible rfl
    try simp only [Act.put, List.setIfInBounds_toArray, List.set_cons_zero, List.set_cons_succ]
  refine seq_out (fun K hK => ?_)
  go_wp2_with fail
  refine seq_nil ?_
  have hs3 := hg3.size
  have hcn64 : cn < 18446744073709551616 := by rw [← HCN.out]; exact Nat.lt_of_le_of_lt (Nat.mod_le _ _) hn
  have hmv : ∀ k, (Value.slice va vn vc).ownBlock = some k → (Value.slice sa sn sc).ownBlock = some k ∨ w1.heap.size + 1 + 1 ≤ k := fun k hk => (p4.or k hk).imp id fun h => by simpa using h
  have hup : WrTo base B w V st (w3.setCell ⟨B, 17, none⟩ (.slice va vn vc)) ({ V with places := .slice va vn vc } : WV) { st with places := st.places ++ [cn] } := by
    have hw := HW.out
    refine hw.upd (l1 := [rowB V.abv st.abv, rowB V.ranges st.ranges, rowB V.str st.str, rowB V.info st.info, rowB V.rngs st.rngs, rowB V.strs st.strs, rowB V.addrs st.addrs, ⟨V.offsets, 24, 1, st.offsets.length, uv st.offsets⟩, ⟨V.units, 24, 1, st.units.length, uv st.units⟩]) (r := ⟨V.places, 29, 1, st.places.length, qv st.places⟩) (r' := ⟨.slice va vn vc, 29, 1, (st.places ++ [cn]).length, qv (st.places ++ [cn])⟩) rfl rfl rfl ?_ ?_ ?_ ?_ hw.due (fun p hp => .inl hp) hw.lists (fun p hp => .inl hp) (fun _ h => h) (fun _ h => .inl h)
    · show Frame (fun k => V.places.ownBlock = some k) w w3
      rw [HSV.out]
      exact (Frame.of_no hF1).trans' hg3
    · show Moved w V.places (.slice va vn vc)
      rw [HSV.out]
      exact p4.imp id fun h k hk => by have := h k hk; simp only [World.size_alloc, World.size_drew] at this; omega
    · show w3.ownsRow base 29 1 (.slice va vn vc) (st.places ++ [cn]).length (qv (st.places ++ [cn]))
      simpa [qv] using p1
    · have hpl' : ∀ x ∈ st.places ++ [cn], x < 18446744073709551616 := by
        intro x hx
        rcases List.mem_append.1 hx with hx | hx
        · exact hw.ok.places x hx
        · simp at hx; omega
      exact { hw.ok with places := hpl' }
  have hS3 : ¬ ({ V with places := .slice va vn vc } : WV).S { st with places := st.places ++ [cn] } B (w.heap.size + 1 + 1 + 1) := by
    intro e
    rcases WV.S_swap (V := V) (st := st) (l1 := [rowB V.abv st.abv, rowB V.ranges st.ranges, rowB V.str st.str, rowB V.info st.info, rowB V.rngs st.rngs, rowB V.strs st.strs, rowB V.addrs st.addrs, ⟨V.offsets, 24, 1, st.offsets.length, uv st.offsets⟩, ⟨V.units, 24, 1, st.units.length, uv st.units⟩]) (r := ⟨V.places, 29, 1, st.places.length, qv st.places⟩) (r' := ⟨.slice va vn vc, 29, 1, (st.places ++ [cn]).length, qv (st.places ++ [cn])⟩) rfl rfl _ e with e | e
    · have := (HW.out.S_lt _ e).2; omega
    · rcases hmv _ e with e | e
      · have := HOL.out _ e; omega
      · omega
  have hgS : ¬ ({ V with places := .slice va vn vc } : WV).S { st with places := st.places ++ [cn] } B (w.heap.size + 1 + 1 + 1) ∧ ¬ ({ V with places := .slice va vn vc } : WV).D (w.heap.size + 1 + 1 + 1) := ⟨hS3, fun e => by have := (HW.out.hD _ e).1; omega⟩
  clear hS3
  have HGS := Lib.hid hgS; clear hgS
  have nz : ∀ j, w.heap.size ≤ j → ¬ (Value.slice sa sn sc).ownBlock = some j := fun j hj e => by have := HOL.out _ e; omega
  have n0 := nz w.heap.size (by omega)
  have n2 := nz (w.heap.size + 1 + 1) (by omega)
  have n3 := nz (w.heap.size + 1 + 1 + 1) (by omega)
  have d0' : w.heap.size ≠ B := by omega
  have d2 : w.heap.size + 1 + 1 ≠ B := by omega
  have d3 : w.heap.size + 1 + 1 + 1 ≠ B := by omega
  have t2 : (w3.setCell ⟨B, 17, none⟩ (.slice va vn vc)).cell? ⟨w.heap.size, 0, none⟩ = some (.pointer (some ⟨B, 0, none⟩)) := cell_set (hg3.cell c0 n0) d0' _
  have t3 : (w3.setCell ⟨B, 17, none⟩ (.slice va vn vc)).cell? ⟨w.heap.size + 1 + 1, 1, none⟩ = some (.int .u32 (form : Int)) := cell_set (hg3.cell g1 n2) d2 _
  have t4 : (w3.setCell ⟨B, 17, none⟩ (.slice va vn vc)).cell? ⟨w.heap.size + 1 + 1 + 1, 0, none⟩ = some (.int .i64 0) := cell_set (hg3.cell z0 n3) d3 _
  have t5 : (w3.setCell ⟨B, 17, none⟩ (.slice va vn vc)).cell? ⟨w.heap.size + 1 + 1 + 1, 1, none⟩ = some (.int .u64 0) := cell_set (hg3.cell z1 n3) d3 _
  have t6 : (w3.setCell ⟨B, 17, none⟩ (.slice va vn vc)).cell? ⟨w.heap.size + 1 + 1 + 1, 2, none⟩ = some (.slice none 0 0) := cell_set (hg3.cell z2 n3) d3 _
  have t0 : (w3.setCell ⟨B, 17, none⟩ (.slice va vn vc)).cell? ⟨B, 17, none⟩ = some (.slice va vn vc) := hup.wr.cell 17
  have hfs : Frame (fun k => k = B ∨ (Value.slice sa sn sc).ownBlock = some k) w1 (w3.setCell ⟨B, 17, none⟩ (.slice va vn vc)) := Frame.set (S := fun k => k = B ∨ (Value.slice sa sn sc).ownBlock = some k) (hg3.mono fun k hk => .inl (.inr hk)) (.inl (.inl rfl)) _
  have nz3 : ¬ (w.heap.size + 1 + 1 + 1 = B ∨ (Value.slice sa sn sc).ownBlock = some (w.heap.size + 1 + 1 + 1)) := by rintro (e | e); exact d3 e; exact n3 e
  have t7 := (hfs.frozen z0 nz3).trans y0
  have t8 := (hfs.frozen z1 nz3).trans y1
  have t9 := (hfs.frozen z2 nz3).trans y2
  have hvn : vn = st.places.length + 1 := by
    have := hup.wr.rows.own ⟨.slice va vn vc, 29, 1, (st.places ++ [cn]).length, qv (st.places ++ [cn])⟩ (by simp)
    obtain ⟨_, a, c, e, _⟩ := Sl.of_own this
    simp only [Value.slice.injEq] at e
    rw [e.2.1]; simp
  generalize hpn : st.places.length = pn at *
  have HPN := Lib.hid hpn; clear hpn
  have hvi : IntKind.i64.wrap ((vn : Int) - 1) = (pn : Int) := by rw [hvn]; exact (IntWalk.i64_in (((pn + 1 : Nat) : Int) - 1) (by omega)).trans (by omega)
  have HVN := Lib.hid hvn; clear hvn
  have hpw : IntKind.u64.wrap (pn : Int) = (pn : Int) := IntWalk.u64_in _ (by omega)
  have hsS := hfs.size
  clear p1 p2 p4 hg3 cB3 fB3 c0 cb u2 g0 g1 g2 g3 z0 z1 z2 y0 y1 y2 e1 es cs hfs nz3 nz n0 n2 n3 d0' d2 d3 hmv
  go_wp2_with fail
  generalize (w3.setCell ⟨B, 17, none⟩ (.slice va vn vc)) = w4 at *
  have HUP := Lib.hid hup; clear hup
  refine wp_region_seq no 14 [(0, true), (1, true), (2, true), (3, true), (4, true), (5, true), (6, true), (7, true), (8, true), (11, true), (12, true), (9, false), (10, false), (13, true), (14, false)] (by kernel_rfl) (by kernel_rfl) (fun _ _ _ d _ h => by cases d <;> exact h) ?_
  simp only [pickB, List.getElem?_toArray, List.getElem?_cons_zero, List.getElem?_cons_succ, Option.getD_some, Bool.false_eq_true, ↓reduceIte, Nat.reduceLT]
  iterate 11
    refine seq_val (v := ?_) (fun w' hX => ?_) ?_
    rotate_left
    · have x0 := hX.cell t2 id; have x1 := hX.cell t3 id; have x2 := hX.cell t0 id; clear hX; go_simp; try with_reducible rfl
    try simp only [Act.put, List.setIfInBounds_toArray, List.set_cons_zero, List.set_cons_succ]
  refine seq_new (fun K hK => ?_)
  go_wp2_with fail
  (with_reducible refine (isAddrx_any form _ hf32).mono ?_)
  rintro e w' ⟨rfl, rfl⟩
  rw [hX]
  go_wp2_with fail
  refine ⟨Frame.refl _ _, ?_⟩
  refine seq_new (fun K hK => ?_)
  go_wp2_with fail
  (with_reducible refine (indexed0_any pn _ _ (by omega)).mono ?_)
  rintro e w5 ⟨a5, m5, c5, rfl, ho5, hf5⟩
  have q4 := hf5.cell t4 id
  have q5 := hf5.cell t5 id
  have q6 := hf5.cell t6 id
  have q7 := (hf5.frozen t4 id).trans t7
  have q8 := (hf5.frozen t5 id).trans t8
  have q9 := (hf5.frozen t6 id).trans t9
  go_wp2_with fail
  refine ⟨hf5, ?_⟩
  iterate 1
    refine seq_val (v := ?_) (fun w' hX => ?_) ?_
    rotate_left
    · clear hX; go_simp; try with_reducible rfl
    try simp only [Act.put, List.setIfInBounds_toArray, List.set_cons_zero, List.set_cons_succ]
  refine seq_out (fun K hK => ?_)
  go_wp2_with fail
  refine seq_nil ?_
  go_wp2_with fail
  refine bodyPost_ret (v := .tuple #[.slice a5 m5 c5, .agg #[.int .i64 2, .int .u64 (cn : Int), .slice none 0 0]]) ?_ rfl ?_
  · simp [results, Tryz.results97, go_sem, q4, q5, q6]
  · have hne : ∀ k, (Value.slice a5 m5 c5).ownBlock = some k → ¬ k = w.heap.size + 1 + 1 + 1 := fun k hk e => by have := (own_lt ho5 k hk).1; simp only [World.size_drew] at this; omega
    have hfe := Frame.set3 w5 (w.heap.size + 1 + 1 + 1) (Value.int .i64 2) (Value.int .u64 (cn : Int)) (Value.slice none 0 0)
    rw [HCN.out]
    exact valPost_to (K := no) (g := w.heap.size + 1 + 1 + 1) HUP.out (by omega) HGS.out ((Frame.of_no ((Frame.refl no w4).drew.trans hf5 (fun _ h => h.elim))).trans' hfe) (ho5.keep hfe hne) (Nat.le_refl _) HW.out (rd_nil _ _) (fun _ h => h.elim)

end Go.Proofs.YtklcoppfkfenfaaGreatDoor
namespace Go.Proofs.YtklcoppfkfenfaaGreatDoor
set_option maxRecDepth 100000
open Go Go.RowKit

/-- whatever attribute of a kind is written, the writer does as the plain function says -/
abbrev ValueC (u : UnitD) (AV : AttrD → Prop) : Prop :=
  ∀ (av kv : Value) (base B : Nat) (w : World) (V : WV) (st : WSt) (a : AttrD) (da la : Option Addr) (dc lc : Nat) (K : Bs), Wr w base B V st → AV a → a.attr < 4294967296 → a.form < 4294967296 → a.n < 18446744073709551616 →
    Rd K w (.slice da a.data.length dc) a.data → ItemsAt K w (.slice la a.list.length lc) a.list → (∀ k, K k → V.D k) → Small st 50000000 →
    Calls Tryz.prog 97 #[.pointer (some ⟨B, 0, none⟩), .agg (unitV u av kv), .agg (attrV a (.slice da a.data.length dc) (.slice la a.list.length lc))] w (ValPost base B w V st (valueF u.version u.wide u.address.toNat a st))

/-- attributes that are no lists of ranges, of the forms that are told -/
def PlainA (a : AttrD) : Prop := a.attr ≠ 85 ∧ a.data.length ≤ 50 ∧ (a.form = 1 ∨ a.form = 5 ∨ a.form = 6 ∨ a.form = 7 ∨ a.form = 8 ∨ a.form = 11 ∨ a.form = 13 ∨ a.form = 14 ∨ a.form = 15 ∨ a.form = 23 ∨ a.form = 27)

theorem value_plain (u : UnitD) (had : u.address = 4 ∨ u.address = 8) : ValueC u PlainA := by
  intro av kv base B w V st a da la dc lc K hW ⟨h85, hdl, hf⟩ h1 h2 h3 hrd hit hK hS
  have hir : isRangesF a = false := by unfold isRangesF; simp [h85]
  obtain ⟨ad, had', had8⟩ : ∃ ad : Nat, u.address = (ad : Int) ∧ ad ≤ 8 := by rcases had with h | h; exact ⟨4, h, by decide⟩; exact ⟨8, h, by decide⟩
  have hfx := fixedF_le u.version u.wide ad a.form had8
  have hsz : fixedF u.version u.wide u.address a.form = (((fixedF u.version u.wide (ad : Int) a.form).toNat : Nat) : Int) := by rw [had']; omega
  have hs8 : (fixedF u.version u.wide (ad : Int) a.form).toNat ≤ 8 := hfx.2
  have hat : u.address.toNat = ad := by omega
  have hv : valueF u.version u.wide u.address.toNat a st =
      if a.form = 27 then { bytes := uleb st.places.length, kind := 2, n := cutF a.n ad, data := [], st := { st with places := st.places ++ [cutF a.n ad] } } else
      if a.form = 1 then { bytes := num (cutF a.n (fixedF u.version u.wide (ad : Int) a.form).toNat) (fixedF u.version u.wide (ad : Int) a.form).toNat st.big, kind := 2, n := cutF a.n (fixedF u.version u.wide (ad : Int) a.form).toNat, data := [], st := st } else
      if a.form = 8 then { bytes := a.data ++ [0], kind := 6, n := 0, data := a.data, st := st } else
      if a.form = 14 then { bytes := num st.str.length (fixedF u.version u.wide (ad : Int) a.form).toNat st.big, kind := 6, n := 0, data := a.data, st := { st with str := st.str ++ (a.data ++ [0]) } } else
      if a.form = 13 then { bytes := sleb (sgn a.n), kind := 1, n := a.n, data := [], st := st } else
      if a.form = 15 then { bytes := uleb a.n, kind := 1, n := a.n, data := [], st := st } else
      { bytes := num (cutF a.n (fixedF u.version u.wide (ad : Int) a.form).toNat) (fixedF u.version u.wide (ad : Int) a.form).toNat st.big, kind := 1, n := cutF a.n (fixedF u.version u.wide (ad : Int) a.form).toNat, data := [], st := st } := by
    unfold valueF
    simp only [hir, hat, Bool.false_eq_true, if_false]
  rw [hv]
  have hp := hS.places
  have hs := hS.str
  by_cases e27 : a.form = 27
  · rw [if_pos e27]
    exact value_addrx base B w V st u av kv a da la _ dc _ lc hW h85 h2 h3 (by rw [e27]; decide) (by rw [e27]; decide) (by omega) (by omega) ad had' had8 (by omega) _ hsz hs8
  rw [if_neg e27]
  have hS' : strxF a.form = -1 := by unfold strxF; rw [if_neg (by omega), if_neg (by omega)]
  have hX' : addrxF a.form = -1 := by unfold addrxF; rw [if_neg (by omega), if_neg (by omega)]
  have hR' : refF a.form = false := by unfold refF; simp; omega
  by_cases e1 : a.form = 1
  · rw [if_pos e1]
    exact value_addr base B w V st u av kv a da la _ dc _ lc hW h85 h2 h3 hS' hX' hR' (by omega) (by omega) _ hsz hs8
  rw [if_neg e1]
  by_cases e8 : a.form = 8
  · rw [if_pos e8]
    exact value_str base B w V st u av kv a da la _ dc _ lc hW h85 h2 h3 hS' hX' hR' (by omega) (by omega) K hrd hK (by omega) _ hsz hs8
  rw [if_neg e8]
  by_cases e14 : a.form = 14
  · rw [if_pos e14]
    exact value_strp base B w V st u av kv a da la _ dc _ lc hW h85 h2 h3 hS' hX' hR' (by omega) (by omega) K hrd hK (by omega) (by omega) _ hsz hs8
  rw [if_neg e14]
  by_cases e13 : a.form = 13
  · rw [if_pos e13]
    exact value_sdata base B w V st u av kv a da la _ dc _ lc hW h85 h2 h3 hS' hX' hR' (by omega) (by omega) _ hsz hs8
  rw [if_neg e13]
  by_cases e15 : a.form = 15
  · rw [if_pos e15]
    exact value_udata base B w V st u av kv a da la _ dc _ lc hW h85 h2 h3 hS' hX' hR' (by omega) (by omega) _ hsz hs8
  rw [if_neg e15]
  exact value_num base B w V st u av kv a da la _ dc _ lc hW h85 h2 h3 hS' hX' hR' e1 (by omega) e8 e14 (by omega) (by omega) e13 e15 _ hsz hs8

end Go.Proofs.YtklcoppfkfenfaaGreatDoor
namespace Go.Proofs.YtklcoppfkfenfaaGreatDoor
set_option maxRecDepth 100000
open Go Go.RowKit

section
variable {P : Program} {ops : Array Oper} {Q : Exit → Act → World → Prop} {n0 : Nat} {S0 : Bs}

def wpSeqG (P : Program) (ops : Array Oper) (Q : Exit → Act → World → Prop) (S0 : Bs) : List (Oper × Nat) → Act → World → Prop
  | [], a, w => Q .normal a w
  | (o, 0) :: r, a, w => ∃ v, YieldsIf P ops (Frame S0 w) o v a ∧ wpSeqG P ops Q S0 r (a.put o.dst v) w
  | (o, 1) :: r, a, w => o.wp P a w (fun a' w' => Frame S0 w w' ∧ wpSeqG P ops Q S0 r a' w') Q
  | (o, _) :: r, a, w => o.wp P a w (wpSeqG P ops Q S0 r) Q
def plainG (ops : Array Oper) (l : List (Nat × Bool)) : Bool := l.all fun p => match ops[p.1]? with | some o => p.2 || o.guard.isNone | none => false

theorem idx_of_seqG : ∀ (l : List (Nat × Bool)) (a : Act) (w : World), plainG ops l = true → wpSeqG P ops Q S0 (pickB ops n0 l) a w → wpIdx P ops Q S0 n0 l a w
  | [], _, _, _, h => h
  | (i, b) :: r, a, w, hp, h => by
    simp only [plainG, List.all_cons, Bool.and_eq_true] at hp
    obtain ⟨hp1, hp2⟩ := hp
    cases ho : ops[i]? with
    | none => rw [ho] at hp1; cases hp1
    | some o =>
      rw [ho] at hp1
      cases b with
      | true =>
        simp only [pickB, ho, Option.getD_some, if_true, wpSeqG] at h
        obtain ⟨v, h1, h2⟩ := h
        exact ⟨o, v, ho, h1, idx_of_seqG r _ _ hp2 h2⟩
      | false =>
        have hg : o.guard = none := by simpa using hp1
        have hwant : ∀ t, Region.wanted o (yielded ops t) = true := fun t => by simp [Region.wanted, hg]
        simp only [pickB, ho, Option.getD_some, Bool.false_eq_true, if_false] at h
        simp only [wpIdx, wpOp, ho, hwant, if_true]
        by_cases hi : i < n0
        · rw [if_pos hi] at h
          exact .inl (Oper.wp_mono (fun a' w' h3 => ⟨.inr h3.1, idx_of_seqG r _ _ hp2 h3.2⟩) h)
        · rw [if_neg hi] at h
          exact .inl (Oper.wp_mono (fun a' w' h3 => ⟨.inl (by omega), idx_of_seqG r _ _ hp2 h3⟩) h)

theorem wp_region_seqG {id : Nat} {a : Act} {w : World} (S0 : Bs) (n0 : Nat) (l : List (Nat × Bool)) (hm : P.follows .mixedOrders = true) (hB : (Region.noSelect ops && (plainG ops l && (l.length == ops.size && ordB ops n0 l (Array.replicate ops.size false)))) = true)
    (hQ : ∀ c a w d v, Q (.panic c) (Act.put a d v) w → Q (.panic c) a w) (h : wpSeqG P ops Q S0 (pickB ops n0 l) a w.drew) : (Code.region id ops true).wp P Q a w := by
  simp only [Bool.and_eq_true, beq_iff_eq] at hB
  obtain ⟨h1, h2, h3, h4⟩ := hB
  have h5 := T_of_idx h1 hQ l (Array.replicate ops.size false) a w.drew h4 (idx_of_seqG l a _ h2 h)
  rw [h3] at h5
  exact wp_region_any hm (any_of_T (n0 := n0) _ _ _ _ h5)

theorem seqG_nil {a : Act} {w : World} (h : Q .normal a w) : wpSeqG P ops Q S0 [] a w := h
theorem seqG_val {o : Oper} {r : List (Oper × Nat)} {a : Act} {w : World} {v : Value} (hw : Region.wanted o (yielded ops a.tmps) = true) (h : ∀ w', Frame S0 w w' → (execOp a.eval o).run P w' = .ok (.value v) w') (hr : wpSeqG P ops Q S0 r (a.put o.dst v) w) : wpSeqG P ops Q S0 ((o, 0) :: r) a w := ⟨v, .inl ⟨hw, h⟩, hr⟩
theorem seqG_skip {o : Oper} {r : List (Oper × Nat)} {a : Act} {w : World} (hw : Region.wanted o (yielded ops a.tmps) = false) (hr : wpSeqG P ops Q S0 r (a.put o.dst undef) w) : wpSeqG P ops Q S0 ((o, 0) :: r) a w := ⟨undef, .inr ⟨hw, rfl⟩, hr⟩
theorem seqG_new {o : Oper} {r : List (Oper × Nat)} {a : Act} {w : World} (h : ∀ K : Act → World → Prop, (∀ a' w', Frame S0 w w' ∧ wpSeqG P ops Q S0 r a' w' → K a' w') → o.wp P a w K Q) : wpSeqG P ops Q S0 ((o, 1) :: r) a w := h _ fun _ _ h => h
theorem seqG_out {o : Oper} {r : List (Oper × Nat)} {a : Act} {w : World} (h : ∀ K : Act → World → Prop, (∀ a' w', wpSeqG P ops Q S0 r a' w' → K a' w') → o.wp P a w K Q) : wpSeqG P ops Q S0 ((o, 2) :: r) a w := h _ fun _ _ h => h
end
end Go.Proofs.YtklcoppfkfenfaaGreatDoor
