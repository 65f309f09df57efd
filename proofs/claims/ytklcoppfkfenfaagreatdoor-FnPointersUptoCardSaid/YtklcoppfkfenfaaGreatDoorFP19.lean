/-
  Walks: what based and tables do in versions ahead of 5. Walks: the writer writes all units. Plain law: abbreviations and entries as the reader takes them (no program): what it means that bytes hold an entry.
-/
import Derived.Test.YtklcoppfkfenfaaGreatDoorFP18
import Derived.Test.YtklcoppfkfenfaaGreatDoorFP05
set_option linter.all false
set_option linter.unusedVariables false
set_option linter.unusedSimpArgs false
namespace Go.Proofs.YtklcoppfkfenfaaGreatDoor
set_option maxRecDepth 100000
open Go Go.RowKit

set_option maxHeartbeats 1000000 in
theorem based_old (u0 : UnitD) (d : Nat) (hv : u0.version < 5) : BasedC u0 (d + 1) := by
  intro base B w V st K x y hW hn hK hS
  obtain ⟨xa, xc, ya, yc, hx, hy, _⟩ := hn.elem
  dsimp only at hx hy
  subst hx hy
  have hu : basedU u0 st = u0 := by unfold basedU; rw [if_pos hv]
  have hs : basedS u0 st = st := by unfold basedS; rw [if_pos hv]
  have HU := Lib.hid hu; clear hu
  have HS := Lib.hid hs; clear hs
  have HN := Lib.hid hn; clear hn
  have HW := Lib.hid hW; clear hW
  have HK := Lib.hid hK; clear hK
  go_enter Tryz.func61, Tryz.ntmps61
  go_wp2_with fail
  have hf : Frame no w ((w.alloc (.cells (unitV u0 (.slice xa u0.root.attrs.length xc) (.slice ya u0.root.kids.length yc)) 31)).alloc (.cells (unitV u0 (.slice xa u0.root.attrs.length xc) (.slice ya u0.root.kids.length yc)) 31)) := ((Frame.refl _ _).alloc _).alloc _
  refine bodyPost_ret (v := .agg (unitV u0 (.slice xa u0.root.attrs.length xc) (.slice ya u0.root.kids.length yc))) ?_ rfl ?_
  · simp [results, Tryz.results61, go_sem]
  · refine ⟨V, K, _, _, by rw [HU.out], ?_, ?_, HK.out⟩
    · rw [HS.out]; exact (WrTo.refl HW.out).step0 hf
    · rw [HU.out]; exact HN.out.keep (hf.same fun k hk => ⟨(HW.out.hD k (HK.out k hk)).1, id⟩)

theorem WrTo.setSame {w0 w : World} {base B i : Nat} {V0 V : WV} {st0 st : WSt} (H : WrTo base B w0 V0 st0 w V st) (v : Value) (hv : (V.cells st).setIfInBounds i v = V.cells st) : WrTo base B w0 V0 st0 (w.setCell ⟨B, i, none⟩ v) V st := by
  have h := H.wr
  have hfB : Frame (fun k => k = B) w (w.setCell ⟨B, i, none⟩ v) := (Frame.refl (fun k => k = B) w).setCell (p := ⟨B, i, none⟩) (.inl rfl) _
  have hs : Same V.D w (w.setCell ⟨B, i, none⟩ v) := hfB.same fun k hk => ⟨(h.hD k hk).1, fun e => (h.hD k hk).2 (.inl e)⟩
  refine ⟨⟨h.hb, ?_, h.rows.keep hfB fun r hr k hk e => h.rows.notB r hr (e ▸ hk), h.ok, h.due, fun p hp => (h.dueAt p hp).keep hs, h.lists, fun p hp => (h.listsAt p hp).keep hs, fun k hk => ⟨Nat.lt_of_lt_of_le (h.hD k hk).1 hfB.size, (h.hD k hk).2⟩⟩,
    H.frame.trans hfB fun k hk => by rw [hk]; exact H.more B (.inl rfl), H.more, H.moreD, H.lessD⟩
  rw [heap_setCell_row h.cells, hv]
theorem WrTo.noPlaces {w0 w : World} {base B : Nat} {V0 V : WV} {st0 st : WSt} (H : WrTo base B w0 V0 st0 w V st) : WrTo base B w0 V0 st0 (w.setCell ⟨B, 17, none⟩ nilS) { V with places := nilS } { st with places := [] } := by
  have h := H.wr
  refine H.upd (V' := { V with places := nilS }) (l1 := [rowB V.abv st.abv, rowB V.ranges st.ranges, rowB V.str st.str, rowB V.info st.info, rowB V.rngs st.rngs, rowB V.strs st.strs, rowB V.addrs st.addrs, ⟨V.offsets, 24, 1, st.offsets.length, uv st.offsets⟩, ⟨V.units, 24, 1, st.units.length, uv st.units⟩]) (r := ⟨V.places, 29, 1, st.places.length, qv st.places⟩) (r' := ⟨nilS, 29, 1, 0, []⟩) rfl rfl rfl (Frame.refl _ _) (.inr fun k hk => by cases hk) (World.ownsRow_nil _ _ _ _) { h.ok with places := ?_ } h.due (fun p hp => .inl hp) h.lists (fun p hp => .inl hp) (fun _ h => h) (fun _ h => .inl h)
  intro y hy; cases hy
theorem WrTo.noLists {w0 w : World} {base B : Nat} {V0 V : WV} {st0 st : WSt} (H : WrTo base B w0 V0 st0 w V st) : WrTo base B w0 V0 st0 (w.setCell ⟨B, 18, none⟩ nilS) { V with lists := nilS, ls := [] } { st with lists := [] } := by
  have h := H.wr
  exact H.upd (V' := { V with lists := nilS, ls := [] }) (l1 := [rowB V.abv st.abv, rowB V.ranges st.ranges, rowB V.str st.str, rowB V.info st.info, rowB V.rngs st.rngs, rowB V.strs st.strs, rowB V.addrs st.addrs, ⟨V.offsets, 24, 1, st.offsets.length, uv st.offsets⟩, ⟨V.units, 24, 1, st.units.length, uv st.units⟩, ⟨V.places, 29, 1, st.places.length, qv st.places⟩, ⟨V.due, 96, 4, V.es.length, V.es.flatMap entC⟩]) (r := ⟨V.lists, 34, 1, V.ls.length, V.ls.map Prod.snd⟩) (r' := ⟨nilS, 34, 1, 0, []⟩) rfl rfl rfl (Frame.refl _ _) (.inr fun k hk => by cases hk) (World.ownsRow_nil _ _ _ _) { h.ok with } h.due (fun p hp => .inl hp) rfl (fun p hp => by cases hp) (fun _ h => h) (fun _ h => .inl h)

set_option maxHeartbeats 1000000 in
theorem tables_old (u : UnitD) : TablesC u (fun st => st.places = [] ∧ st.lists = []) := by
  intro base B w V st x y hW ⟨hp, hl⟩ hS
  have hls : V.ls.length = 0 := by have h := hW.lists; rw [hl] at h; simpa using congrArg List.length h
  have hpl : st.places.length = 0 := by rw [hp]; rfl
  have c16 : w.cell? ⟨B, 16, none⟩ = some (.slice none 0 0) := hW.cell 16
  have c17 : w.cell? ⟨B, 17, none⟩ = some V.places := hW.cell 17
  have c18 : w.cell? ⟨B, 18, none⟩ = some V.lists := hW.cell 18
  obtain ⟨pa, pc, hpv⟩ := ownsRow_shape (hW.rows.own ⟨V.places, 29, 1, st.places.length, qv st.places⟩ (by simp))
  obtain ⟨qa, qc, hqv⟩ := ownsRow_shape (hW.rows.own ⟨V.lists, 34, 1, V.ls.length, V.ls.map Prod.snd⟩ (by simp))
  dsimp only at hpv hqv
  rw [hpv, hpl] at c17
  rw [hqv, hls] at c18
  have f16 := hW.frozen 16
  have f17 := hW.frozen 17
  have f18 := hW.frozen 18
  have hB := hW.lt
  have HPV := Lib.hid hpv; clear hpv
  have HQV := Lib.hid hqv; clear hqv
  have HP := Lib.hid hp; clear hp
  have HL := Lib.hid hl; clear hl
  have HLS := Lib.hid hls; clear hls
  have HPL := Lib.hid hpl; clear hpl
  have HW := Lib.hid hW; clear hW
  go_enter Tryz.func68, Tryz.ntmps68
  go_wp2_with fail
  go_region
  have k1 := (((WrTo.refl HW.out).setSame (i := 16) nilS rfl).noPlaces).noLists
  go_wp2_with fail
  go_end0
  have he : tablesF u st = { st with places := [], lists := [] } := by
    unfold tablesF
    simp [HP.out, HL.out]
  rw [he]
  exact ⟨rfl, _, k1.step0 ((((Frame.refl _ _).alloc _).alloc _).drew)⟩

end Go.Proofs.YtklcoppfkfenfaaGreatDoor
namespace Go.Proofs.YtklcoppfkfenfaaGreatDoor
set_option maxRecDepth 100000
open Go Go.RowKit

/-- what unit does, where the state of the writer is right -/
abbrev UnitC (u0 : UnitD) (d : Nat) (Ok : WSt → Prop) : Prop :=
  ∀ (base B : Nat) (w : World) (V : WV) (st0 : WSt) (K : Bs) (x y : Value), Wr w base B V st0 → NodeAt d K w (u0.root, x, y) → (∀ k, K k → V.D k) → Ok st0 →
    Calls Tryz.prog 41 #[.pointer (some ⟨B, 0, none⟩), .agg (unitV u0 x y)] w (fun e w' => e = .returned (.tuple #[]) ∧ ∃ V', WrTo base B w V st0 w' V' (unitF u0 st0))

theorem allF_take (us : List UnitD) (k : Nat) (h : k < us.length) (st : WSt) : allF (us.take (k + 1)) st = unitF us[k] (allF (us.take k) st) := by
  unfold allF; rw [List.take_succ_eq_append_getElem h, List.foldl_append]; rfl

def sOffs : ByteArray := ByteArray.mk #[46, 100, 101, 98, 117, 103, 95, 115, 116, 114, 95, 111, 102, 102, 115, 101, 116, 115]
def sAddr : ByteArray := ByteArray.mk #[46, 100, 101, 98, 117, 103, 95, 97, 100, 100, 114]
def sRngs : ByteArray := ByteArray.mk #[46, 100, 101, 98, 117, 103, 95, 114, 110, 103, 108, 105, 115, 116, 115]

set_option maxHeartbeats 2000000 in
theorem all_any (us : List UnitD) (d : Nat) (Ok : WSt → Prop) (st0 : WSt) (hty : ∀ u ∈ us, u.typed = false) (hUC : ∀ u ∈ us, UnitC u d Ok) (hOk : ∀ k, k < us.length → Ok (allF (us.take k) st0)) (hrl : (allF us st0).rngs.length ≤ 50000000)
    (base B : Nat) (w : World) (V : WV) (K : Bs) (v : Value) (hW : Wr w base B V st0) (hu : UnitsAt d K w v us) (hKD : ∀ k, K k → V.D k) :
    Calls Tryz.prog 26 #[.pointer (some ⟨B, 0, none⟩), v] w (fun e w' => e = .returned (.tuple #[]) ∧ ∃ V' w1 m rv, WrTo base B w V st0 w1 V' (allF us st0) ∧ Frame (fun k => k = B) w1 w' ∧
      w'.heap[B]? = some (.cells (((V'.cells (allF us st0)).setIfInBounds 2 V'.info).setIfInBounds 6 (.slice (some ⟨m, 0, none⟩) 3 3)) 82) ∧ w1.heap.size ≤ m ∧
      w'.heap[m]? = some (.cells #[.string sOffs, V'.strs, .string sAddr, V'.addrs, .string sRngs, rv] 125) ∧ ∃ KR : Bs, Rd KR w' rv ((allF us st0).rngs ++ [0]) ∧ ∀ k, KR k → w1.heap.size ≤ k ∧ k < w'.heap.size) := by
  obtain ⟨a, cap, rfl, hc1, hc2, hel⟩ := hu.elem
  unfold maxLen at hc2
  have HEL := Lib.hid hel; clear hel hu
  have HTY := Lib.hid hty; clear hty
  have HUC := Lib.hid hUC; clear hUC
  have HOK := Lib.hid hOk; clear hOk
  have HKW := Lib.hid (fun k hK => hW.hD k (hKD k hK)); 
  go_enter Tryz.func26, Tryz.ntmps26
  go_upto_block 0 with fail
  go_cut [5, 8] (fun _ _ wx => ∃ (w1 : World) (V2 : WV), w1 = wx ∧ WrTo base B w V st0 wx V2 (allF us st0))
  case first =>
    go_wp2_with fail
    go_loopw [5, 8] (fun _ i wr => ∃ (k : Nat) (V2 : WV), k ≤ us.length ∧ i = .int .i64 k ∧ WrTo base B w V st0 wr V2 (allF (us.take k) st0)) (fun _ i _ => us.length - (intOf i).toNat)
    case atStart => exact ⟨0, V, Nat.zero_le _, rfl, WrTo.refl hW⟩
    case round =>
    obtain ⟨k, V2, hk', rfl, hto⟩ := hrel
    by_cases hlt : k < us.length
    · obtain ⟨b, o, x, cx, y, cy, rfl, hb, c0, c1, c2, c3, c4, c5, c6, c7, c8, c9, c10, hU⟩ := HEL.out k hlt
      have HTK := Lib.hid (allF_take us k hlt st0)
      have huc := HUC.out us[k] (List.getElem_mem hlt)
      have htk := HTY.out us[k] (List.getElem_mem hlt)
      have hok := HOK.out k hlt
      have hfr := hto.frame
      replace c0 := hfr.cell c0 (HKW.out b hb).2
      replace c1 := hfr.cell c1 (HKW.out b hb).2
      replace c2 := hfr.cell c2 (HKW.out b hb).2
      replace c3 := hfr.cell c3 (HKW.out b hb).2
      replace c4 := hfr.cell c4 (HKW.out b hb).2
      replace c5 := hfr.cell c5 (HKW.out b hb).2
      replace c6 := hfr.cell c6 (HKW.out b hb).2
      replace c7 := hfr.cell c7 (HKW.out b hb).2
      replace c8 := hfr.cell c8 (HKW.out b hb).2
      replace c9 := hfr.cell c9 (HKW.out b hb).2
      replace c10 := hfr.cell c10 (HKW.out b hb).2
      have hn := hU.2.2.2.2.keep (hfr.same HKW.out)
      clear hU
      generalize hA : us[k] = A at *
      have HA := Lib.hid hA; clear hA
      have hK2 : ∀ k, K k → V2.D k := fun k h => hto.lessD k (hKD k h)
      have hW2 := hto.wr
      have hue : unitV A (.slice x A.root.attrs.length cx) (.slice y A.root.kids.length cy) = #[.int .i64 A.version, .bool A.wide, .int .i64 A.address, .bool A.late, .int .u32 (A.root.tag : Int), .slice x A.root.attrs.length cx, .bool A.root.opn, .slice y A.root.kids.length cy, .bool false, .int .u64 (A.signature : Int), .int .i64 A.type] := by unfold unitV; rw [htk]
      rw [htk] at c8
      have hfa : Frame no wr (wr.alloc (.cells #[.int .i64 A.version, .bool A.wide, .int .i64 A.address, .bool A.late, .int .u32 (A.root.tag : Int), .slice x A.root.attrs.length cx, .bool A.root.opn, .slice y A.root.kids.length cy, .bool false, .int .u64 (A.signature : Int), .int .i64 A.type] 31)) := (Frame.refl _ _).alloc _
      have hcall := huc base B _ V2 _ K (.slice x A.root.attrs.length cx) (.slice y A.root.kids.length cy) (hW2.keep0 hfa) (hn.keep (hfa.same fun k hk => ⟨(hW2.hD k (hK2 k hk)).1, id⟩)) hK2 hok
      rw [hue] at hcall
      have HC := Lib.hid hcall; clear hcall huc hue htk
      go_wp2_with fail
      (with_reducible refine HC.out.mono ?_)
      rintro e w5 ⟨rfl, V3, hto5⟩
      have hto6 := (hto.step0 hfa).trans hto5
      have c8' : w5.cell? ⟨wr.heap.size, 8, none⟩ = some (.bool false) := hto5.frame.cell (cell_new _ _ _ _) ((WrTo.refl hW2).new (Nat.le_refl _)).1
      go_wp2_with fail
      go_roundw
      case rel => exact ⟨k + 1, V3, by omega, by go_num, by rw [HTK.out]; exact hto6⟩
      case measure => simp [intOf]; omega
    · have HT := Lib.hid (show us.take k = us from List.take_of_length_le (by omega))
      go_wp2_with fail
      go_meet
      case rel => exact ⟨_, V2, rfl, by rw [HT.out] at hto; exact hto⟩
  case rest =>
  obtain ⟨w1, V2, rfl, hto⟩ := hcut
  generalize hst : allF us st0 = st at *
  have HST := Lib.hid hst; clear hst
  have hW1 := hto.wr
  have b2 : w1.cell? ⟨B, 2, none⟩ = some (.slice none 0 0) := hW1.cell 2
  have b7 : w1.cell? ⟨B, 7, none⟩ = some V2.info := hW1.cell 7
  have f2 := hW1.frozen 2
  obtain ⟨ia, ic, hiv⟩ : ∃ ia ic, V2.info = .slice ia st.info.length ic := Own.shape (w := w1) (base := base) (l := st.info) ⟨hW1.rows.own (rowB V2.info st.info) (by simp), hW1.ok.info⟩
  rw [hiv] at b7
  have HIV := Lib.hid hiv; clear hiv
  have hB1 := hW1.lt
  go_upto_region 13 with fail
  have hF2 : Frame (fun k => k = B) w1 (w1.setCell ⟨B, 2, none⟩ (.slice ia st.info.length ic)) := (Frame.refl (fun k => k = B) w1).set (.inl rfl) _
  have h2 := heap_setCell_row hW1.cells (i := 2) (.slice ia st.info.length ic)
  have hr8 : RdB w1 V2.rngs st.rngs := RdB.own (base := base) ⟨hW1.rows.own (rowB V2.rngs st.rngs) (by simp), hW1.ok.rngs⟩
  obtain ⟨K8, hk8, hb8⟩ : ∃ K : Bs, Rd K w1 V2.rngs st.rngs ∧ ∀ k, K k → k < w1.heap.size ∧ k ≠ B :=
    have ho : Own w1 base V2.rngs st.rngs := ⟨hW1.rows.own (rowB V2.rngs st.rngs) (by simp), hW1.ok.rngs⟩
    ⟨_, ho.rd, fun k hk => ⟨(own_lt ho k hk).2, fun e => hW1.rows.notB (rowB V2.rngs st.rngs) (by simp) (e ▸ hk)⟩⟩
  generalize (w1.setCell ⟨B, 2, none⟩ (.slice ia st.info.length ic)) = w2 at *
  have c8 : w2.cell? ⟨B, 8, none⟩ = some V2.rngs := cell_of_row w2 B 8 _ _ _ h2
  have c9 : w2.cell? ⟨B, 9, none⟩ = some V2.strs := cell_of_row w2 B 9 _ _ _ h2
  have c10 : w2.cell? ⟨B, 10, none⟩ = some V2.addrs := cell_of_row w2 B 10 _ _ _ h2
  obtain ⟨sa, sn, sc, hsv⟩ : ∃ a n c, V2.strs = .slice a n c := by (obtain ⟨a, c, e⟩ := Own.shape (w := w1) (base := base) (l := st.strs) ⟨hW1.rows.own (rowB V2.strs st.strs) (by simp), hW1.ok.strs⟩; exact ⟨a, _, c, e⟩)
  obtain ⟨aa, an, ac, hav⟩ : ∃ a n c, V2.addrs = .slice a n c := by (obtain ⟨a, c, e⟩ := Own.shape (w := w1) (base := base) (l := st.addrs) ⟨hW1.rows.own (rowB V2.addrs st.addrs) (by simp), hW1.ok.addrs⟩; exact ⟨a, _, c, e⟩)
  obtain ⟨ga, gn, gc, hgv⟩ : ∃ a n c, V2.rngs = .slice a n c := by (obtain ⟨a, c, e⟩ := hr8.shape; exact ⟨a, _, c, e⟩)
  rw [hsv] at c9; rw [hav] at c10; rw [hgv] at c8 hk8
  have HSV := Lib.hid hsv; have HAV := Lib.hid hav; have HGV := Lib.hid hgv
  clear hsv hav hgv hr8
  have hr8 : RdB w2 (.slice ga gn gc) st.rngs := ⟨K8, hk8.keep (hF2.same hb8), fun k hk => Nat.lt_of_lt_of_le (hb8 k hk).1 hF2.size⟩
  have HRL := Lib.hid (show st.rngs.length ≤ 50000000 from HST.out ▸ hrl)
  refine wp_region_seq no 23 [(0, true), (1, true), (2, true), (3, true), (4, true), (5, true), (6, true), (7, true), (8, true), (9, true), (10, true), (11, true), (12, true), (13, true), (14, true), (15, false), (16, false), (17, false), (18, true), (19, false), (20, false), (21, false), (22, true), (23, false)] (by kernel_rfl) (by kernel_rfl) (fun _ _ _ d _ h => by cases d <;> exact h) ?_
  simp only [pickB, List.getElem?_toArray, List.getElem?_cons_zero, List.getElem?_cons_succ, Option.getD_some, Bool.false_eq_true, ↓reduceIte, Nat.reduceLT]
  iterate 15
    refine seq_val (v := ?_) (fun w' hX => ?_) ?_
    rotate_left
    · have x0 := hX.cell c8 id; have x1 := hX.cell c9 id; have x2 := hX.cell c10 id; clear hX; go_simp; try with_reducible rfl
    try simp only [Act.put, List.setIfInBounds_toArray, List.set_cons_zero, List.set_cons_succ]
  refine seq_new (fun _ _ => ?_)
  go_wp2_with fail
  refine ⟨(Frame.refl _ _).alloc _, ?_⟩
  refine seq_new (fun _ _ => ?_)
  go_wp2_with fail
  refine ⟨(Frame.refl _ _).alloc _, ?_⟩
  refine seq_new (fun KK hK => ?_)
  go_wp2_with fail
  have hone : RdB (w2.alloc (.cells #[.int .u8 0] 5)) (.slice (some ⟨w2.heap.size, 0, none⟩) 1 1) [0] := RdB.one w2 0 (y := 0) Int.natCast_zero (by omega)
  obtain ⟨Ka, a1, b1⟩ := hr8.up ((Frame.refl no w2).alloc (.cells #[.int .u8 0] 5))
  obtain ⟨Kb, a2, b2⟩ := hone
  (with_reducible refine (join2d a1 a2 b1 b2 (by have := HRL.out; simp; omega) (by simp)).mono ?_)
  rintro e w3 ⟨ra, rn, rc, rfl, ho3, hf3⟩
  have hF3 : Frame no w2 w3 := ((((Frame.refl no w2).alloc _).alloc _).drew).trans hf3 (fun _ h => h.elim)
  have c6 : w3.cell? ⟨B, 6, none⟩ = some (.slice none 0 0) := hF3.cell (cell_of_row w2 B 6 _ _ _ h2) id
  have f6 : w3.frozen? ⟨B, 6, none⟩ = false := (hF3.frozen (cell_of_row w2 B 6 _ _ _ h2) id).trans (by simp [World.frozen?, h2])
  go_wp2_with fail
  refine ⟨hf3, ?_⟩
  iterate 1
    refine seq_val (v := ?_) (fun w' hX => ?_) ?_
    rotate_left
    · clear hX; go_simp; try with_reducible rfl
    try simp only [Act.put, List.setIfInBounds_toArray, List.set_cons_zero, List.set_cons_succ]
  refine seq_new (fun KK hK => ?_)
  go_wp2_with fail
  refine ⟨(Frame.refl _ _).alloc _, ?_⟩
  have c6' := cell_alloc c6 (.cells #[.string sOffs, .slice sa sn sc, .string sAddr, .slice aa an ac, .string sRngs, .slice ra rn rc] 125)
  dsimp only [sOffs, sAddr, sRngs] at c6'
  have f6' := (((Frame.refl no w3).alloc (.cells #[.string sOffs, .slice sa sn sc, .string sAddr, .slice aa an ac, .string sRngs, .slice ra rn rc] 125)).frozen c6 id).trans f6
  dsimp only [sOffs, sAddr, sRngs] at f6'
  refine seq_new (fun _ _ => ?_)
  go_wp2_with fail
  refine ⟨Frame.refl _ _, ?_⟩
  refine seq_new (fun _ _ => ?_)
  go_wp2_with fail
  refine ⟨Frame.refl _ _, ?_⟩
  iterate 1
    refine seq_val (v := ?_) (fun w' hX => ?_) ?_
    rotate_left
    · clear hX; go_simp; try with_reducible rfl
    try simp only [Act.put, List.setIfInBounds_toArray, List.set_cons_zero, List.set_cons_succ]
  refine seq_out (fun KK hK => ?_)
  go_wp2_with fail
  refine seq_nil ?_
  go_end0
  have hlt2 : B < w2.heap.size := Nat.lt_of_lt_of_le hB1 hF2.size
  have h3 : w3.heap[B]? = _ := (hF3.block B hlt2 id).trans h2
  have hlt3 : B < w3.heap.size := Nat.lt_of_lt_of_le hlt2 hF3.size
  have hrd : RdB w3 (.slice ra rn rc) (st.rngs ++ [0]) := RdB.own ho3
  have hFa : Frame (fun k => k = B) w3 ((w3.alloc (.cells #[.string sOffs, .slice sa sn sc, .string sAddr, .slice aa an ac, .string sRngs, .slice ra rn rc] 125)).setCell ⟨B, 6, none⟩ (.slice (some ⟨w3.heap.size, 0, none⟩) 3 3)) := ((Frame.refl (fun k => k = B) w3).alloc _).set (.inl rfl) _
  rw [HST.out]
  refine ⟨rfl, V2, w1, w3.heap.size, .slice ra rn rc, hto, ?_, ?_, ?_, ?_, ?_⟩
  · exact (hF2.trans' (hF3.mono fun _ h => h.elim)).trans' hFa
  · have h4 := (((Frame.refl no w3).alloc (.cells #[.string sOffs, .slice sa sn sc, .string sAddr, .slice aa an ac, .string sRngs, .slice ra rn rc] 125)).block B hlt3 id).trans h3
    have h5 := heap_setCell_row h4 (i := 6) (.slice (some ⟨w3.heap.size, 0, none⟩) 3 3)
    rw [HIV.out]
    exact h5
  · exact Nat.le_trans hF2.size hF3.size
  · rw [HSV.out, HAV.out]
    exact (Below.heap_setCell _ _ _ _ (show w3.heap.size ≠ B from fun e => by omega)).trans (heap_alloc_new _ _)
  · exact ⟨_, ho3.rd.keep (hFa.same fun k hk => ⟨(own_lt ho3 k hk).2, fun e => by have h := (own_lt ho3 k hk).1; simp at h; omega⟩), fun k hk => ⟨by have h := (own_lt ho3 k hk).1; have h2 := hF2.size; simp at h; omega, Nat.lt_of_lt_of_le (own_lt ho3 k hk).2 hFa.size⟩⟩

end Go.Proofs.YtklcoppfkfenfaaGreatDoor
namespace Go.Proofs.YtklcoppfkfenfaaGreatDoor

/-- an abbreviation -/
structure AbD where
  tag : Nat
  child : Bool
  fields : List (Nat × Nat)

def abOf (nd : NodeD) : AbD := ⟨nd.tag, childF nd, nd.attrs.map fun a => (a.attr, a.form)⟩
def pairsB (l : List (Nat × Nat)) : List Nat := l.flatMap fun p => uleb p.1 ++ uleb p.2
def bitN (b : Bool) : Nat := if b then 1 else 0
def abB (a : AbD) : List Nat := uleb a.tag ++ [bitN a.child] ++ pairsB a.fields ++ [0, 0]
theorem pairsB_map (al : List AttrD) : pairsB (al.map fun a => (a.attr, a.form)) = attrsB al := by
  simp [pairsB, attrsB, List.flatMap_map]
theorem shapeB_eq (nd : NodeD) : shapeB nd = abB (abOf nd) := by
  simp only [shapeB, abB, abOf, pairsB_map]
  rfl

theorem uleb_inj (a : Nat) : ∀ (b : Nat) (x y : List Nat), uleb a ++ x = uleb b ++ y → a = b ∧ x = y := by
  induction a using Nat.strongRecOn with
  | _ a ih =>
    intro b x y h
    by_cases ha : a < 128
    · by_cases hb : b < 128
      · rw [uleb_lt a ha, uleb_lt b hb] at h
        simpa using h
      · rw [uleb_lt a ha, uleb_ge b (by omega)] at h
        simp only [List.cons_append, List.nil_append, List.cons.injEq] at h
        omega
    · by_cases hb : b < 128
      · rw [uleb_ge a (by omega), uleb_lt b hb] at h
        simp only [List.cons_append, List.nil_append, List.cons.injEq] at h
        omega
      · rw [uleb_ge a (by omega), uleb_ge b (by omega)] at h
        simp only [List.cons_append, List.cons.injEq] at h
        obtain ⟨h1, h2⟩ := ih (a / 128) (by omega) (b / 128) x y h.2
        exact ⟨by omega, h2⟩
theorem uleb_ne (n : Nat) : uleb n ≠ [] := by
  by_cases h : n < 128
  · rw [uleb_lt n h]; simp
  · rw [uleb_ge n (by omega)]; simp
theorem uleb_pos (n : Nat) : 0 < (uleb n).length := List.length_pos_iff.2 (uleb_ne n)

theorem pairs_inj : ∀ (l m : List (Nat × Nat)), (∀ p ∈ l, p.1 ≠ 0) → (∀ p ∈ m, p.1 ≠ 0) → pairsB l ++ [0, 0] = pairsB m ++ [0, 0] → l = m
  | [], [], _, _, _ => rfl
  | [], q :: m, _, hm, h => by
    exfalso
    have e : uleb 0 ++ [0] = uleb q.1 ++ (uleb q.2 ++ pairsB m ++ [0, 0]) := by
      rw [uleb_lt 0 (by decide)]
      simpa [pairsB] using h
    exact hm q (by simp) (uleb_inj _ _ _ _ e).1.symm
  | p :: l, [], hl, _, h => by
    exfalso
    have e : uleb p.1 ++ (uleb p.2 ++ pairsB l ++ [0, 0]) = uleb 0 ++ [0] := by
      rw [uleb_lt 0 (by decide)]
      simpa [pairsB] using h
    exact hl p (by simp) (uleb_inj _ _ _ _ e).1
  | p :: l, q :: m, hl, hm, h => by
    have e : uleb p.1 ++ (uleb p.2 ++ (pairsB l ++ [0, 0])) = uleb q.1 ++ (uleb q.2 ++ (pairsB m ++ [0, 0])) := by
      simpa [pairsB] using h
    obtain ⟨h1, e⟩ := uleb_inj _ _ _ _ e
    obtain ⟨h2, e⟩ := uleb_inj _ _ _ _ e
    have h3 := pairs_inj l m (fun x hx => hl x (by simp [hx])) (fun x hx => hm x (by simp [hx])) e
    obtain ⟨p1, p2⟩ := p
    obtain ⟨q1, q2⟩ := q
    simp only at h1 h2
    rw [h1, h2, h3]
theorem bitN_inj {a b : Bool} (h : bitN a = bitN b) : a = b := by cases a <;> cases b <;> simp_all [bitN]
theorem abB_inj (a b : AbD) (ha : ∀ p ∈ a.fields, p.1 ≠ 0) (hb : ∀ p ∈ b.fields, p.1 ≠ 0) (h : abB a = abB b) : a = b := by
  obtain ⟨t, c, f⟩ := a
  obtain ⟨t', c', f'⟩ := b
  have e : uleb t ++ (bitN c :: (pairsB f ++ [0, 0])) = uleb t' ++ (bitN c' :: (pairsB f' ++ [0, 0])) := by simpa [abB] using h
  obtain ⟨h1, e⟩ := uleb_inj _ _ _ _ e
  simp only [List.cons.injEq] at e
  have h3 := pairs_inj f f' ha hb e.2
  rw [h1, bitN_inj e.1, h3]

/-- what an entry is read in: the order of bytes, its unit's form, and the sections that it leads to -/
structure EnvD where
  big : Bool
  wide : Bool
  asize : Nat
  version : Nat
  str : List Nat
  addr : List Nat
  addrBase : Nat
  rng : List Nat
  rngBase : Nat

/-- the bytes of a value of a form, and the kind, number and data as it is read -/
inductive ValOk (E : EnvD) : Nat → List Nat → Int → Nat → List Nat → Prop
  | addr (n : Nat) (h : n < 2 ^ (8 * E.asize)) : ValOk E 1 (num n E.asize E.big) 2 n []
  | data1 (n : Nat) (h : n < 256) : ValOk E 11 (num n 1 E.big) 1 n []
  | data2 (n : Nat) (h : n < 65536) : ValOk E 5 (num n 2 E.big) 1 n []
  | data4 (n : Nat) (h : n < 4294967296) : ValOk E 6 (num n 4 E.big) 1 n []
  | data8 (n : Nat) (h : n < 18446744073709551616) : ValOk E 7 (num n 8 E.big) 1 n []
  | text (d : List Nat) (h : ∀ x ∈ d, x ≠ 0 ∧ x < 256) : ValOk E 8 (d ++ [0]) 6 0 d
  | strp (off : Nat) (d r : List Nat) (h : ∀ x ∈ d, x ≠ 0 ∧ x < 256) (ho : off < 4294967296) (hs : E.str.drop off = d ++ 0 :: r) : ValOk E 14 (num off (wordF E.wide) E.big) 6 0 d
  | sdata (n : Nat) (h : n < 18446744073709551616) : ValOk E 13 (sleb (sgn n)) 1 n []
  | udata (n : Nat) (h : n < 18446744073709551616) : ValOk E 15 (uleb n) 1 n []
  | sec (n : Nat) (h : n < 2 ^ (8 * wordF E.wide)) : ValOk E 23 (num n (wordF E.wide) E.big) 1 n []
  | addrx (i n : Nat) (r : List Nat) (hi : i < 4294967296) (h : n < 2 ^ (8 * E.asize)) (ho : E.addrBase + i * E.asize < 4294967296) (hs : E.addr.drop (E.addrBase + i * E.asize) = num n E.asize E.big ++ r) : ValOk E 27 (uleb i) 2 n []
  | rngx (i n : Nat) (r : List Nat) (hi : i < 4294967296) (h : E.rngBase + n < 4294967296) (ho : E.rngBase + i * wordF E.wide < 4294967296) (hs : E.rng.drop (E.rngBase + i * wordF E.wide) = num n (wordF E.wide) E.big ++ r) : ValOk E 35 (uleb i) 2 (E.rngBase + n) []

/-- the attributes of an entry: each with its form, the bytes of its value, and the field that is read -/
def FieldsOk (E : EnvD) : List (Nat × Nat) → List (List Nat) → List FieldD → Prop
  | [], [], [] => True
  | p :: ps, v :: vs, f :: fs => (f.attr = p.1 ∧ f.cls = classF p.1 p.2 E.version ∧ ValOk E p.2 v f.kind f.n f.data) ∧ FieldsOk E ps vs fs
  | _, _, _ => False
theorem FieldsOk.snoc {E : EnvD} {p : Nat × Nat} {v : List Nat} {f : FieldD} (h : f.attr = p.1 ∧ f.cls = classF p.1 p.2 E.version ∧ ValOk E p.2 v f.kind f.n f.data) :
    ∀ {ps : List (Nat × Nat)} {vs : List (List Nat)} {fs : List FieldD}, FieldsOk E ps vs fs → FieldsOk E (ps ++ [p]) (vs ++ [v]) (fs ++ [f])
  | [], [], [], _ => ⟨h, trivial⟩
  | _ :: _, _ :: _, _ :: _, g => ⟨g.1, FieldsOk.snoc h g.2⟩

/-- an entry in bytes: the number of its abbreviation (0: the end of what is within another one), its values, and what it is read as -/
structure PieceD where
  code : Nat
  vals : List (List Nat)
  e : EntryD
def PieceD.bytes (p : PieceD) : List Nat := uleb p.code ++ p.vals.flatten
def endE : EntryD := { off := 0, tag := 0, children := false, fields := [] }
def endP : PieceD := { code := 0, vals := [], e := endE }
def PieceOk (E : EnvD) (abs : List AbD) (off : Nat) (p : PieceD) : Prop :=
  p = endP ∨ ∃ ab, 1 ≤ p.code ∧ abs[p.code - 1]? = some ab ∧ p.e.off = off ∧ p.e.tag = ab.tag ∧ ab.tag ≠ 0 ∧ p.e.children = ab.child ∧ FieldsOk E ab.fields p.vals p.e.fields
def PiecesOk (E : EnvD) (abs : List AbD) : Nat → List PieceD → Prop
  | _, [] => True
  | off, p :: ps => PieceOk E abs off p ∧ PiecesOk E abs (off + p.bytes.length) ps
def piecesB (ps : List PieceD) : List Nat := ps.flatMap PieceD.bytes
theorem piecesB_cons (p : PieceD) (ps : List PieceD) : piecesB (p :: ps) = p.bytes ++ piecesB ps := rfl
theorem piecesB_append (a b : List PieceD) : piecesB (a ++ b) = piecesB a ++ piecesB b := by simp [piecesB]
theorem PiecesOk.append {E : EnvD} {abs : List AbD} : ∀ {off : Nat} {a b : List PieceD}, PiecesOk E abs off a → PiecesOk E abs (off + (piecesB a).length) b → PiecesOk E abs off (a ++ b)
  | _, [], _, _, h => by simpa [piecesB] using h
  | off, p :: a, b, h, k => ⟨h.1, PiecesOk.append h.2 (by rw [piecesB_cons, List.length_append] at k; rwa [Nat.add_assoc])⟩

end Go.Proofs.YtklcoppfkfenfaaGreatDoor
