/-
  Walks: the writer's unit.
-/
import Derived.Test.YtklcoppfkfenfaaGreatDoorFP17
set_option linter.all false
set_option linter.unusedVariables false
set_option linter.unusedSimpArgs false
namespace Go.Proofs.YtklcoppfkfenfaaGreatDoor
set_option maxRecDepth 100000
open Go Go.RowKit

/-- a unit is handed back that tells where its tables are -/
def BasedPost (u0 : UnitD) (d base B : Nat) (w : World) (V : WV) (st : WSt) (e : Ending) (w' : World) : Prop :=
  ∃ V' K' x' y', e = .returned (.agg (unitV (basedU u0 st) x' y')) ∧ WrTo base B w V st w' V' (basedS u0 st) ∧ NodeAt d K' w' ((basedU u0 st).root, x', y') ∧ ∀ k, K' k → V'.D k
/-- what based does -/
abbrev BasedC (u0 : UnitD) (d : Nat) : Prop :=
  ∀ (base B : Nat) (w : World) (V : WV) (st : WSt) (K : Bs) (x y : Value), Wr w base B V st → NodeAt d K w (u0.root, x, y) → (∀ k, K k → V.D k) → Small st 50000000 →
    Calls Tryz.prog 61 #[.pointer (some ⟨B, 0, none⟩), .agg (unitV u0 x y)] w (BasedPost u0 d base B w V st)
/-- what tables does -/
abbrev TablesC (u : UnitD) (P : WSt → Prop) : Prop :=
  ∀ (base B : Nat) (w : World) (V : WV) (st : WSt) (x y : Value), Wr w base B V st → P st → Small st 50000000 →
    Calls Tryz.prog 68 #[.pointer (some ⟨B, 0, none⟩), .agg (unitV u x y)] w (fun e w' => e = .returned (.tuple #[]) ∧ ∃ V', WrTo base B w V st w' V' (tablesF u st))

def headB (u : UnitD) (st : WSt) : List Nat :=
  if 5 ≤ u.version then num u.version.toNat 2 st.big ++ ([1, u.address.toNat % 256] ++ num st.abv.length (wordF u.wide) st.big) else num u.version.toNat 2 st.big ++ (num st.abv.length (wordF u.wide) st.big ++ [u.address.toNat % 256])
/-- the writer ahead of a unit's first node, and behind its last one -/
def unitS2 (u : UnitD) (st : WSt) : WSt :=
  { st with abv := st.abv ++ (abbrevB (shapesF u.root []) 1 ++ [0]), base := st.info.length % 4294967296, info := st.info ++ (lenB 0 u.wide st.big ++ headB u st), units := st.units ++ [(st.info ++ (lenB 0 u.wide st.big ++ headB u st)).length % 4294967296] }
def unitS3 (u : UnitD) (st : WSt) : WSt := nodeF u.version u.wide u.address.toNat (shapesF u.root []) u.root (unitS2 u st)
def unitS4 (u : UnitD) (st : WSt) : WSt :=
  { unitS3 u st with info := st.info ++ (lenB ((unitS3 u st).info.drop (st.info.length + (lenB 0 u.wide st.big).length)).length u.wide st.big ++ (unitS3 u st).info.drop (st.info.length + (lenB 0 u.wide st.big).length)) }
theorem unitF_eq (u0 : UnitD) (st0 : WSt) : unitF u0 st0 = tablesF (basedU u0 st0) (unitS4 (basedU u0 st0) (basedS u0 st0)) := rfl

theorem basedU_eq (u0 : UnitD) (st : WSt) : (basedU u0 st).version = u0.version ∧ (basedU u0 st).wide = u0.wide ∧ (basedU u0 st).address = u0.address ∧ (basedU u0 st).typed = u0.typed := by
  unfold basedU; split <;> exact ⟨rfl, rfl, rfl, rfl⟩
theorem basedS_eq (u0 : UnitD) (st : WSt) : (basedS u0 st).abv = st.abv ∧ (basedS u0 st).info = st.info ∧ (basedS u0 st).big = st.big := by
  unfold basedS; split <;> exact ⟨rfl, rfl, rfl⟩
theorem basedS_small (u0 : UnitD) (st : WSt) (N : Nat) (h : Small st N) : Small (basedS u0 st) N := by
  unfold basedS; split
  · exact h
  · exact ⟨h.abv, h.ranges, h.str, h.info, h.rngs, h.strs, h.addrs, h.offsets, h.units, h.places, h.due, h.lists, h.flat⟩

theorem set11 {w : World} {U : Nat} {c0 c1 c2 c3 c4 c5 c6 c7 c8 c9 c10 : Value} {T : TypeId} {fr : Nat × Nat} (h : w.heap[U]? = some (.cells #[c0, c1, c2, c3, c4, c5, c6, c7, c8, c9, c10] T fr)) (v0 v1 v2 v3 v4 v5 v6 v7 v8 v9 v10 : Value) :
    (((((((((((w.setCell ⟨U, 0, none⟩ v0).setCell ⟨U, 1, none⟩ v1).setCell ⟨U, 2, none⟩ v2).setCell ⟨U, 3, none⟩ v3).setCell ⟨U, 4, none⟩ v4).setCell ⟨U, 5, none⟩ v5).setCell ⟨U, 6, none⟩ v6).setCell ⟨U, 7, none⟩ v7).setCell ⟨U, 8, none⟩ v8).setCell ⟨U, 9, none⟩ v9).setCell ⟨U, 10, none⟩ v10).heap[U]? = some (.cells #[v0, v1, v2, v3, v4, v5, v6, v7, v8, v9, v10] T fr) := by
  have h0 := heap_setCell_row (i := 0) h v0
  have h1 := heap_setCell_row (i := 1) h0 v1
  have h2 := heap_setCell_row (i := 2) h1 v2
  have h3 := heap_setCell_row (i := 3) h2 v3
  have h4 := heap_setCell_row (i := 4) h3 v4
  have h5 := heap_setCell_row (i := 5) h4 v5
  have h6 := heap_setCell_row (i := 6) h5 v6
  have h7 := heap_setCell_row (i := 7) h6 v7
  have h8 := heap_setCell_row (i := 8) h7 v8
  have h9 := heap_setCell_row (i := 9) h8 v9
  have h10 := heap_setCell_row (i := 10) h9 v10
  rw [h10]
  simp
theorem Frame.set11 (w : World) (U : Nat) (v0 v1 v2 v3 v4 v5 v6 v7 v8 v9 v10 : Value) : Frame (fun k => k = U) w (((((((((((w.setCell ⟨U, 0, none⟩ v0).setCell ⟨U, 1, none⟩ v1).setCell ⟨U, 2, none⟩ v2).setCell ⟨U, 3, none⟩ v3).setCell ⟨U, 4, none⟩ v4).setCell ⟨U, 5, none⟩ v5).setCell ⟨U, 6, none⟩ v6).setCell ⟨U, 7, none⟩ v7).setCell ⟨U, 8, none⟩ v8).setCell ⟨U, 9, none⟩ v9).setCell ⟨U, 10, none⟩ v10) := by
  have h := Frame.refl (fun k => k = U) w
  replace h := Frame.set (b := U) (i := 0) h (.inl rfl) v0
  replace h := Frame.set (b := U) (i := 1) h (.inl rfl) v1
  replace h := Frame.set (b := U) (i := 2) h (.inl rfl) v2
  replace h := Frame.set (b := U) (i := 3) h (.inl rfl) v3
  replace h := Frame.set (b := U) (i := 4) h (.inl rfl) v4
  replace h := Frame.set (b := U) (i := 5) h (.inl rfl) v5
  replace h := Frame.set (b := U) (i := 6) h (.inl rfl) v6
  replace h := Frame.set (b := U) (i := 7) h (.inl rfl) v7
  replace h := Frame.set (b := U) (i := 8) h (.inl rfl) v8
  replace h := Frame.set (b := U) (i := 9) h (.inl rfl) v9
  replace h := Frame.set (b := U) (i := 10) h (.inl rfl) v10
  exact h

mutual
theorem AllN_mono {P Q : NodeD → Prop} (h : ∀ n, P n → Q n) : (nd : NodeD) → AllN P nd → AllN Q nd
  | .mk _ _ _ kids, hp => ⟨h _ hp.1, AllL_mono h kids hp.2⟩
theorem AllL_mono {P Q : NodeD → Prop} (h : ∀ n, P n → Q n) : (l : List NodeD) → AllL P l → AllL Q l
  | [], _ => trivial
  | k :: ks, hp => ⟨AllN_mono h k hp.1, AllL_mono h ks hp.2⟩
end
theorem unsigned_z {z : Int} {n : Nat} (w : World) (hz : (n : Int) = z) (h : n < 18446744073709551616) : Calls Tryz.prog 63 #[.int .u64 z] w (Fresh (uleb n) w) := by subst hz; exact unsigned_any n w h
theorem OwnL.rds {w : World} {base : Nat} {v : Value} {ls : List (List Nat)} (h : OwnL w base v ls) : Rds (fun k => base ≤ k ∧ k < w.heap.size) w v ls := by
  obtain ⟨vs, h1, h2⟩ := h
  have hl : vs.length = ls.length := by have := h1.1; omega
  refine ⟨vs, hl, (Sl.of_own h1).mono fun k hk => h1.lt k hk, fun i a b => ?_⟩
  obtain ⟨u, hu, hr⟩ := h2 i b
  rw [List.getElem?_eq_getElem a] at hu
  rw [Option.some.inj hu]
  exact hr.mono fun k hk => ⟨hk.1, hk.2.1⟩
theorem abbrevB_append (a b : List (List Nat)) (k : Nat) : abbrevB (a ++ b) k = abbrevB a k ++ abbrevB b (k + a.length) := by
  induction a generalizing k with
  | nil => simp [abbrevB]
  | cons x a ih => simp [abbrevB, ih, Nat.add_assoc, Nat.add_comm 1]
theorem abbrevB_take (l : List (List Nat)) (k : Nat) (h : k < l.length) : abbrevB (l.take (k + 1)) 1 = abbrevB (l.take k) 1 ++ (uleb (k + 1) ++ l[k]) := by
  rw [List.take_succ_eq_append_getElem h, abbrevB_append]
  simp [abbrevB, Nat.min_eq_left (Nat.le_of_lt h), Nat.add_comm 1]
theorem abbrevB_take_le (l : List (List Nat)) (k : Nat) : (abbrevB (l.take k) 1).length ≤ (abbrevB l 1).length := by
  conv => rhs; rw [← List.take_append_drop k l]
  rw [abbrevB_append, List.length_append]; omega
theorem number_z {z s : Int} {n : Nat} (size : Nat) (big : Bool) (w : World) (hz : (n : Int) = z) (hsz : (size : Int) = s) (h : n < 18446744073709551616) (hs : size ≤ 8) : Calls Tryz.prog 64 #[.int .u64 z, .int .i64 s, .bool big] w (Fresh (num n size big) w) := by subst hz; subst hsz; exact number_any n size big w h hs
theorem wordF_le (b : Bool) : wordF b ≤ 8 := by unfold wordF; split <;> omega
theorem RdB.two (w : World) (x x' : Nat) {y y' : Int} (hy : (x : Int) = y) (hy' : (x' : Int) = y') (hx : x < 256) (hx' : x' < 256) : RdB (w.alloc (.cells #[.int .u8 y, .int .u8 y'] 5)) (.slice (some ⟨w.heap.size, 0, none⟩) 2 2) [x, x'] := by
  subst hy; subst hy'
  exact ⟨_, ⟨Sl.laid w [.int .u8 x, .int .u8 x'] 1 2 5 rfl (by decide), by intro y hy; simp at hy; omega⟩, fun k hk => by subst hk; simp⟩
theorem length_z {z : Int} {n : Nat} (wide big : Bool) (w : World) (hz : (n : Int) = z) (h : n < 18446744073709551616) : Calls Tryz.prog 66 #[.int .u64 z, .bool wide, .bool big] w (Fresh (lenB n wide big) w) := by subst hz; exact length_any n wide big w h
theorem lenB_le (n : Nat) (wide big : Bool) : (lenB n wide big).length ≤ 12 := by rw [lenB_length]; split <;> omega
theorem headB_le (u : UnitD) (st : WSt) : (headB u st).length ≤ 12 := by
  have := wordF_le u.wide
  unfold headB; split <;> simp <;> omega
theorem OwnN {w : World} {base n : Nat} {a : Option Addr} {c : Nat} {l : List Nat} (h : Own w base (.slice a n c) l) : n = l.length := h.len
theorem unitS2_small (u : UnitD) (st : WSt) (N : Nat) (h : Small st N) (hab : (abbrevB (shapesF u.root []) 1).length ≤ 1000000) : Small (unitS2 u st) (N + 1000100) := by
  have h1 := lenB_le 0 u.wide st.big
  have h2 := headB_le u st
  have hm := h.mono (M := N + 1000100) (by omega)
  refine ⟨?_, hm.ranges, hm.str, ?_, hm.rngs, hm.strs, hm.addrs, hm.offsets, ?_, hm.places, hm.due, hm.lists, hm.flat⟩
  · have := h.abv; simp only [unitS2, List.length_append, List.length_cons, List.length_nil]; omega
  · have := h.info; simp only [unitS2, List.length_append]; omega
  · have := h.units; simp only [unitS2, List.length_append, List.length_cons, List.length_nil]; omega
theorem unitS4_small (u : UnitD) (st : WSt) (M : Nat) (h : Small (unitS3 u st) M) : Small (unitS4 u st) (M + 12) := by
  have hm := h.mono (M := M + 12) (by omega)
  obtain ⟨t, ht⟩ := (nodeF_keeps u.version u.wide u.address.toNat (shapesF u.root []) u.root (unitS2 u st)).info
  have hi := h.info
  have hl := lenB_le ((unitS3 u st).info.drop (st.info.length + (lenB 0 u.wide st.big).length)).length u.wide st.big
  have hlo : st.info.length + (lenB 0 u.wide st.big).length ≤ (unitS3 u st).info.length := by
    show _ ≤ (nodeF u.version u.wide u.address.toNat (shapesF u.root []) u.root (unitS2 u st)).info.length
    rw [ht]; simp only [unitS2, List.length_append]; omega
  refine ⟨hm.abv, hm.ranges, hm.str, ?_, hm.rngs, hm.strs, hm.addrs, hm.offsets, hm.units, hm.places, hm.due, hm.lists, hm.flat⟩
  show (st.info ++ (lenB ((unitS3 u st).info.drop (st.info.length + (lenB 0 u.wide st.big).length)).length u.wide st.big ++ (unitS3 u st).info.drop (st.info.length + (lenB 0 u.wide st.big).length))).length ≤ M + 12
  simp only [List.length_append, List.length_drop] at hl ⊢
  omega
set_option maxHeartbeats 4000000 in
theorem unit_any (u0 : UnitD) (AV : AttrD → Prop) (P : WSt → Prop) (hty : u0.typed = false) (hv1 : 2 ≤ u0.version) (hv2 : u0.version ≤ 5) (had : u0.address = 4 ∨ u0.address = 8) (d : Nat) (hBC : BasedC u0 d)
    (base B : Nat) (w : World) (V : WV) (st0 : WSt) (K : Bs) (x y : Value) (N : Nat) (hW : Wr w base B V st0) (hn : NodeAt d K w (u0.root, x, y)) (hKD : ∀ k, K k → V.D k) (hSm : Small st0 N) (hN : N + costF (basedU u0 st0).root ≤ 40000000)
    (hVC : ValueC (basedU u0 st0) AV) (hTC : TablesC (basedU u0 st0) P) (hP : P (unitS4 (basedU u0 st0) (basedS u0 st0))) (hNB : NodeB (basedU u0 st0).root) (hAV : AllN (fun n => (∀ a ∈ n.attrs, AV a) ∧ n.attrs.length ≤ 1000000) (basedU u0 st0).root) (hnod : nodesF (basedU u0 st0).root ≤ 1000000)
    (hab : (abbrevB (shapesF (basedU u0 st0).root []) 1).length ≤ 1000000) :
    Calls Tryz.prog 41 #[.pointer (some ⟨B, 0, none⟩), .agg (unitV u0 x y)] w (fun e w' => e = .returned (.tuple #[]) ∧ ∃ V', WrTo base B w V st0 w' V' (unitF u0 st0)) := by
  cases d with
  | zero => exact hn.elim
  | succ d =>
  have hU0 := UnitSt.start hW u0 x y
  have hna := hn.keep (((Frame.refl no w).alloc (.cells (unitV u0 x y) 31)).same fun k hk => ⟨(hW.hD k (hKD k hk)).1, id⟩)
  have HBC := Lib.hid hBC; clear hBC
  have HVC := Lib.hid hVC; clear hVC
  have HTC := Lib.hid hTC; clear hTC
  have HP := Lib.hid hP; clear hP
  have HTY := Lib.hid hty; clear hty
  have HNB := Lib.hid hNB; clear hNB
  have HAV := Lib.hid hAV; clear hAV
  have HUF := Lib.hid (unitF_eq u0 st0)
  have hbu := basedU_eq u0 st0
  have hbs := basedS_eq u0 st0
  have hbsm := basedS_small u0 st0 N hSm
  obtain ⟨u0c, u1c, u2c, u3c, u4c, u5c, u6c, u7c, u8c, u9c, u10c⟩ := unit_cells hU0.unit
  rw [HTY.out] at u8c
  have hbc := HBC.out base B _ V st0 K _ _ hU0.run.wr hna hKD (hSm.mono (by omega))
  have hbe : unitV u0 x y = #[.int .i64 u0.version, .bool u0.wide, .int .i64 u0.address, .bool u0.late, .int .u32 (u0.root.tag : Int), x, .bool u0.root.opn, y, .bool false, .int .u64 (u0.signature : Int), .int .i64 u0.type] := by unfold unitV; rw [HTY.out]
  replace hbc : Calls Tryz.prog 61 #[.pointer (some ⟨B, 0, none⟩), .agg #[.int .i64 u0.version, .bool u0.wide, .int .i64 u0.address, .bool u0.late, .int .u32 (u0.root.tag : Int), x, .bool u0.root.opn, y, .bool false, .int .u64 (u0.signature : Int), .int .i64 u0.type]] (w.alloc (.cells (unitV u0 x y) 31)) (BasedPost u0 (d + 1) base B (w.alloc (.cells (unitV u0 x y) 31)) V st0) := by rw [← hbe]; exact hbc
  clear hbe
  generalize hu : basedU u0 st0 = u at *
  generalize hst : basedS u0 st0 = st at *
  have HU := Lib.hid hu; clear hu
  have HST := Lib.hid hst; clear hst
  have HBU := Lib.hid hbu; clear hbu
  have HBS := Lib.hid hbs; clear hbs
  have HBCc := Lib.hid hbc; clear hbc
  go_enter Tryz.func41, Tryz.ntmps41
  go_upto_region 3 with (go_at_call 61; (with_reducible refine HBCc.out.mono ?_); rintro e w1 ⟨V1, K1, x1, y1, rfl, hto1, hn1, hK1⟩; rw [HU.out] at hn1 ⊢; rw [HST.out] at hto1; obtain ⟨xa, xc, ya, yc, hx1, hy1, _⟩ := hn1.elem; dsimp only at hx1 hy1; subst hx1 hy1; have hUa := hU0.go hto1; obtain ⟨c0, c1, c2, c3, c4, c5, c6, c7, c8, c9, c10⟩ := unit_cells hUa.unit; have HFZ := Lib.hid (show ∀ i, w1.frozen? ⟨w.heap.size, i, none⟩ = false from fun i => by simp [World.frozen?, hUa.unit]); have f0 := HFZ.out 0; have f1 := HFZ.out 1; have f2 := HFZ.out 2; have f3 := HFZ.out 3; have f4 := HFZ.out 4; have f5 := HFZ.out 5; have f6 := HFZ.out 6; have f7 := HFZ.out 7; have f8 := HFZ.out 8; have f9 := HFZ.out 9; have f10 := HFZ.out 10)
  clear c0 c1 c2 c3 c4 c5 c6 c7 c8 c9 c10 f0 f1 f2 f3 f4 f5 f6 f7 f8 f9 f10 HFZ u0c u1c u2c u3c u4c u5c u6c u7c u8c u9c u10c
  have hU3 : UnitSt base B w V st0 u (.slice xa u.root.attrs.length xc) (.slice ya u.root.kids.length yc) V1 st (((((((((((w1.setCell ⟨w.heap.size, 0, none⟩ (.int .i64 u.version)).setCell ⟨w.heap.size, 1, none⟩ (.bool u.wide)).setCell ⟨w.heap.size, 2, none⟩ (.int .i64 u.address)).setCell ⟨w.heap.size, 3, none⟩ (.bool u.late)).setCell ⟨w.heap.size, 4, none⟩ (.int .u32 (u.root.tag : Int))).setCell ⟨w.heap.size, 5, none⟩ (.slice xa u.root.attrs.length xc)).setCell ⟨w.heap.size, 6, none⟩ (.bool u.root.opn)).setCell ⟨w.heap.size, 7, none⟩ (.slice ya u.root.kids.length yc)).setCell ⟨w.heap.size, 8, none⟩ (.bool u.typed)).setCell ⟨w.heap.size, 9, none⟩ (.int .u64 (u.signature : Int))).setCell ⟨w.heap.size, 10, none⟩ (.int .i64 u.type)) :=
    ⟨hUa.run.step (Frame.set11 _ _ _ _ _ _ _ _ _ _ _ _ _) fun k hk _ => by subst hk; exact ⟨Nat.le_refl _, hUa.apU⟩, set11 hUa.unit _ _ _ _ _ _ _ _ _ _ _, hUa.apU⟩
  have hn3 : NodeAt (d + 1) K1 (((((((((((w1.setCell ⟨w.heap.size, 0, none⟩ (.int .i64 u.version)).setCell ⟨w.heap.size, 1, none⟩ (.bool u.wide)).setCell ⟨w.heap.size, 2, none⟩ (.int .i64 u.address)).setCell ⟨w.heap.size, 3, none⟩ (.bool u.late)).setCell ⟨w.heap.size, 4, none⟩ (.int .u32 (u.root.tag : Int))).setCell ⟨w.heap.size, 5, none⟩ (.slice xa u.root.attrs.length xc)).setCell ⟨w.heap.size, 6, none⟩ (.bool u.root.opn)).setCell ⟨w.heap.size, 7, none⟩ (.slice ya u.root.kids.length yc)).setCell ⟨w.heap.size, 8, none⟩ (.bool u.typed)).setCell ⟨w.heap.size, 9, none⟩ (.int .u64 (u.signature : Int))).setCell ⟨w.heap.size, 10, none⟩ (.int .i64 u.type)) (u.root, .slice xa u.root.attrs.length xc, .slice ya u.root.kids.length yc) :=
    hn1.keep ((Frame.set11 _ _ _ _ _ _ _ _ _ _ _ _ _).same fun k hk => ⟨(hUa.run.wr.hD k (hK1 k hk)).1, fun e => hUa.apU.2 (e ▸ hK1 k hk)⟩)
  clear hn1 hUa hto1 hna hU0
  generalize (((((((((((w1.setCell ⟨w.heap.size, 0, none⟩ (.int .i64 u.version)).setCell ⟨w.heap.size, 1, none⟩ (.bool u.wide)).setCell ⟨w.heap.size, 2, none⟩ (.int .i64 u.address)).setCell ⟨w.heap.size, 3, none⟩ (.bool u.late)).setCell ⟨w.heap.size, 4, none⟩ (.int .u32 (u.root.tag : Int))).setCell ⟨w.heap.size, 5, none⟩ (.slice xa u.root.attrs.length xc)).setCell ⟨w.heap.size, 6, none⟩ (.bool u.root.opn)).setCell ⟨w.heap.size, 7, none⟩ (.slice ya u.root.kids.length yc)).setCell ⟨w.heap.size, 8, none⟩ (.bool u.typed)).setCell ⟨w.heap.size, 9, none⟩ (.int .u64 (u.signature : Int))).setCell ⟨w.heap.size, 10, none⟩ (.int .i64 u.type)) = w3 at *
  have hW3 := hU3.run.wr
  have hK3 : ∀ k, K1 k → k < w3.heap.size := fun k hk => (hW3.hD k (hK1 k hk)).1
  have b1 : w3.cell? ⟨B, 1, none⟩ = some V1.abv := hW3.cell 1
  have hri : Own w3 base V1.abv st.abv := ⟨hW3.rows.own (rowB V1.abv st.abv) (by simp), hW3.ok.abv⟩
  obtain ⟨aa, ac, hiv⟩ := hri.shape
  rw [hiv] at b1
  have hal : st.abv.length ≤ 40000000 := by have := hbsm.abv; omega
  obtain ⟨z0, z1, z2, z3, z4, z5, z6, z7, z8, z9, z10⟩ := unit_cells hU3.unit
  have hwr : IntKind.u64.wrap (st.abv.length : Int) = (st.abv.length : Int) := IntWalk.u64_in _ (by omega)
  have havn : AllN (fun n => n.attrs.length ≤ 1000000) u.root := AllN_mono (fun _ h => h.2) _ HAV.out
  have HAVn := Lib.hid havn; clear havn
  have HIV := Lib.hid hiv; clear hiv
  refine wp_region_seq no 12 [(0, true), (1, true), (3, true), (4, true), (5, true), (6, true), (7, true), (8, true), (9, true), (2, false), (10, true), (11, true)] (by kernel_rfl) (by kernel_rfl) (fun _ _ _ d _ h => by cases d <;> exact h) ?_
  simp only [pickB, List.getElem?_toArray, List.getElem?_cons_zero, List.getElem?_cons_succ, Option.getD_some, Bool.false_eq_true, ↓reduceIte, Nat.reduceLT]
  iterate 9
    refine seq_val (v := ?_) (fun w' hX => ?_) ?_
    rotate_left
    · have x0 := hX.cell z4 id; have x1 := hX.cell z5 id; have x2 := hX.cell z6 id; have x3 := hX.cell z7 id; have x4 := hX.cell b1 id; clear hX; go_simp; try with_reducible rfl
    try simp only [Act.put, List.setIfInBounds_toArray, List.set_cons_zero, List.set_cons_succ]
  refine seq_new (fun KK hK => ?_)
  go_wp2_with fail
  (with_reducible refine (shapes_any (d + 1) K1 w3.heap.size (u.root, .slice xa u.root.attrs.length xc, .slice ya u.root.kids.length yc) (.slice none 0 0) [] w3.drew (hn3.keep (w' := w3.drew) (fun _ _ => rfl)) (OwnL.nil _ _) hK3 (Nat.le_refl _) HAVn.out (by simpa using hnod)).mono ?_)
  rintro e w4 ⟨la, ln, lc, rfl, hol, hf4, _⟩
  have hF4 : Frame no w3 w4 := (Frame.refl no w3).drew.trans hf4 (fun k hk => by cases hk)
  go_wp2_with fail
  refine ⟨hf4.mono (fun k hk => by cases hk), ?_⟩
  iterate 2
    refine seq_val (v := ?_) (fun w' hX => ?_) ?_
    rotate_left
    · clear hX; go_simp; try with_reducible rfl
    try simp only [Act.put, List.setIfInBounds_toArray, List.set_cons_zero, List.set_cons_succ]
  refine seq_nil ?_
  have hU4 := hU3.same hF4
  have hW4 := hU4.run.wr
  obtain ⟨_, lcap, hle, hlc, hlm, hlel⟩ := hol.rds.elem
  simp only [Value.slice.injEq] at hle
  obtain ⟨rfl, rfl, rfl⟩ := hle
  unfold maxLen at hlm
  have HOL := Lib.hid hol; clear hol
  have HLE := Lib.hid hlel; clear hlel
  have hlen : (shapesF u.root []).length ≤ 1000000 := by have := shapesF_len u.root []; simp at this; omega
  have HABL := Lib.hid (abbrevB_take_le (shapesF u.root []))
  generalize hls : shapesF u.root [] = ls at *
  have HLS := Lib.hid hls; clear hls
  have hab' : (abbrevB ls 1).length ≤ 1000000 := hab
  clear z0 z1 z2 z3 z4 z5 z6 z7 z8 z9 z10 b1 hri hwr
  go_upto_block 0 with fail
  go_cut [6, 7, 33] (fun _ _ _ wx => ∃ (w10 : World) (V2 : WV), w10 = wx ∧ UnitSt base B w V st0 u (.slice xa u.root.attrs.length xc) (.slice ya u.root.kids.length yc) V2 { st with abv := st.abv ++ abbrevB ls 1 } wx ∧ WrTo base B w4 V1 st wx V2 { st with abv := st.abv ++ abbrevB ls 1 })
  case first =>
   as_aux_lemma =>
    go_wp2_with fail
    go_loopw [6, 7, 33] (fun _ _ i wr => ∃ (k : Nat) (V2 : WV), k ≤ ls.length ∧ i = .int .i64 k ∧ UnitSt base B w V st0 u (.slice xa u.root.attrs.length xc) (.slice ya u.root.kids.length yc) V2 { st with abv := st.abv ++ abbrevB (ls.take k) 1 } wr ∧ WrTo base B w4 V1 st wr V2 { st with abv := st.abv ++ abbrevB (ls.take k) 1 }) (fun _ _ i _ => ls.length - (intOf i).toNat)
    case atStart =>
      refine ⟨0, V1, Nat.zero_le _, rfl, ?_, ?_⟩
      · simpa [abbrevB] using hU4
      · simpa [abbrevB] using WrTo.refl hW4
    case round =>
    obtain ⟨k, V2, hk', rfl, hU5, hto5⟩ := hrel
    have hW5 := hU5.run.wr
    by_cases hlt : k < ls.length
    · obtain ⟨b, o, sa, sn, sc, rfl, hb, hc, hr⟩ := HLE.out k hlt
      have hKap : ∀ k, (w3.heap.size ≤ k ∧ k < w4.heap.size) → k < w4.heap.size ∧ ¬ V1.S st B k := fun k hk => ⟨hk.2, fun e => by have := (hW3.S_lt k e).2; omega⟩
      have hc5 := hto5.frame.cell hc (hKap b hb).2
      have hr5 := RdB.of (hr.keep (hto5.frame.same hKap)) (fun k hk => Nat.lt_of_lt_of_le hk.2 hto5.frame.size)
      have HTK := Lib.hid (abbrevB_take ls k hlt)
      have hlk : (uleb (k + 1)).length + ls[k].length ≤ 1000000 := by
        have h1 := HABL.out (k + 1)
        rw [HTK.out] at h1
        simp only [List.length_append] at h1
        omega
      have hab5 := HABL.out k
      generalize hlk5 : abbrevB (ls.take k) 1 = ak at *
      have HAK := Lib.hid hlk5; clear hlk5
      have b1 : wr.cell? ⟨B, 1, none⟩ = some V2.abv := hW5.cell 1
      have hri2 : Own wr base V2.abv (st.abv ++ ak) := ⟨hW5.rows.own (rowB V2.abv (st.abv ++ ak)) (by simp), hW5.ok.abv⟩
      obtain ⟨ba, bc, hiv2⟩ := hri2.shape
      rw [hiv2] at b1 hri2
      have hl5 : (st.abv ++ ak).length ≤ 50000000 := by simp only [List.length_append]; omega
      generalize hab2 : st.abv ++ ak = ab2 at *
      have HAB2 := Lib.hid hab2; clear hab2
      have HIV2 := Lib.hid hiv2; clear hiv2
      clear hr hc
      generalize hskk : ls[k] = sk at *
      have HSK := Lib.hid hskk; clear hskk
      have hwr : IntKind.u64.wrap ((k : Int) + 1) = (k : Int) + 1 := IntWalk.u64_in _ (by omega)
      have hwr2 : IntKind.i64.wrap ((k : Int) + 1) = (k : Int) + 1 := IntWalk.i64_in _ (by omega)
      go_wp2_with fail
      refine wp_region_seq no 16 [(0, true), (1, true), (2, true), (3, true), (4, true), (5, true), (6, true), (7, true), (8, true), (10, true), (9, false), (11, false), (12, false), (13, false), (14, false), (15, true), (16, false)] (by kernel_rfl) (by kernel_rfl) (fun _ _ _ d _ h => by cases d <;> exact h) ?_
      simp only [pickB, List.getElem?_toArray, List.getElem?_cons_zero, List.getElem?_cons_succ, Option.getD_some, Bool.false_eq_true, ↓reduceIte, Nat.reduceLT]
      iterate 10
        refine seq_val (v := ?_) (fun w' hX => ?_) ?_
        rotate_left
        · have x0 := hX.cell b1 id; clear hX; go_simp; try with_reducible rfl
        try simp only [Act.put, List.setIfInBounds_toArray, List.set_cons_zero, List.set_cons_succ]
      refine seq_new (fun KK hK => ?_)
      go_wp2_with fail
      (with_reducible refine (unsigned_z (n := k + 1) _ (by omega) (by omega)).mono ?_)
      rintro e w6 ⟨pa, pn, pc, rfl, ho6, hf6⟩
      have hF6 : Frame no wr w6 := (Frame.refl no wr).drew.trans hf6 (fun _ h => h.elim)
      go_wp2_with fail
      refine ⟨hf6, ?_⟩
      refine seq_new (fun _ _ => ?_)
      go_wp2_with fail
      refine ⟨(Frame.refl _ _).alloc _, ?_⟩
      refine seq_new (fun KK hK => ?_)
      go_wp2_with fail
      (with_reducible refine (join3B ((RdB.own hri2).up hF6) (RdB.own ho6) (hr5.up hF6) (by have := uleb_len64 (k + 1) (by omega); omega) rfl).mono ?_)
      rintro e w7 ⟨qa, qn, qc, rfl, ho7, hf7⟩
      have hF7 : Frame no wr w7 := (hF6.alloc _).trans hf7 (fun _ h => h.elim)
      have cB7 := hF7.cell b1 id
      have fB7 : w7.frozen? ⟨B, 1, none⟩ = false := (hF7.frozen b1 id).trans (hW5.frozen 1)
      go_wp2_with fail
      refine ⟨hf7, ?_⟩
      refine seq_new (fun _ _ => ?_)
      go_wp2_with fail
      refine ⟨Frame.refl _ _, ?_⟩
      refine seq_new (fun _ _ => ?_)
      go_wp2_with fail
      refine ⟨Frame.refl _ _, ?_⟩
      iterate 1
        refine seq_val (v := ?_) (fun w' hX => ?_) ?_
        rotate_left
        · clear hX; go_simp; try with_reducible rfl
        try simp only [Act.put, List.setIfInBounds_toArray, List.set_cons_zero, List.set_cons_succ]
      refine seq_out (fun KK hK => ?_)
      go_wp2_with fail
      refine seq_nil ?_
      have k8 := (WrTo.refl hW5).abv hF7 (ho7.mono_base (by have := hF6.size; simp; omega))
      have hU8 := hU5.go k8
      have hto8 := hto5.trans k8
      clear hwr hwr2 cB7 fB7 ho7 hf7 ho6 hf6 b1 hri2 k8
      go_wp2_with fail
      go_roundw
      case rel =>
        refine ⟨k + 1, ({ V2 with abv := .slice qa qn qc } : WV), by omega, by go_num, ?_, ?_⟩
        rotate_left 1
        · rw [HTK.out, ← List.append_assoc, HAB2.out]; exact hto8
        · rw [HTK.out, ← List.append_assoc, HAB2.out]; exact hU8
      case measure => simp [intOf]; omega
    · have HT := Lib.hid (show ls.take k = ls from List.take_of_length_le (by omega))
      go_wp2_with fail
      go_meet
      case rel =>
        rw [HT.out] at hU5 hto5
        exact ⟨_, V2, rfl, hU5, hto5⟩
  case rest =>
  clear hU4 hW4
  obtain ⟨w10, V2, rfl, hU10, hto10⟩ := hcut
  have hW10 := hU10.run.wr
  have b1 : w10.cell? ⟨B, 1, none⟩ = some V2.abv := hW10.cell 1
  have hri : Own w10 base V2.abv (st.abv ++ abbrevB ls 1) := ⟨hW10.rows.own (rowB V2.abv (st.abv ++ abbrevB ls 1)) (by simp), hW10.ok.abv⟩
  have hnb : V2.abv.ownBlock ≠ some B := hW10.rows.notB (rowB V2.abv (st.abv ++ abbrevB ls 1)) (by simp)
  have hil : (st.abv ++ abbrevB ls 1).length ≤ 50000000 := by simp only [List.length_append]; omega
  generalize hab2 : st.abv ++ abbrevB ls 1 = ab2 at *
  have HAB2 := Lib.hid hab2; clear hab2
  obtain ⟨ia, ic, hiv⟩ := hri.shape
  rw [hiv] at b1 hri hnb
  have HIV := Lib.hid hiv; clear hiv
  have HNBB := Lib.hid hnb; clear hnb
  have hB10 := hW10.lt
  have hbB := hW10.hb
  go_upto_region 10 with (at_builtin; refine app5 rfl _ _ rfl rfl (hri.alloc _) rfl (Rd.one w10 0 5 rfl (by decide)) (by simp; omega) (by simp; omega) ?_; intro v' w11 ho hg _ hm; obtain ⟨wa, wc, rfl⟩ := ho.shape; have hg11 : Frame (fun k => (Value.slice ia ab2.length ic).ownBlock = some k) w10 w11 := ((Frame.refl _ w10).alloc _).grown hg (fun k hk => .inl hk); have cB11 := hg11.cell b1 HNBB.out; have fB11 : w11.frozen? ⟨B, 1, none⟩ = false := (hg11.frozen b1 HNBB.out).trans (hW10.frozen 1))
  have k12 := (WrTo.refl hW10).abvApp (l := ab2 ++ [0]) (by rw [HIV.out]; exact hg11) ho (by rw [HIV.out]; exact hm.imp id fun h k hk => by have := h k hk; simp only [World.size_alloc] at this; omega)
  have hl32 : (ab2 ++ [0]).length = ab2.length + 1 := by simp
  rw [hl32] at k12
  clear hl32
  have hU12 := hU10.go k12
  have hto12 := hto10.trans k12
  clear k12 hg11 cB11 fB11 ho hg hm hU10 hto10 hri b1
  generalize (w11.setCell ⟨B, 1, none⟩ (.slice wa (ab2.length + 1) wc)) = w12 at *
  have hW12 := hU12.run.wr
  have b7 : w12.cell? ⟨B, 7, none⟩ = some _ := hW12.cell 7
  have b15 : w12.cell? ⟨B, 15, none⟩ = some (.int .u32 (st.base : Int)) := hW12.cell 15
  have f15 := hW12.frozen 15
  obtain ⟨ga, gc, hgv⟩ : ∃ ga gc, V2.info = .slice ga st.info.length gc := Own.shape (w := w12) (base := base) (l := st.info) ⟨hW12.rows.own (rowB V2.info st.info) (by simp), hW12.ok.info⟩
  have hil7 : st.info.length ≤ 40000000 := by have := hbsm.info; omega
  dsimp only at b7
  rw [hgv] at b7
  have HGV := Lib.hid hgv; clear hgv
  go_upto_region 11 with fail
  have k13 := (WrTo.refl hW12).setBase st.info.length
  have hU13 := hU12.go k13
  have hto13 := hto12.trans k13
  clear k13 hU12 hto12 b7 b15 f15 hW12
  generalize (w12.setCell ⟨B, 15, none⟩ (.int .u32 (st.info.length : Int))) = w13 at *
  have hW13 := hU13.run.wr
  have b7 : w13.cell? ⟨B, 7, none⟩ = some V2.info := hW13.cell 7
  have b11 : w13.cell? ⟨B, 11, none⟩ = some V2.offsets := hW13.cell 11
  obtain ⟨oa, oc, hov⟩ := ownsRow_shape (hW13.rows.own ⟨V2.offsets, 24, 1, st.offsets.length, uv st.offsets⟩ (by simp))
  dsimp only at hov
  rw [HGV.out] at b7
  rw [hov] at b11
  have HOV := Lib.hid hov; clear hov
  go_wp2_with fail
  refine wp_region_seq no 11 [(0, true), (1, true), (2, true), (3, true), (4, true), (5, true), (6, true), (7, true), (8, true), (9, true), (10, true)] (by kernel_rfl) (by kernel_rfl) (fun _ _ _ d _ h => by cases d <;> exact h) ?_
  simp only [pickB, List.getElem?_toArray, List.getElem?_cons_zero, List.getElem?_cons_succ, Option.getD_some, Bool.false_eq_true, ↓reduceIte, Nat.reduceLT]
  iterate 11
    refine seq_val (v := ?_) (fun w' hX => ?_) ?_
    rotate_left
    · have x0 := hX.cell b7 id; have x1 := hX.cell b11 id; clear hX; go_simp; try with_reducible rfl
    try simp only [Act.put, List.setIfInBounds_toArray, List.set_cons_zero, List.set_cons_succ]
  refine seq_nil ?_
  have hU14 := hU13.same (Frame.refl no w13).drew
  have hto14 := hto13.step0 (Frame.refl no w13).drew
  clear hU13 hto13 hW13 b7 b11
  generalize w13.drew = w14 at *
  have hbu1 : u.version = u0.version := HBU.out.1
  have hbu2 : u.address = u0.address := HBU.out.2.2.1
  have hv1' : 2 ≤ u.version := by omega
  have hv2' : u.version ≤ 5 := by omega
  have had1 : 4 ≤ u.address := by omega
  have had2 : u.address ≤ 8 := by omega
  have hbu3 : u.address = 4 ∨ u.address = 8 := by omega
  have HAD := Lib.hid hbu3
  clear hbu1 hbu2 hbu3
  have hW14 := hU14.run.wr
  have b0 : w14.cell? ⟨B, 0, none⟩ = some (.bool st.big) := hW14.cell 0
  obtain ⟨y0, y1, y2, y3, y4, y5, y6, y7, y8, y9, y10⟩ := unit_cells hU14.unit
  go_upto_region 12 with fail
  go_cut [10] (fun s10 wx => ∃ (v10 : Value) (w15 : World), w15 = wx ∧ s10 = v10 ∧ RdB wx v10 (num u.version.toNat 2 st.big ++ (num st.abv.length (wordF u.wide) st.big ++ [u.address.toNat % 256])) ∧ Frame no w14 wx)
  case first =>
   as_aux_lemma =>
    refine wp_region_tree no 23 (.fst 0 (.fst 1 (.fst 2 (.fst 3 (.fst 4 (.fst 5 (.fst 6 (.fst 8 (.fst 9 (.fst 11 (.fst 12 (.fst 13 (.fst 14 (.fst 16 (.fst 17 (.fst 18 (.two 7 (.two 10 (.two 15 (.only 19 (.only 20 (.only 21 (.fst 22 (.done))))) 19 (.only 15 (.only 20 (.only 21 (.fst 22 (.done)))))) 19 (.only 10 (.only 15 (.only 20 (.only 21 (.fst 22 (.done))))))) 19 (.only 7 (.only 10 (.only 15 (.only 20 (.only 21 (.fst 22 (.done)))))))))))))))))))))))) (by kernel_rfl) (by kernel_rfl) (fun _ _ _ d _ h => by cases d <;> exact h) ?_
    obtain ⟨wd, hwd⟩ : ∃ wd, wd = w14.drew := ⟨_, rfl⟩
    have hF : Frame no w14 wd := by rw [hwd]; exact (Frame.refl no w14).drew
    rw [← hwd]
    clear hwd
    replace y0 := hF.cell y0 id
    replace b0 := hF.cell b0 id
    replace y1 := hF.cell y1 id
    replace y2 := hF.cell y2 id
    replace y3 := hF.cell y3 id
    replace y4 := hF.cell y4 id
    replace y5 := hF.cell y5 id
    replace y6 := hF.cell y6 id
    replace y7 := hF.cell y7 id
    replace y8 := hF.cell y8 id
    replace y9 := hF.cell y9 id
    replace y10 := hF.cell y10 id
    simp only [pickT, List.getElem?_toArray, List.getElem?_cons_zero, List.getElem?_cons_succ, Option.getD_some, Nat.reduceLT, decide_true, decide_false]
    iterate 16
      refine seqT_val (v := ?_) (fun w' hX => ?_) ?_
      rotate_left
      · have x0 := hX.cell y0 id; have x1 := hX.cell b0 id; have x2 := hX.cell y1 id; have x3 := hX.cell y2 id; have x4 := hX.cell y3 id; have x5 := hX.cell y4 id; have x6 := hX.cell y5 id; have x7 := hX.cell y6 id; have x8 := hX.cell y7 id; have x9 := hX.cell y8 id; have x10 := hX.cell y9 id; have x11 := hX.cell y10 id; clear hX; go_simp; try with_reducible rfl
      try simp only [Act.put, List.setIfInBounds_toArray, List.set_cons_zero, List.set_cons_succ]
    refine seqT_two ?_ ?_
    · refine seqT_new (fun KK hK => ?_)
      go_wp2_with fail
      (with_reducible refine (number_z (z := u.version) (s := 2) (n := u.version.toNat) 2 st.big _ (by omega) rfl (by omega) (by decide)).mono ?_)
      rintro e w7 ⟨pa, pn, pc, rfl, ho7, hf7⟩
      have r7 := RdB.own ho7
      replace hF := hF.trans hf7 (fun _ h => h.elim)
      go_wp2_with fail
      refine ⟨hf7, ?_⟩
      refine seqT_two ?_ ?_
      · refine seqT_new (fun KK hK => ?_)
        go_wp2_with fail
        (with_reducible refine (word_frame u _ _ _).mono ?_)
        rintro e w8 ⟨rfl, hf8⟩
        replace r7 := r7.up hf8
        replace hF := hF.trans hf8 (fun _ h => h.elim)
        go_wp2_with fail
        refine ⟨hf8, ?_⟩
        refine seqT_two ?_ ?_
        · refine seqT_new (fun KK hK => ?_)
          go_wp2_with fail
          (with_reducible refine (number_any st.abv.length (wordF u.wide) st.big _ (by omega) (wordF_le _)).mono ?_)
          rintro e w9 ⟨qa, qn, qc, rfl, ho9, hf9⟩
          have r15 := RdB.own ho9
          replace r7 := r7.up hf9
          replace hF := hF.trans hf9 (fun _ h => h.elim)
          go_wp2_with fail
          refine ⟨hf9, ?_⟩
          refine seqT_new (fun KK hK => ?_)
          go_wp2_with fail
          have r19 := RdB.one w9 (u.address.toNat % 256) (y := u.address) (by omega) (by omega)
          have hfb : Frame no w9 (w9.alloc (.cells #[.int .u8 u.address] 5)) := (Frame.refl _ _).alloc _
          replace r7 := r7.up hfb
          replace r15 := r15.up hfb
          replace hF := hF.trans hfb (fun _ h => h.elim)
          refine ⟨hfb, ?_⟩
          refine seqT_new (fun _ _ => ?_)
          go_wp2_with fail
          refine ⟨(Frame.refl _ _).alloc _, ?_⟩
          refine seqT_new (fun KK hK => ?_)
          go_wp2_with fail
          (with_reducible refine (join3B (g := w9.heap.size + 1) r7 r15 r19 (by simp; have := wordF_le u.wide; omega) (by simp)).mono ?_)
          rintro e w12 ⟨ja, jn, jc, rfl, ho12, hf12⟩
          replace hF := (hF.alloc _).trans hf12 (fun _ h => h.elim)
          go_wp2_with fail
          refine ⟨hf12, ?_⟩
          iterate 1
            refine seqT_val (v := ?_) (fun w' hX => ?_) ?_
            rotate_left
            · clear hX; go_simp; try with_reducible rfl
            try simp only [Act.put, List.setIfInBounds_toArray, List.set_cons_zero, List.set_cons_succ]
          refine seqT_nil ?_
          go_wp2_with fail
          go_meet
          case rel => exact ⟨_, _, rfl, rfl, RdB.own ho12, hF⟩
        · refine seqT_new (fun KK hK => ?_)
          go_wp2_with fail
          have r19 := RdB.one w8 (u.address.toNat % 256) (y := u.address) (by omega) (by omega)
          have hfb : Frame no w8 (w8.alloc (.cells #[.int .u8 u.address] 5)) := (Frame.refl _ _).alloc _
          replace r7 := r7.up hfb
          replace hF := hF.trans hfb (fun _ h => h.elim)
          refine ⟨hfb, ?_⟩
          refine seqT_new (fun KK hK => ?_)
          go_wp2_with fail
          (with_reducible refine (number_any st.abv.length (wordF u.wide) st.big _ (by omega) (wordF_le _)).mono ?_)
          rintro e w9 ⟨qa, qn, qc, rfl, ho9, hf9⟩
          have r15 := RdB.own ho9
          replace r7 := r7.up hf9
          replace r19 := r19.up hf9
          replace hF := hF.trans hf9 (fun _ h => h.elim)
          go_wp2_with fail
          refine ⟨hf9, ?_⟩
          refine seqT_new (fun _ _ => ?_)
          go_wp2_with fail
          refine ⟨(Frame.refl _ _).alloc _, ?_⟩
          refine seqT_new (fun KK hK => ?_)
          go_wp2_with fail
          (with_reducible refine (join3B r7 r15 r19 (by simp; have := wordF_le u.wide; omega) rfl).mono ?_)
          rintro e w12 ⟨ja, jn, jc, rfl, ho12, hf12⟩
          replace hF := (hF.alloc _).trans hf12 (fun _ h => h.elim)
          go_wp2_with fail
          refine ⟨hf12, ?_⟩
          iterate 1
            refine seqT_val (v := ?_) (fun w' hX => ?_) ?_
            rotate_left
            · clear hX; go_simp; try with_reducible rfl
            try simp only [Act.put, List.setIfInBounds_toArray, List.set_cons_zero, List.set_cons_succ]
          refine seqT_nil ?_
          go_wp2_with fail
          go_meet
          case rel => exact ⟨_, _, rfl, rfl, RdB.own ho12, hF⟩
      · refine seqT_new (fun KK hK => ?_)
        go_wp2_with fail
        have r19 := RdB.one w7 (u.address.toNat % 256) (y := u.address) (by omega) (by omega)
        have hfb : Frame no w7 (w7.alloc (.cells #[.int .u8 u.address] 5)) := (Frame.refl _ _).alloc _
        replace r7 := r7.up hfb
        replace hF := hF.trans hfb (fun _ h => h.elim)
        refine ⟨hfb, ?_⟩
        refine seqT_new (fun KK hK => ?_)
        go_wp2_with fail
        (with_reducible refine (word_frame u _ _ _).mono ?_)
        rintro e w8 ⟨rfl, hf8⟩
        replace r7 := r7.up hf8
        replace r19 := r19.up hf8
        replace hF := hF.trans hf8 (fun _ h => h.elim)
        go_wp2_with fail
        refine ⟨hf8, ?_⟩
        refine seqT_new (fun KK hK => ?_)
        go_wp2_with fail
        (with_reducible refine (number_any st.abv.length (wordF u.wide) st.big _ (by omega) (wordF_le _)).mono ?_)
        rintro e w9 ⟨qa, qn, qc, rfl, ho9, hf9⟩
        have r15 := RdB.own ho9
        replace r7 := r7.up hf9
        replace r19 := r19.up hf9
        replace hF := hF.trans hf9 (fun _ h => h.elim)
        go_wp2_with fail
        refine ⟨hf9, ?_⟩
        refine seqT_new (fun _ _ => ?_)
        go_wp2_with fail
        refine ⟨(Frame.refl _ _).alloc _, ?_⟩
        refine seqT_new (fun KK hK => ?_)
        go_wp2_with fail
        (with_reducible refine (join3B r7 r15 r19 (by simp; have := wordF_le u.wide; omega) rfl).mono ?_)
        rintro e w12 ⟨ja, jn, jc, rfl, ho12, hf12⟩
        replace hF := (hF.alloc _).trans hf12 (fun _ h => h.elim)
        go_wp2_with fail
        refine ⟨hf12, ?_⟩
        iterate 1
          refine seqT_val (v := ?_) (fun w' hX => ?_) ?_
          rotate_left
          · clear hX; go_simp; try with_reducible rfl
          try simp only [Act.put, List.setIfInBounds_toArray, List.set_cons_zero, List.set_cons_succ]
        refine seqT_nil ?_
        go_wp2_with fail
        go_meet
        case rel => exact ⟨_, _, rfl, rfl, RdB.own ho12, hF⟩
    · refine seqT_new (fun KK hK => ?_)
      go_wp2_with fail
      have r19 := RdB.one wd (u.address.toNat % 256) (y := u.address) (by omega) (by omega)
      have hfb : Frame no wd (wd.alloc (.cells #[.int .u8 u.address] 5)) := (Frame.refl _ _).alloc _
      replace hF := hF.trans hfb (fun _ h => h.elim)
      refine ⟨hfb, ?_⟩
      refine seqT_new (fun KK hK => ?_)
      go_wp2_with fail
      (with_reducible refine (number_z (z := u.version) (s := 2) (n := u.version.toNat) 2 st.big _ (by omega) rfl (by omega) (by decide)).mono ?_)
      rintro e w7 ⟨pa, pn, pc, rfl, ho7, hf7⟩
      have r7 := RdB.own ho7
      replace r19 := r19.up hf7
      replace hF := hF.trans hf7 (fun _ h => h.elim)
      go_wp2_with fail
      refine ⟨hf7, ?_⟩
      refine seqT_new (fun KK hK => ?_)
      go_wp2_with fail
      (with_reducible refine (word_frame u _ _ _).mono ?_)
      rintro e w8 ⟨rfl, hf8⟩
      replace r7 := r7.up hf8
      replace r19 := r19.up hf8
      replace hF := hF.trans hf8 (fun _ h => h.elim)
      go_wp2_with fail
      refine ⟨hf8, ?_⟩
      refine seqT_new (fun KK hK => ?_)
      go_wp2_with fail
      (with_reducible refine (number_any st.abv.length (wordF u.wide) st.big _ (by omega) (wordF_le _)).mono ?_)
      rintro e w9 ⟨qa, qn, qc, rfl, ho9, hf9⟩
      have r15 := RdB.own ho9
      replace r7 := r7.up hf9
      replace r19 := r19.up hf9
      replace hF := hF.trans hf9 (fun _ h => h.elim)
      go_wp2_with fail
      refine ⟨hf9, ?_⟩
      refine seqT_new (fun _ _ => ?_)
      go_wp2_with fail
      refine ⟨(Frame.refl _ _).alloc _, ?_⟩
      refine seqT_new (fun KK hK => ?_)
      go_wp2_with fail
      (with_reducible refine (join3B r7 r15 r19 (by simp; have := wordF_le u.wide; omega) rfl).mono ?_)
      rintro e w12 ⟨ja, jn, jc, rfl, ho12, hf12⟩
      replace hF := (hF.alloc _).trans hf12 (fun _ h => h.elim)
      go_wp2_with fail
      refine ⟨hf12, ?_⟩
      iterate 1
        refine seqT_val (v := ?_) (fun w' hX => ?_) ?_
        rotate_left
        · clear hX; go_simp; try with_reducible rfl
        try simp only [Act.put, List.setIfInBounds_toArray, List.set_cons_zero, List.set_cons_succ]
      refine seqT_nil ?_
      go_wp2_with fail
      go_meet
      case rel => exact ⟨_, _, rfl, rfl, RdB.own ho12, hF⟩
  case rest =>
  obtain ⟨v10, w15, rfl, rfl, hr10, hF15⟩ := hcut
  have hU15 := hU14.same hF15
  have hto15 := hto14.step0 hF15
  clear hU14 hto14 b0 y0 y1 y2 y3 y4 y5 y6 y7 y8 y9 y10 hW14 hF15
  have hW15 := hU15.run.wr
  have b0 : w15.cell? ⟨B, 0, none⟩ = some (.bool st.big) := hW15.cell 0
  obtain ⟨y0, y1, y2, y3, y4, y5, y6, y7, y8, y9, y10⟩ := unit_cells hU15.unit
  obtain ⟨ha, hc, hv10⟩ := hr10.shape
  generalize (num u.version.toNat 2 st.big ++ (num st.abv.length (wordF u.wide) st.big ++ [u.address.toNat % 256])).length = n10 at hv10
  subst hv10
  go_upto_if 108 with fail
  go_cut [10] (fun s10 wx => ∃ (v11 : Value) (w16 : World), w16 = wx ∧ s10 = v11 ∧ RdB wx v11 (headB u st) ∧ Frame no w15 wx)
  case first =>
   as_aux_lemma =>
    by_cases hv5 : 5 ≤ u.version
    · go_wp2_with fail
      refine wp_region_tree no 23 (.fst 0 (.fst 1 (.fst 2 (.fst 3 (.fst 4 (.fst 5 (.fst 6 (.fst 8 (.fst 9 (.fst 10 (.fst 12 (.fst 13 (.fst 15 (.fst 16 (.fst 17 (.fst 18 (.two 7 (.two 11 (.only 14 (.only 19 (.only 20 (.only 21 (.fst 22 (.done)))))) 14 (.two 11 (.only 19 (.only 20 (.only 21 (.fst 22 (.done))))) 19 (.only 11 (.only 20 (.only 21 (.fst 22 (.done))))))) 11 (.only 7 (.only 14 (.only 19 (.only 20 (.only 21 (.fst 22 (.done)))))))))))))))))))))))) (by kernel_rfl) (by kernel_rfl) (fun _ _ _ d _ h => by cases d <;> exact h) ?_
      obtain ⟨wd, hwd⟩ : ∃ wd, wd = w15.drew := ⟨_, rfl⟩
      have hF : Frame no w15 wd := by rw [hwd]; exact (Frame.refl no w15).drew
      rw [← hwd]
      clear hwd
      replace y0 := hF.cell y0 id
      replace b0 := hF.cell b0 id
      replace y1 := hF.cell y1 id
      replace y2 := hF.cell y2 id
      replace y3 := hF.cell y3 id
      replace y4 := hF.cell y4 id
      replace y5 := hF.cell y5 id
      replace y6 := hF.cell y6 id
      replace y7 := hF.cell y7 id
      replace y8 := hF.cell y8 id
      replace y9 := hF.cell y9 id
      replace y10 := hF.cell y10 id
      simp only [pickT, List.getElem?_toArray, List.getElem?_cons_zero, List.getElem?_cons_succ, Option.getD_some, Nat.reduceLT, decide_true, decide_false]
      iterate 16
        refine seqT_val (v := ?_) (fun w' hX => ?_) ?_
        rotate_left
        · have x0 := hX.cell y0 id; have x1 := hX.cell b0 id; have x2 := hX.cell y1 id; have x3 := hX.cell y2 id; have x4 := hX.cell y3 id; have x5 := hX.cell y4 id; have x6 := hX.cell y5 id; have x7 := hX.cell y6 id; have x8 := hX.cell y7 id; have x9 := hX.cell y8 id; have x10 := hX.cell y9 id; have x11 := hX.cell y10 id; clear hX; go_simp; try with_reducible rfl
        try simp only [Act.put, List.setIfInBounds_toArray, List.set_cons_zero, List.set_cons_succ]
      refine seqT_two ?_ ?_
      · refine seqT_new (fun KK hK => ?_)
        go_wp2_with fail
        (with_reducible refine (number_z (z := u.version) (s := 2) (n := u.version.toNat) 2 st.big _ (by omega) rfl (by omega) (by decide)).mono ?_)
        rintro e w7 ⟨pa, pn, pc, rfl, ho7, hf7⟩
        have r7 := RdB.own ho7
        replace hF := hF.trans hf7 (fun _ h => h.elim)
        go_wp2_with fail
        refine ⟨hf7, ?_⟩
        refine seqT_two ?_ ?_
        · refine seqT_new (fun KK hK => ?_)
          go_wp2_with fail
          have r19 := RdB.two w7 1 (u.address.toNat % 256) (y := 1) (y' := u.address) rfl (by omega) (by decide) (by omega)
          have hfb : Frame no w7 (w7.alloc (.cells #[.int .u8 1, .int .u8 u.address] 5)) := (Frame.refl _ _).alloc _
          replace r7 := r7.up hfb
          replace hF := hF.trans hfb (fun _ h => h.elim)
          refine ⟨hfb, ?_⟩
          refine seqT_new (fun KK hK => ?_)
          go_wp2_with fail
          (with_reducible refine (word_frame u _ _ _).mono ?_)
          rintro e w8 ⟨rfl, hf8⟩
          replace r7 := r7.up hf8
          replace r19 := r19.up hf8
          replace hF := hF.trans hf8 (fun _ h => h.elim)
          go_wp2_with fail
          refine ⟨hf8, ?_⟩
          refine seqT_new (fun KK hK => ?_)
          go_wp2_with fail
          (with_reducible refine (number_any st.abv.length (wordF u.wide) st.big _ (by omega) (wordF_le _)).mono ?_)
          rintro e w9 ⟨qa, qn, qc, rfl, ho9, hf9⟩
          have r15 := RdB.own ho9
          replace r7 := r7.up hf9
          replace r19 := r19.up hf9
          replace hF := hF.trans hf9 (fun _ h => h.elim)
          go_wp2_with fail
          refine ⟨hf9, ?_⟩
          refine seqT_new (fun _ _ => ?_)
          go_wp2_with fail
          refine ⟨(Frame.refl _ _).alloc _, ?_⟩
          refine seqT_new (fun KK hK => ?_)
          go_wp2_with fail
          (with_reducible refine (join3B r7 r19 r15 (by simp; have := wordF_le u.wide; omega) rfl).mono ?_)
          rintro e w12 ⟨ja, jn, jc, rfl, ho12, hf12⟩
          replace hF := (hF.alloc _).trans hf12 (fun _ h => h.elim)
          go_wp2_with fail
          refine ⟨hf12, ?_⟩
          iterate 1
            refine seqT_val (v := ?_) (fun w' hX => ?_) ?_
            rotate_left
            · clear hX; go_simp; try with_reducible rfl
            try simp only [Act.put, List.setIfInBounds_toArray, List.set_cons_zero, List.set_cons_succ]
          refine seqT_nil ?_
          go_wp2_with fail
          go_meet
          case rel =>
            refine ⟨_, _, rfl, rfl, ?_, hF⟩
            unfold headB; rw [if_pos hv5]; exact RdB.own ho12
        · refine seqT_new (fun KK hK => ?_)
          go_wp2_with fail
          (with_reducible refine (word_frame u _ _ _).mono ?_)
          rintro e w8 ⟨rfl, hf8⟩
          replace r7 := r7.up hf8
          replace hF := hF.trans hf8 (fun _ h => h.elim)
          go_wp2_with fail
          refine ⟨hf8, ?_⟩
          refine seqT_two ?_ ?_
          · refine seqT_new (fun KK hK => ?_)
            go_wp2_with fail
            have r19 := RdB.two w8 1 (u.address.toNat % 256) (y := 1) (y' := u.address) rfl (by omega) (by decide) (by omega)
            have hfb : Frame no w8 (w8.alloc (.cells #[.int .u8 1, .int .u8 u.address] 5)) := (Frame.refl _ _).alloc _
            replace r7 := r7.up hfb
            replace hF := hF.trans hfb (fun _ h => h.elim)
            refine ⟨hfb, ?_⟩
            refine seqT_new (fun KK hK => ?_)
            go_wp2_with fail
            (with_reducible refine (number_any st.abv.length (wordF u.wide) st.big _ (by omega) (wordF_le _)).mono ?_)
            rintro e w9 ⟨qa, qn, qc, rfl, ho9, hf9⟩
            have r15 := RdB.own ho9
            replace r7 := r7.up hf9
            replace r19 := r19.up hf9
            replace hF := hF.trans hf9 (fun _ h => h.elim)
            go_wp2_with fail
            refine ⟨hf9, ?_⟩
            refine seqT_new (fun _ _ => ?_)
            go_wp2_with fail
            refine ⟨(Frame.refl _ _).alloc _, ?_⟩
            refine seqT_new (fun KK hK => ?_)
            go_wp2_with fail
            (with_reducible refine (join3B r7 r19 r15 (by simp; have := wordF_le u.wide; omega) rfl).mono ?_)
            rintro e w12 ⟨ja, jn, jc, rfl, ho12, hf12⟩
            replace hF := (hF.alloc _).trans hf12 (fun _ h => h.elim)
            go_wp2_with fail
            refine ⟨hf12, ?_⟩
            iterate 1
              refine seqT_val (v := ?_) (fun w' hX => ?_) ?_
              rotate_left
              · clear hX; go_simp; try with_reducible rfl
              try simp only [Act.put, List.setIfInBounds_toArray, List.set_cons_zero, List.set_cons_succ]
            refine seqT_nil ?_
            go_wp2_with fail
            go_meet
            case rel =>
              refine ⟨_, _, rfl, rfl, ?_, hF⟩
              unfold headB; rw [if_pos hv5]; exact RdB.own ho12
          · refine seqT_new (fun KK hK => ?_)
            go_wp2_with fail
            (with_reducible refine (number_any st.abv.length (wordF u.wide) st.big _ (by omega) (wordF_le _)).mono ?_)
            rintro e w9 ⟨qa, qn, qc, rfl, ho9, hf9⟩
            have r15 := RdB.own ho9
            replace r7 := r7.up hf9
            replace hF := hF.trans hf9 (fun _ h => h.elim)
            go_wp2_with fail
            refine ⟨hf9, ?_⟩
            refine seqT_new (fun KK hK => ?_)
            go_wp2_with fail
            have r19 := RdB.two w9 1 (u.address.toNat % 256) (y := 1) (y' := u.address) rfl (by omega) (by decide) (by omega)
            have hfb : Frame no w9 (w9.alloc (.cells #[.int .u8 1, .int .u8 u.address] 5)) := (Frame.refl _ _).alloc _
            replace r7 := r7.up hfb
            replace r15 := r15.up hfb
            replace hF := hF.trans hfb (fun _ h => h.elim)
            refine ⟨hfb, ?_⟩
            refine seqT_new (fun _ _ => ?_)
            go_wp2_with fail
            refine ⟨(Frame.refl _ _).alloc _, ?_⟩
            refine seqT_new (fun KK hK => ?_)
            go_wp2_with fail
            (with_reducible refine (join3B (g := w9.heap.size + 1) r7 r19 r15 (by simp; have := wordF_le u.wide; omega) (by simp)).mono ?_)
            rintro e w12 ⟨ja, jn, jc, rfl, ho12, hf12⟩
            replace hF := (hF.alloc _).trans hf12 (fun _ h => h.elim)
            go_wp2_with fail
            refine ⟨hf12, ?_⟩
            iterate 1
              refine seqT_val (v := ?_) (fun w' hX => ?_) ?_
              rotate_left
              · clear hX; go_simp; try with_reducible rfl
              try simp only [Act.put, List.setIfInBounds_toArray, List.set_cons_zero, List.set_cons_succ]
            refine seqT_nil ?_
            go_wp2_with fail
            go_meet
            case rel =>
              refine ⟨_, _, rfl, rfl, ?_, hF⟩
              unfold headB; rw [if_pos hv5]; exact RdB.own ho12
      · refine seqT_new (fun KK hK => ?_)
        go_wp2_with fail
        have r19 := RdB.two wd 1 (u.address.toNat % 256) (y := 1) (y' := u.address) rfl (by omega) (by decide) (by omega)
        have hfb : Frame no wd (wd.alloc (.cells #[.int .u8 1, .int .u8 u.address] 5)) := (Frame.refl _ _).alloc _
        replace hF := hF.trans hfb (fun _ h => h.elim)
        refine ⟨hfb, ?_⟩
        refine seqT_new (fun KK hK => ?_)
        go_wp2_with fail
        (with_reducible refine (number_z (z := u.version) (s := 2) (n := u.version.toNat) 2 st.big _ (by omega) rfl (by omega) (by decide)).mono ?_)
        rintro e w7 ⟨pa, pn, pc, rfl, ho7, hf7⟩
        have r7 := RdB.own ho7
        replace r19 := r19.up hf7
        replace hF := hF.trans hf7 (fun _ h => h.elim)
        go_wp2_with fail
        refine ⟨hf7, ?_⟩
        refine seqT_new (fun KK hK => ?_)
        go_wp2_with fail
        (with_reducible refine (word_frame u _ _ _).mono ?_)
        rintro e w8 ⟨rfl, hf8⟩
        replace r7 := r7.up hf8
        replace r19 := r19.up hf8
        replace hF := hF.trans hf8 (fun _ h => h.elim)
        go_wp2_with fail
        refine ⟨hf8, ?_⟩
        refine seqT_new (fun KK hK => ?_)
        go_wp2_with fail
        (with_reducible refine (number_any st.abv.length (wordF u.wide) st.big _ (by omega) (wordF_le _)).mono ?_)
        rintro e w9 ⟨qa, qn, qc, rfl, ho9, hf9⟩
        have r15 := RdB.own ho9
        replace r7 := r7.up hf9
        replace r19 := r19.up hf9
        replace hF := hF.trans hf9 (fun _ h => h.elim)
        go_wp2_with fail
        refine ⟨hf9, ?_⟩
        refine seqT_new (fun _ _ => ?_)
        go_wp2_with fail
        refine ⟨(Frame.refl _ _).alloc _, ?_⟩
        refine seqT_new (fun KK hK => ?_)
        go_wp2_with fail
        (with_reducible refine (join3B r7 r19 r15 (by simp; have := wordF_le u.wide; omega) rfl).mono ?_)
        rintro e w12 ⟨ja, jn, jc, rfl, ho12, hf12⟩
        replace hF := (hF.alloc _).trans hf12 (fun _ h => h.elim)
        go_wp2_with fail
        refine ⟨hf12, ?_⟩
        iterate 1
          refine seqT_val (v := ?_) (fun w' hX => ?_) ?_
          rotate_left
          · clear hX; go_simp; try with_reducible rfl
          try simp only [Act.put, List.setIfInBounds_toArray, List.set_cons_zero, List.set_cons_succ]
        refine seqT_nil ?_
        go_wp2_with fail
        go_meet
        case rel =>
          refine ⟨_, _, rfl, rfl, ?_, hF⟩
          unfold headB; rw [if_pos hv5]; exact RdB.own ho12
    · have hv5' : u.version < 5 := by omega
      go_wp2_with fail
      go_meet
      case rel =>
        refine ⟨_, _, rfl, rfl, ?_, Frame.refl _ _⟩
        unfold headB; rw [if_neg (by omega)]; exact hr10
  case rest =>
  obtain ⟨v11, w16, rfl, rfl, hr11, hF16⟩ := hcut
  have hU16 := hU15.same hF16
  have hto16 := hto15.step0 hF16
  clear hU15 hto15 hF16 b0 y0 y1 y2 y3 y4 y5 y6 y7 y8 y9 y10 hW15 hr10
  have hW16 := hU16.run.wr
  have b0 : w16.cell? ⟨B, 0, none⟩ = some (.bool st.big) := hW16.cell 0
  have y1 := (unit_cells hU16.unit).2.1
  obtain ⟨hga, hgc, hv11⟩ := hr11.shape
  generalize (headB u st).length = n11 at hv11
  subst hv11
  go_wp2_with fail
  refine wp_region_seq no 9 [(0, true), (1, true), (2, true), (3, true), (4, true), (5, true), (6, false), (7, true), (8, true)] (by kernel_rfl) (by kernel_rfl) (fun _ _ _ d _ h => by cases d <;> exact h) ?_
  simp only [pickB, List.getElem?_toArray, List.getElem?_cons_zero, List.getElem?_cons_succ, Option.getD_some, Bool.false_eq_true, ↓reduceIte, Nat.reduceLT]
  iterate 6
    refine seq_val (v := ?_) (fun w' hX => ?_) ?_
    rotate_left
    · have x0 := hX.cell y1 id; have x1 := hX.cell b0 id; clear hX; go_simp; try with_reducible rfl
    try simp only [Act.put, List.setIfInBounds_toArray, List.set_cons_zero, List.set_cons_succ]
  refine seq_new (fun KK hK => ?_)
  go_wp2_with fail
  (with_reducible refine (length_z (z := 0) (n := 0) u.wide st.big _ rfl (by decide)).mono ?_)
  rintro e w17 ⟨pa, pn, pc, rfl, ho17, hf17⟩
  obtain rfl := OwnN ho17
  have hF17 : Frame no w16 w17 := (Frame.refl no w16).drew.trans hf17 (fun _ h => h.elim)
  go_wp2_with fail
  refine ⟨hf17, ?_⟩
  iterate 2
    refine seq_val (v := ?_) (fun w' hX => ?_) ?_
    rotate_left
    · clear hX; go_simp; try with_reducible rfl
    try simp only [Act.put, List.setIfInBounds_toArray, List.set_cons_zero, List.set_cons_succ]
  refine seq_nil ?_
  have hU17 := hU16.same hF17
  have hto17 := hto16.step0 hF17
  have hr17 := hr11.up hF17
  clear hU16 hto16 hf17 hW16 ho17 hr11 y1 b0 hF17
  have hW17 := hU17.run.wr
  have b0 : w17.cell? ⟨B, 0, none⟩ = some (.bool st.big) := hW17.cell 0
  have b7 : w17.cell? ⟨B, 7, none⟩ = some V2.info := hW17.cell 7
  have hri : Own w17 base V2.info st.info := ⟨hW17.rows.own (rowB V2.info st.info) (by simp), hW17.ok.info⟩
  rw [HGV.out] at b7 hri
  have y1 := (unit_cells hU17.unit).2.1
  have y8 := (unit_cells hU17.unit).2.2.2.2.2.2.2.2.1
  have htf : u.typed = false := by rw [HBU.out.2.2.2]; exact HTY.out
  have hnt : ¬ (u.typed = true) := by rw [htf]; decide
  have HTF := Lib.hid htf; clear htf
  go_wp2_with fail
  refine wp_region_seq no 14 [(0, true), (1, true), (2, true), (3, true), (4, true), (5, true), (6, true), (7, true), (9, true), (8, false), (10, false), (11, false), (12, false), (13, true), (14, false)] (by kernel_rfl) (by kernel_rfl) (fun _ _ _ d _ h => by cases d <;> exact h) ?_
  simp only [pickB, List.getElem?_toArray, List.getElem?_cons_zero, List.getElem?_cons_succ, Option.getD_some, Bool.false_eq_true, ↓reduceIte, Nat.reduceLT]
  iterate 9
    refine seq_val (v := ?_) (fun w' hX => ?_) ?_
    rotate_left
    · have x0 := hX.cell y1 id; have x1 := hX.cell b0 id; clear hX; go_simp; try with_reducible rfl
    try simp only [Act.put, List.setIfInBounds_toArray, List.set_cons_zero, List.set_cons_succ]
  refine seq_new (fun KK hK => ?_)
  go_wp2_with fail
  (with_reducible refine (length_z (z := 0) (n := 0) u.wide st.big _ rfl (by decide)).mono ?_)
  rintro e w18 ⟨qa, qn, qc, rfl, ho18, hf18⟩
  have hF18 : Frame no w17 w18 := (Frame.refl no w17).drew.trans hf18 (fun _ h => h.elim)
  go_wp2_with fail
  refine ⟨hf18, ?_⟩
  refine seq_new (fun _ _ => ?_)
  go_wp2_with fail
  refine ⟨(Frame.refl _ _).alloc _, ?_⟩
  refine seq_new (fun KK hK => ?_)
  go_wp2_with fail
  (with_reducible refine (join3B ((RdB.own hri).up hF18) (RdB.own ho18) (hr17.up hF18) (by have := lenB_le 0 u.wide st.big; have := headB_le u st; omega) rfl).mono ?_)
  rintro e w19 ⟨ra, rn, rc, rfl, ho19, hf19⟩
  have HRN := Lib.hid (OwnN ho19)
  have hF19 : Frame no w17 w19 := (hF18.alloc _).trans hf19 (fun _ h => h.elim)
  have cB19 := hF19.cell b7 id
  have fB19 : w19.frozen? ⟨B, 7, none⟩ = false := (hF19.frozen b7 id).trans (hW17.frozen 7)
  go_wp2_with fail
  refine ⟨hf19, ?_⟩
  refine seq_new (fun _ _ => ?_)
  go_wp2_with fail
  refine ⟨Frame.refl _ _, ?_⟩
  iterate 1
    refine seq_val (v := ?_) (fun w' hX => ?_) ?_
    rotate_left
    · clear hX; go_simp; try with_reducible rfl
    try simp only [Act.put, List.setIfInBounds_toArray, List.set_cons_zero, List.set_cons_succ]
  refine seq_out (fun KK hK => ?_)
  go_wp2_with fail
  refine seq_nil ?_
  have k20 := (WrTo.refl hW17).info hF19 (ho19.mono_base (by have := hF18.size; simp; omega))
  have hbef := RdW.info hW17 hF19 (ho19.mono_base (by have := hF18.size; simp; omega))
  have hU20 := hU17.go k20
  have hto20 := hto17.trans k20
  dsimp only at hbef
  rw [HGV.out] at hbef
  clear k20 hU17 hto17 hF18 hF19 cB19 fB19 ho18 hf18 ho19 hf19 b0 b7 y1 y8 hW17 hri hr17
  generalize (w19.setCell ⟨B, 7, none⟩ (.slice ra rn rc)) = w20 at *
  have hW20 := hU20.run.wr
  have b7 : w20.cell? ⟨B, 7, none⟩ = some (.slice ra rn rc) := hW20.cell 7
  have b14 : w20.cell? ⟨B, 14, none⟩ = some V2.units := hW20.cell 14
  have hrow : w20.ownsRow base 24 1 V2.units st.units.length (uv st.units) := hW20.rows.own ⟨V2.units, 24, 1, st.units.length, uv st.units⟩ (by simp)
  have hnb : V2.units.ownBlock ≠ some B := hW20.rows.notB ⟨V2.units, 24, 1, st.units.length, uv st.units⟩ (by simp)
  obtain ⟨oa2, oc2, hov⟩ := ownsRow_shape hrow
  rw [hov] at b14 hrow hnb
  have HOV2 := Lib.hid hov; clear hov
  have HN2 := Lib.hid hnb; clear hnb
  have hl20 : rn ≤ 50000000 := by rw [HRN.out]; have := lenB_le 0 u.wide st.big; have := headB_le u st; simp only [List.length_append]; omega
  have y8 := (unit_cells hU20.unit).2.2.2.2.2.2.2.2.1
  have hnt2 : (!u.typed) = true := by rw [HTF.out]; rfl
  go_wp2_with fail
  refine wp_region_seq (fun k => (Value.slice oa2 st.units.length oc2).ownBlock = some k) 15 [(0, true), (1, true), (2, true), (3, true), (4, true), (5, true), (6, true), (7, true), (8, true), (9, true), (10, true), (11, false), (12, false), (13, false), (14, true), (15, false)] (by kernel_rfl) (by kernel_rfl) (fun _ _ _ d _ h => by cases d <;> exact h) ?_
  simp only [pickB, List.getElem?_toArray, List.getElem?_cons_zero, List.getElem?_cons_succ, Option.getD_some, Bool.false_eq_true, ↓reduceIte, Nat.reduceLT]
  iterate 11
    refine seq_val (v := ?_) (fun w' hX => ?_) ?_
    rotate_left
    · have x0 := hX.cell b14 HN2.out; have x1 := hX.cell b7 HN2.out; clear hX; go_simp; try with_reducible rfl
    try simp only [Act.put, List.setIfInBounds_toArray, List.set_cons_zero, List.set_cons_succ]
  refine seq_new (fun _ _ => ?_)
  go_wp2_with fail
  refine ⟨(Frame.refl _ _).alloc _, ?_⟩
  refine seq_new (fun KK hK => ?_)
  have hro := ownsRow_keep hrow (w' := (w20.alloc (.cells #[.int .u32 (rn : Int)] 24)).drew) (fun k hk => ((Frame.refl no w20).alloc _ |>.drew).block k (hrow.lt k hk).2 id)
  refine wp_app_any info24 underlying40 rfl (by decide) _ _ rfl base (.slice oa2 st.units.length oc2) st.units.length (uv st.units) rfl hro (fun k => k = w20.heap.size) ⟨w20.heap.size, 0, none⟩ 1 1 [.int .u32 (rn : Int)] rfl (Sl.laidAt rfl rfl (by decide)) (by intro y hy; simp at hy; subst hy; rfl) (by have := hbsm.units; unfold maxLen; omega) (by have := hbsm.units; omega) (by have := hW20.hb; have := hW20.lt; simp only [World.size_alloc, World.size_drew]; omega) (fun v' w21 p1 p2 p4 => ?_)
  obtain ⟨va, vc, rfl⟩ := ownsRow_shape p1
  have hg21 : Frame (fun k => (Value.slice oa2 st.units.length oc2).ownBlock = some k) w20 w21 := ((Frame.refl _ w20).alloc _ |>.drew).grown p2 (fun k hk => .inl hk)
  have cB21 := hg21.cell b14 HN2.out
  have fB21 : w21.frozen? ⟨B, 14, none⟩ = false := (hg21.frozen b14 HN2.out).trans (hW20.frozen 14)
  refine hK _ _ ⟨(Frame.refl _ _).grown p2 (fun k hk => .inl hk), ?_⟩
  try simp only [Act.put, List.setIfInBounds_toArray, List.set_cons_zero, List.set_cons_succ]
  refine seq_new (fun _ _ => ?_)
  go_wp2_with fail
  refine ⟨Frame.refl _ _, ?_⟩
  iterate 1
    refine seq_val (v := ?_) (fun w' hX => ?_) ?_
    rotate_left
    · clear hX; go_simp; try with_reducible rfl
    try simp only [Act.put, List.setIfInBounds_toArray, List.set_cons_zero, List.set_cons_succ]
  refine seq_out (fun KK hK => ?_)
  go_wp2_with fail
  refine seq_nil ?_
  have k22 := (WrTo.refl hW20).units (v' := .slice va (st.units.length + 1) vc) (x := rn) (by rw [HOV2.out]; exact hg21) (by rw [HOV2.out]; exact p4.imp id fun h k hk => by have := h k hk; simp only [World.size_alloc, World.size_drew] at this; omega) p1 (by omega)
  have hs2 : unitS2 u st = { st with abv := ab2 ++ [0], base := st.info.length, info := st.info ++ (lenB 0 u.wide st.big ++ headB u st), units := st.units ++ [rn] } := by
    unfold unitS2
    rw [HLS.out, ← List.append_assoc, HAB2.out, ← HRN.out, Nat.mod_eq_of_lt (show rn < 4294967296 by omega), Nat.mod_eq_of_lt (show st.info.length < 4294967296 by omega)]
  obtain ⟨V4, hU22, hto22, hbf22⟩ : ∃ V4, UnitSt base B w V st0 u (.slice xa u.root.attrs.length xc) (.slice ya u.root.kids.length yc) V4 (unitS2 u st) (w21.setCell ⟨B, 14, none⟩ (.slice va (st.units.length + 1) vc)) ∧ WrTo base B w4 V1 st (w21.setCell ⟨B, 14, none⟩ (.slice va (st.units.length + 1) vc)) V4 (unitS2 u st) ∧
      RdW V4 (unitS2 u st) B (w21.setCell ⟨B, 14, none⟩ (.slice va (st.units.length + 1) vc)) (.slice ga st.info.length gc) st.info := by
    rw [hs2]
    exact ⟨_, hU20.go k22, hto20.trans k22, hbef.go k22⟩
  clear k22 hs2 hU20 hto20 hbef hg21 cB21 fB21 p1 p2 p4 hro hrow HN2 HOV2 b7 b14 y8 hW20
  generalize (w21.setCell ⟨B, 14, none⟩ (.slice va (st.units.length + 1) vc)) = w22 at *
  have hW22 := hU22.run.wr
  have hn22 := hn3.keep ((hF4.same fun k hk => ⟨hK3 k hk, id⟩) : Same K1 w3 w4)
  replace hn22 := hn22.keep (hto22.frame.same fun k hk => ⟨Nat.lt_of_lt_of_le (hK3 k hk) hF4.size, (hW3.hD k (hK1 k hk)).2⟩)
  have hKap : ∀ k, (w3.heap.size ≤ k ∧ k < w4.heap.size) → k < w4.heap.size ∧ ¬ V1.S st B k := fun k hk => ⟨hk.2, fun e => by have := (hW3.S_lt k e).2; omega⟩
  have hL22 := HOL.out.rds.keep (hto22.frame.same hKap)
  have hKL22 : ∀ k, (w3.heap.size ≤ k ∧ k < w4.heap.size) → k < w22.heap.size ∧ ¬ V4.S (unitS2 u st) B k := fun k hk => ⟨Nat.lt_of_lt_of_le hk.2 hto22.frame.size, fun e => (hto22.more k e).elim (hKap k hk).2 fun e => by omega⟩
  have hsm22 := unitS2_small u st N hbsm (by rw [HLS.out]; exact hab')
  have hsm23 := nodeF_small u.version u.wide u.address.toNat (by omega) ls (by omega) u.root (unitS2 u st) _ HNB.out hsm22 (by omega)
  have hs3 : unitS3 u st = nodeF u.version u.wide u.address.toNat ls u.root (unitS2 u st) := by unfold unitS3; rw [HLS.out]
  obtain ⟨z0, z1, z2, z3, z4, z5, z6, z7, z8, z9, z10⟩ := unit_cells hU22.unit
  have HS3 := Lib.hid hs3; clear hs3
  have HSM23 := Lib.hid hsm23; clear hsm23
  clear hnt hnt2
  go_wp2_with fail
  (with_reducible refine (node_any u (.slice xa u.root.attrs.length xc) (.slice ya u.root.kids.length yc) AV HVC.out HTF.out HAD.out (.slice la ls.length lc) ls hlen (d + 1) K1 (fun k => w3.heap.size ≤ k ∧ k < w4.heap.size) base B (u.root, .slice xa u.root.attrs.length xc, .slice ya u.root.kids.length yc) _ V4 (unitS2 u st) _ hW22 hn22 (fun k hk => hto22.lessD k (hK1 k hk)) hL22 hKL22 HNB.out HAV.out hsm22 (by dsimp only; omega)).mono ?_)
  rintro e w23 ⟨rfl, V5, hto23⟩
  dsimp only at hto23
  rw [← HS3.out] at hto23
  have hsm23 := HSM23.out
  rw [← HS3.out] at hsm23
  have hU23 := hU22.go hto23
  have hbf23 := hbf22.go hto23
  clear z0 z1 z2 z3 z4 z5 z6 z7 z8 z9 z10 hto23 hU22 hto22 hbf22 hn22 hL22 hKL22 hsm22 hW22
  have hW23 := hU23.run.wr
  have hkp : Keeps (unitS2 u st) (unitS3 u st) := nodeF_keeps _ _ _ _ _ _
  have hbg : (unitS3 u st).big = st.big := hkp.big
  have hlo : st.info.length + (lenB 0 u.wide st.big).length ≤ (unitS3 u st).info.length := by
    obtain ⟨t, ht⟩ := hkp.info
    rw [ht]
    simp only [unitS2, List.length_append]; omega
  clear hkp
  generalize hst3 : unitS3 u st = st3 at *
  have HST3 := Lib.hid hst3; clear hst3
  have b7 : w23.cell? ⟨B, 7, none⟩ = some V5.info := hW23.cell 7
  have hri : Own w23 base V5.info st3.info := ⟨hW23.rows.own (rowB V5.info st3.info) (by simp), hW23.ok.info⟩
  obtain ⟨ia5, ic5, hiv5⟩ := hri.shape
  rw [hiv5] at b7 hri
  have HIV5 := Lib.hid hiv5; clear hiv5
  have HBG := Lib.hid hbg; clear hbg
  have b7a := cell_alloc b7 (.cells #[] 5)
  have hl0 := lenB_le 0 u.wide st.big
  have hil3 : st3.info.length ≤ 50000000 := by have := hsm23.info; omega
  generalize hlb : (lenB 0 u.wide st.big).length = lb at *
  have HLB := Lib.hid hlb; clear hlb
  obtain ⟨sa5, sn5, sc5, hsl, hrd5, hsn⟩ := cut_lo hri.rd (st.info.length + lb) (z := (st.info.length : Int) + (lb : Int)) (by omega) hlo
  have hsl1 := hsl .i64
  clear hsl hsn
  have hrd5' := hrd5.alloc (fun k hk => (own_lt hri k hk).2) (.cells #[] 5)
  have hdl : (st3.info.drop (st.info.length + lb)).length ≤ 50000000 := by rw [List.length_drop]; omega
  go_wp2_with (at_builtin; refine app5 rfl _ _ rfl rfl (Own.made w23 w23.heap.size (Nat.le_refl _)) rfl hrd5' (by simp only [List.length_nil]; omega) (by simp) ?_; intro v' w24 ho24 hg24 _ _; obtain ⟨ta, tn, tc, rfl⟩ : ∃ a n c, v' = .slice a n c := by (obtain ⟨a, c, e⟩ := ho24.shape; exact ⟨a, _, c, e⟩))
  have HTN := Lib.hid (OwnN ho24)
  have htn : tn ≤ 50000000 := by rw [HTN.out]; simpa using hdl
  have hF24 : Frame no w23 w24 := ((Frame.refl no w23).alloc _).grown hg24 (fun k hk => .inr (own_lt' (Own.made w23 w23.heap.size (Nat.le_refl _)) k hk))
  have hU24 := hU23.same hF24
  have hbf24 := hbf23.b.up hF24
  have HSM := Lib.hid hsm23
  clear hU23 hbf23 hF24 hg24 hsl1 hrd5 hrd5' b7a b7 hri HIV5 hW23 hsm23 hdl
  have hW24 := hU24.run.wr
  have b0 : w24.cell? ⟨B, 0, none⟩ = some (.bool st3.big) := hW24.cell 0
  have b7 : w24.cell? ⟨B, 7, none⟩ = some V5.info := hW24.cell 7
  have y1 := (unit_cells hU24.unit).2.1
  have hwr : IntKind.u64.wrap (tn : Int) = (tn : Int) := IntWalk.u64_in _ (by omega)
  go_wp2_with fail
  refine wp_region_seq no 17 [(0, true), (1, true), (2, true), (3, true), (4, true), (5, true), (6, true), (7, true), (8, true), (9, true), (10, true), (12, true), (11, false), (13, false), (14, false), (15, false), (16, true), (17, false)] (by kernel_rfl) (by kernel_rfl) (fun _ _ _ d _ h => by cases d <;> exact h) ?_
  simp only [pickB, List.getElem?_toArray, List.getElem?_cons_zero, List.getElem?_cons_succ, Option.getD_some, Bool.false_eq_true, ↓reduceIte, Nat.reduceLT]
  iterate 12
    refine seq_val (v := ?_) (fun w' hX => ?_) ?_
    rotate_left
    · have x0 := hX.cell y1 id; have x1 := hX.cell b0 id; clear hX; go_simp; try with_reducible rfl
    try simp only [Act.put, List.setIfInBounds_toArray, List.set_cons_zero, List.set_cons_succ]
  refine seq_new (fun KK hK => ?_)
  go_wp2_with fail
  (with_reducible refine (length_z (z := (tn : Int)) (n := tn) u.wide st3.big _ rfl (by omega)).mono ?_)
  rintro e w25 ⟨pa, pn, pc, rfl, ho25, hf25⟩
  have hF25 : Frame no w24 w25 := (Frame.refl no w24).drew.trans hf25 (fun _ h => h.elim)
  go_wp2_with fail
  refine ⟨hf25, ?_⟩
  refine seq_new (fun _ _ => ?_)
  go_wp2_with fail
  refine ⟨(Frame.refl _ _).alloc _, ?_⟩
  refine seq_new (fun KK hK => ?_)
  go_wp2_with fail
  (with_reducible refine (join3B (hbf24.up hF25) (RdB.own ho25) ((RdB.own ho24).up hF25) (by have := lenB_le tn u.wide st3.big; have := HTN.out; omega) rfl).mono ?_)
  rintro e w26 ⟨ra, rn2, rc, rfl, ho26, hf26⟩
  have hF26 : Frame no w24 w26 := (hF25.alloc _).trans hf26 (fun _ h => h.elim)
  have cB26 := hF26.cell b7 id
  have fB26 : w26.frozen? ⟨B, 7, none⟩ = false := (hF26.frozen b7 id).trans (hW24.frozen 7)
  go_wp2_with fail
  refine ⟨hf26, ?_⟩
  refine seq_new (fun _ _ => ?_)
  go_wp2_with fail
  refine ⟨Frame.refl _ _, ?_⟩
  iterate 1
    refine seq_val (v := ?_) (fun w' hX => ?_) ?_
    rotate_left
    · clear hX; go_simp; try with_reducible rfl
    try simp only [Act.put, List.setIfInBounds_toArray, List.set_cons_zero, List.set_cons_succ]
  refine seq_out (fun KK hK => ?_)
  go_wp2_with fail
  refine seq_nil ?_
  have k27 := (WrTo.refl hW24).info hF26 (ho26.mono_base (by have := hF25.size; simp; omega))
  have hU27 := hU24.go k27
  clear k27 hU24 hbf24 hF25 hF26 cB26 fB26 ho25 hf25 ho26 hf26 b0 b7 y1 hW24 hwr
  generalize (w26.setCell ⟨B, 7, none⟩ (.slice ra rn2 rc)) = w27 at *
  obtain ⟨V6, hU27⟩ : ∃ V6, UnitSt base B w V st0 u (.slice xa u.root.attrs.length xc) (.slice ya u.root.kids.length yc) V6 (unitS4 u st) w27 := by
    have heq : unitS4 u st = { st3 with info := st.info ++ (lenB tn u.wide st3.big ++ ([] ++ st3.info.drop (st.info.length + lb))) } := by
      unfold unitS4
      rw [HST3.out, HLB.out, HTN.out, ← HBG.out]
      simp only [List.nil_append]
    rw [heq]
    exact ⟨_, hU27⟩
  have hsm4 := unitS4_small u st _ (by rw [HST3.out]; exact HSM.out)
  obtain ⟨z0, z1, z2, z3, z4, z5, z6, z7, z8, z9, z10⟩ := unit_cells hU27.unit
  have hnt2 : (!u.typed) = true := by rw [HTF.out]; rfl
  go_wp2_with fail
  (with_reducible refine (HTC.out base B _ V6 (unitS4 u st) (.slice xa u.root.attrs.length xc) (.slice ya u.root.kids.length yc) hU27.run.wr HP.out (hsm4.mono (by omega))).mono ?_)
  rintro e w28 ⟨rfl, V7, hto28⟩
  go_wp2_with fail
  go_end0
  rw [HUF.out]
  exact ⟨rfl, V7, hU27.run.trans hto28⟩

end Go.Proofs.YtklcoppfkfenfaaGreatDoor
