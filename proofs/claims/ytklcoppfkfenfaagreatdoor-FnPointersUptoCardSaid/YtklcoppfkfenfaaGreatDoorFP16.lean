/-
  Walks: the writer's node.
-/
import Derived.Test.YtklcoppfkfenfaaGreatDoorFP15
set_option linter.all false
set_option linter.unusedVariables false
set_option linter.unusedSimpArgs false
namespace Go.Proofs.YtklcoppfkfenfaaGreatDoor
set_option maxRecDepth 100000
open Go Go.RowKit

theorem codeF_at (l : List (List Nat)) (s : List Nat) : ∀ (k : Nat) (h : k < l.length), (∀ j (h : j < l.length), j < k → l[j] ≠ s) → l[k] = s → codeF l s = k + 1 := by
  induction l with
  | nil => intro k h; simp at h
  | cons x l ih =>
    intro k h h1 h2
    cases k with
    | zero => simp only [List.getElem_cons_zero] at h2; simp [codeF, h2]
    | succ k =>
      have hx : x ≠ s := h1 0 (by simp) (by omega)
      have := ih k (by simpa using h) (fun j hj hjk => by have := h1 (j + 1) (by simpa using hj) (by omega); rwa [List.getElem_cons_succ] at this) (by simpa using h2)
      simp [codeF, hx, this]
theorem codeF_none (l : List (List Nat)) (s : List Nat) (h : ∀ j (h : j < l.length), l[j] ≠ s) : codeF l s = 0 := by
  induction l with
  | nil => rfl
  | cons x l ih =>
    have hx : x ≠ s := h 0 (by simp)
    have := ih fun j hj => by have := h (j + 1) (by simpa using hj); rwa [List.getElem_cons_succ] at this
    simp [codeF, hx, this]
theorem Rds.elem {K : Bs} {w : World} {v : Value} {ls : List (List Nat)} (h : Rds K w v ls) : ∃ a cap, v = .slice a ls.length cap ∧ ls.length ≤ cap ∧ cap ≤ maxLen ∧
    ∀ k (hk : k < ls.length), ∃ b o x n c, a = some ⟨b, o, none⟩ ∧ K b ∧ w.cell? ⟨b, o + k, none⟩ = some (.slice x n c) ∧ Rd K w (.slice x n c) ls[k] := by
  obtain ⟨vs, hl, ⟨_, a, cap, hv, h1, h2, h3, hc⟩, hr⟩ := h
  refine ⟨a, cap, hv, h1, h2, fun k hk => ?_⟩
  obtain ⟨b, o, ha, hb, hcell⟩ := hc k (by omega)
  have h4 := hr k (by omega) hk
  obtain ⟨x, c, e, _⟩ := h4.1.2
  exact ⟨b, o, x, _, c, ha, hb, by rw [hcell, e], by rw [← e]; exact h4⟩

/-- behind the world w lie a unit and a node by value, and the writer has gone on -/
structure NodeSt (base B : Nat) (w : World) (V0 : WV) (st0 : WSt) (u : UnitD) (uv kv : Value) (t : Nat) (x y : Value) (o : Bool) (V : WV) (st : WSt) (wx : World) : Prop where
  run : WrTo base B w V0 st0 wx V st
  unit : wx.heap[w.heap.size]? = some (.cells (unitV u uv kv) 31)
  node : wx.heap[w.heap.size + 1]? = some (.cells #[.int .u32 (t : Int), x, .bool o, y] 28)
  apU : ¬ V.S st B w.heap.size ∧ ¬ V.D w.heap.size
  apN : ¬ V.S st B (w.heap.size + 1) ∧ ¬ V.D (w.heap.size + 1)
theorem NodeSt.go {base B : Nat} {w wx wy : World} {V0 V V' : WV} {st0 st st' : WSt} {u : UnitD} {uv kv x y : Value} {t : Nat} {o : Bool} (h : NodeSt base B w V0 st0 u uv kv t x y o V st wx) (k : WrTo base B wx V st wy V' st') : NodeSt base B w V0 st0 u uv kv t x y o V' st' wy :=
  ⟨h.run.trans k, (k.frame.block _ (block_lt h.unit) h.apU.1).trans h.unit, (k.frame.block _ (block_lt h.node) h.apN.1).trans h.node, k.apart (block_lt h.unit) h.apU, k.apart (block_lt h.node) h.apN⟩
theorem NodeSt.turn {base B : Nat} {w wx wy : World} {V0 V V' : WV} {st0 st st' : WSt} {u : UnitD} {uv kv x y : Value} {t : Nat} {o : Bool} {X : Bs} (h : NodeSt base B w V0 st0 u uv kv t x y o V st wx) (k : WrTo base B w V0 st0 wy V' st') (hf : Frame (V.S st B) wx wy)
    (hS : ∀ k, V'.S st' B k → V.S st B k ∨ wx.heap.size ≤ k) (hD : ∀ k, V'.D k → V.D k ∨ X k) (hX : ¬ X w.heap.size ∧ ¬ X (w.heap.size + 1)) : NodeSt base B w V0 st0 u uv kv t x y o V' st' wy :=
  ⟨k, (hf.block _ (block_lt h.unit) h.apU.1).trans h.unit, (hf.block _ (block_lt h.node) h.apN.1).trans h.node,
   ⟨fun e => (hS _ e).elim h.apU.1 fun e => by have := block_lt h.unit; omega, fun e => (hD _ e).elim h.apU.2 hX.1⟩, ⟨fun e => (hS _ e).elim h.apN.1 fun e => by have := block_lt h.node; omega, fun e => (hD _ e).elim h.apN.2 hX.2⟩⟩
theorem NodeSt.same {base B : Nat} {w wx wy : World} {V0 V : WV} {st0 st : WSt} {u : UnitD} {uv kv x y : Value} {t : Nat} {o : Bool} (h : NodeSt base B w V0 st0 u uv kv t x y o V st wx) (hf : Frame no wx wy) : NodeSt base B w V0 st0 u uv kv t x y o V st wy :=
  h.go ((WrTo.refl h.run.wr).step0 hf)
theorem NodeSt.beside {base B : Nat} {w wx wy : World} {V0 V : WV} {st0 st : WSt} {u : UnitD} {uv kv x y : Value} {t : Nat} {o : Bool} {T : Bs} (h : NodeSt base B w V0 st0 u uv kv t x y o V st wx) (hf : Frame T wx wy) (hT : ∀ k, T k → k < wx.heap.size → w.heap.size + 2 ≤ k ∧ ¬ V.S st B k ∧ ¬ V.D k) : NodeSt base B w V0 st0 u uv kv t x y o V st wy :=
  ⟨h.run.step hf fun k h1 h2 => ⟨by have := (hT k h1 h2).1; omega, (hT k h1 h2).2⟩, (hf.block _ (block_lt h.unit) fun e => by have := (hT _ e (block_lt h.unit)).1; omega).trans h.unit, (hf.block _ (block_lt h.node) fun e => by have := (hT _ e (block_lt h.node)).1; omega).trans h.node, h.apU, h.apN⟩
theorem NodeSt.start {base B : Nat} {w wx : World} {V : WV} {st : WSt} {u : UnitD} {uv kv x y : Value} {t : Nat} {o : Bool} (h : UnitNode w u uv kv t x y o wx) (hW : Wr w base B V st) : NodeSt base B w V st u uv kv t x y o V st wx :=
  ⟨(WrTo.refl hW).step0 h.frame, h.unit, h.node, (WrTo.refl hW).new (Nat.le_refl _), (WrTo.refl hW).new (Nat.le_succ _)⟩
theorem NodeSt.cells {base B : Nat} {w wx : World} {V0 V : WV} {st0 st : WSt} {u : UnitD} {uv kv x y : Value} {t : Nat} {o : Bool} (h : NodeSt base B w V0 st0 u uv kv t x y o V st wx) :
    wx.cell? ⟨w.heap.size + 1, 0, none⟩ = some (.int .u32 (t : Int)) ∧ wx.cell? ⟨w.heap.size + 1, 1, none⟩ = some x ∧ wx.cell? ⟨w.heap.size + 1, 2, none⟩ = some (.bool o) ∧ wx.cell? ⟨w.heap.size + 1, 3, none⟩ = some y :=
  ⟨cell_of_row _ _ _ _ _ _ h.node, cell_of_row _ _ _ _ _ _ h.node, cell_of_row _ _ _ _ _ _ h.node, cell_of_row _ _ _ _ _ _ h.node⟩
theorem EntAt.start {base B : Nat} {w0 w1 : World} {V0 V : WV} {st0 st : WSt} (h : WrTo base B w0 V0 st0 w1 V st) (h2 : w0.heap.size + 2 ≤ w1.heap.size) (off tag : Nat) (ch : Bool) :
    EntAt w0 B V st w1.heap.size off tag ch nilS [] (w1.alloc (.cells #[.int .u32 (off : Int), .int .u32 (tag : Int), .bool ch, nilS] 96)).drew :=
  ⟨⟨h2, by simp⟩, h.new (Nat.le_refl _), heap_alloc_new _ _, ⟨rfl, .inl ⟨rfl, rfl⟩⟩, fun k hk => (by cases hk), fun p hp => (by cases hp)⟩
theorem EntAt.cells {w0 w : World} {B E off tag : Nat} {V : WV} {st : WSt} {ch : Bool} {fv : Value} {ps : List (FieldD × Value)} (h : EntAt w0 B V st E off tag ch fv ps w) :
    w.cell? ⟨E, 0, none⟩ = some (.int .u32 (off : Int)) ∧ w.cell? ⟨E, 1, none⟩ = some (.int .u32 (tag : Int)) ∧ w.cell? ⟨E, 2, none⟩ = some (.bool ch) ∧ w.cell? ⟨E, 3, none⟩ = some fv :=
  ⟨cell_of_row _ _ _ _ _ _ h.blk, cell_of_row _ _ _ _ _ _ h.blk, cell_of_row _ _ _ _ _ _ h.blk, cell_of_row _ _ _ _ _ _ h.blk⟩

theorem info24 : (Tryz.prog.info? 24).map (fun i => (i.zero, i.size, i.bytes)) = some (some (.int .u32 0), 1, 4) := by kernel_rfl
theorem underlying40 : Tryz.prog.underlying 40 = some (.slice 24) := by kernel_rfl
theorem info96 : (Tryz.prog.info? 96).map (fun i => (i.zero, i.size, i.bytes)) = some (some (.agg #[.int .u32 0, .int .u32 0, .bool false, .slice none 0 0]), 4, 40) := by kernel_rfl
theorem underlying39 : Tryz.prog.underlying 39 = some (.slice 96) := by kernel_rfl
theorem info101 : (Tryz.prog.info? 101).map (fun i => (i.zero, i.size, i.bytes)) = some (some (.agg #[.int .u32 0, .int .i64 0, .int .i64 0, .int .u64 0, .slice none 0 0]), 5, 56) := by kernel_rfl
theorem underlying94 : Tryz.prog.underlying 94 = some (.slice 101) := by kernel_rfl
theorem ownsRow_shape {w : World} {base : Nat} {e : TypeId} {sz n : Nat} {v : Value} {xs : List Value} (h : w.ownsRow base e sz v n xs) : ∃ a c, v = .slice a n c := by
  obtain ⟨_, a, c, e, _⟩ := Sl.of_own h; exact ⟨a, c, e⟩

theorem NodeSt.due {base B : Nat} {w wx w1 : World} {V0 V : WV} {st0 st : WSt} {u : UnitD} {uv kv x y : Value} {t : Nat} {o : Bool} (h : NodeSt base B w V0 st0 u uv kv t x y o V st wx) {v' fv : Value} {e : EntryD} {X : Bs} (hf : Frame (fun k => V.due.ownBlock = some k) wx w1) (hm : Moved wx V.due v')
    (ho : w1.ownsRow base 96 4 v' (V.es.length + 1) (V.es.flatMap entC ++ [.int .u32 (e.off : Int), .int .u32 (e.tag : Int), .bool e.children, fv]))
    (hfa : FieldsAt (fun k => V.D k ∨ X k) w1 fv e.fields) (hX : ∀ k, X k → w.heap.size + 2 ≤ k ∧ k < w1.heap.size ∧ ¬ V.S st B k ∧ v'.ownBlock ≠ some k) :
    NodeSt base B w V0 st0 u uv kv t x y o { V with due := v', es := V.es ++ [(e, fv)], D := fun k => V.D k ∨ X k } { st with due := st.due ++ [e] } (w1.setCell ⟨B, 13, none⟩ v') := by
  have hk := h.run.due hf hm ho hfa fun k hk => ⟨by have := (hX k hk).1; omega, (hX k hk).2⟩
  refine h.turn (X := X) hk ?_ (fun k hk => ?_) (fun k hk => hk) ⟨fun e => by have := (hX _ e).1; omega, fun e => by have := (hX _ e).1; omega⟩
  · exact (hf.mono (S' := V.S st B) fun k hk => .inl (.inr ⟨⟨V.due, 96, 4, V.es.length, V.es.flatMap entC⟩, by simp, hk⟩)).trans ((Frame.refl (fun k => k = B) w1).setCell (p := ⟨B, 13, none⟩) (.inl rfl) _) fun k hk => .inl (.inl hk)
  · rcases hk with rfl | ⟨r, hr, hk⟩
    · exact .inl (.inl rfl)
    · simp only [WV.rows, List.mem_cons, List.not_mem_nil, or_false] at hr
      by_cases hd : r = ⟨v', 96, 4, (V.es ++ [(e, fv)]).length, (V.es ++ [(e, fv)]).flatMap entC⟩
      · subst hd
        exact (hm.or k hk).imp (fun e => .inr ⟨⟨V.due, 96, 4, V.es.length, V.es.flatMap entC⟩, by simp, e⟩) id
      · refine .inl (.inr ⟨r, ?_, hk⟩)
        simp only [WV.rows, List.mem_cons, List.not_mem_nil, or_false]
        rcases hr with h | h | h | h | h | h | h | h | h | h | h | h <;> first | exact absurd h hd | simp [h]
theorem fieldsAt_nil (K : Bs) (w : World) : FieldsAt K w nilS [] :=
  ⟨[], rfl, ⟨fun _ hx => (by cases hx), ⟨rfl, none, 0, rfl, Nat.le_refl _, Nat.zero_le _, fun _ => rfl, fun j hj => (by simp at hj)⟩⟩, fun _ hp => (by cases hp)⟩
theorem EntAt.fields {w0 w : World} {B E off tag : Nat} {V : WV} {st : WSt} {ch : Bool} {fv : Value} {ps : List (FieldD × Value)} (h : EntAt w0 B V st E off tag ch fv ps w) : FieldsAt (fun k => V.D k ∨ fv.ownBlock = some k) w fv (ps.map Prod.fst) :=
  ⟨ps, rfl, ⟨fun _ _ => rfl, (Sl.of_own h.row).mono fun _ hk => .inr hk⟩, fun p hp => (h.data p hp).mono fun _ hk => .inl hk⟩

theorem small_head {st : WSt} {N cd : Nat} (h : Small st N) (hc : cd < 18446744073709551616) : Small { st with offsets := st.offsets ++ [st.info.length % 4294967296], info := st.info ++ uleb cd } (N + 10) := by
  have hu := uleb_len64 cd hc
  have hm := h.mono (M := N + 10) (by omega)
  refine ⟨hm.abv, hm.ranges, hm.str, ?_, hm.rngs, hm.strs, hm.addrs, ?_, hm.units, hm.places, hm.due, hm.lists, hm.flat⟩
  · have := h.info; simp only [List.length_append]; omega
  · have := h.offsets; simp only [List.length_append, List.length_cons, List.length_nil]; omega
/-- the writer behind some attributes, and their fields -/
def attrsS (u : UnitD) (al : List AttrD) (st : WSt) : WSt × List FieldD := attrsF u.version u.wide u.address.toNat al (st, [])
theorem attrsS_take (u : UnitD) (al : List AttrD) (k : Nat) (h : k < al.length) (st : WSt) :
    attrsS u (al.take (k + 1)) st = ({ (valueF u.version u.wide u.address.toNat al[k] (attrsS u (al.take k) st).1).st with info := (attrsS u (al.take k) st).1.info ++ (valueF u.version u.wide u.address.toNat al[k] (attrsS u (al.take k) st).1).bytes },
      (attrsS u (al.take k) st).2 ++ [{ attr := al[k].attr, cls := classF al[k].attr al[k].form u.version, kind := (valueF u.version u.wide u.address.toNat al[k] (attrsS u (al.take k) st).1).kind, n := (valueF u.version u.wide u.address.toNat al[k] (attrsS u (al.take k) st).1).n, data := (valueF u.version u.wide u.address.toNat al[k] (attrsS u (al.take k) st).1).data }]) :=
  attrsF_take _ _ _ _ _ h _
theorem attrsF_len (v : Int) (wide : Bool) (ad : Nat) : ∀ (al : List AttrD) (p : WSt × List FieldD), (attrsF v wide ad al p).2.length = p.2.length + al.length
  | [], p => by simp [attrsF]
  | a :: al, p => by simp [attrsF, attrsF_len v wide ad al]; omega
theorem attrsS_len (u : UnitD) (al : List AttrD) (st : WSt) : (attrsS u al st).2.length = al.length := by simp [attrsS, attrsF_len]
theorem attrsS_small (u : UnitD) (had : u.address.toNat ≤ 8) (al : List AttrD) (k : Nat) (st : WSt) (N : Nat) (ha : ∀ a ∈ al, AttrB a) (h : Small st N) (hN : N + growAs al ≤ 1000000000) : Small (attrsS u (al.take k) st).1 (N + growAs al) := by
  have hle := growAs_take_le al k
  exact (attrsF_small _ _ _ had (al.take k) (st, []) N (fun a h => ha a (List.mem_of_mem_take h)) h (by omega)).mono (by omega)

set_option maxHeartbeats 4000000 in
theorem node_any (u : UnitD) (ux kx : Value) (AV : AttrD → Prop) (hVC : ValueC u AV) (hty : u.typed = false) (had : u.address = 4 ∨ u.address = 8) (lv : Value) (ls : List (List Nat)) (hls : ls.length ≤ 1000000) (d : Nat) :
    ∀ (K KL : Bs) (base B : Nat) (p : NodeV) (w : World) (V : WV) (st : WSt) (N : Nat) (_ : Wr w base B V st) (_ : NodeAt d K w p) (_ : ∀ k, K k → V.D k) (_ : Rds KL w lv ls) (_ : ∀ k, KL k → k < w.heap.size ∧ ¬ V.S st B k)
      (_ : NodeB p.1) (_ : AllN (fun n => (∀ a ∈ n.attrs, AV a) ∧ n.attrs.length ≤ 1000000) p.1) (_ : Small st N) (_ : N + costF p.1 ≤ 50000000),
    Calls Tryz.prog 67 #[.pointer (some ⟨B, 0, none⟩), .agg (unitV u ux kx), .agg #[.int .u32 (p.1.tag : Int), p.2.1, .bool p.1.opn, p.2.2], lv] w
      (fun e w' => e = .returned (.tuple #[]) ∧ ∃ V', WrTo base B w V st w' V' (nodeF u.version u.wide u.address.toNat ls p.1 st)) := by
  induction d with
  | zero => intro _ _ _ _ _ _ _ _ _ _ h; exact h.elim
  | succ d ih =>
  intro K KL base B p w V st N hW hn hKD hL hKL hNB hAV hSm hN
  obtain ⟨nd, av', kv'⟩ := p
  have hshape := fun wx (hnx : NodeAt (d + 1) K wx (nd, av', kv')) (hk : ∀ k, K k → k < wx.heap.size) => shape_any d K (nd, av', kv') wx hnx hk
  obtain ⟨a, cap, ka, kc, he1, he2, hkc, hkm, htag, hal, hkids⟩ := hn.elem
  dsimp only at *
  subst he1; subst he2
  unfold maxLen at hkm
  have hkw : ∀ k, K k → k < w.heap.size ∧ ¬ V.S st B k := fun k hK => hW.hD k (hKD k hK)
  rw [AllN_eq] at hAV
  obtain ⟨⟨hAVa, hAl⟩, hAVk⟩ := hAV
  have hNB' := (AllN_eq _ _).1 hNB
  have hcost := costF_eq nd
  obtain ⟨la, lcap, rfl, hlc, hlm, hle⟩ := hL.elem
  unfold maxLen at hlm
  have HU0 := UnitNode.start w u ux kx nd.tag (.slice a nd.attrs.length cap) (.slice ka nd.kids.length kc) nd.opn
  have hsz0 := HU0.frame.size
  have hW0 := hW.keep0 HU0.frame
  have IH := Lib.hid ih; clear ih
  have HNF := Lib.hid (nodeF_eq u.version u.wide u.address.toNat ls nd st)
  have HSH := Lib.hid hshape; clear hshape
  have HKD := Lib.hid hkids; clear hkids
  have HLE := Lib.hid hle; clear hle
  have HW := Lib.hid hW; clear hW
  have HKW := Lib.hid hkw; clear hkw
  have HN := Lib.hid hn; clear hn
  have HB := Lib.hid hNB'; clear hNB' hNB
  have HAVa := Lib.hid hAVa; clear hAVa
  have HAVk := Lib.hid hAVk; clear hAVk
  have HVC := Lib.hid hVC; clear hVC
  have HTY := Lib.hid hty; clear hty
  generalize hs0 : shapeB nd = s0 at *
  have HS0 := Lib.hid hs0; clear hs0
  go_enter Tryz.func67, Tryz.ntmps67
  go_wp2_with fail
  (with_reducible refine (HSH.out _ (HN.out.keep (HU0.frame.same fun k hK => ⟨(HKW.out k hK).1, id⟩)) (fun k hK => Nat.lt_of_lt_of_le (HKW.out k hK).1 hsz0) (by omega)).mono ?_)
  rintro e w1 ⟨sa, sn, sc, rfl, hso, hf1⟩
  have hU1 := HU0.step hf1
  have hW1 := hW0.keep0 hf1
  have hL1 : ∀ k, KL k → k < w1.heap.size ∧ ¬ V.S st B k := fun k hk => ⟨by have := (hKL k hk).1; have := hU1.frame.size; omega, (hKL k hk).2⟩
  have hsL1 : Same KL w w1 := hU1.frame.same fun k hk => ⟨(hKL k hk).1, id⟩
  have hso' := hso.rd
  have hs1 := hf1.size
  simp at hs1
  go_upto_block 0 with fail
  go_cut [8, 10, 11, 23] (fun s8 _ _ _ wx => s8 = .int .i64 (codeF ls s0 : Int) ∧ w1 = wx)
  case first =>
    go_wp2_with fail
    go_loop [8, 10, 11, 23] (fun s8 _ _ i => ∃ k : Nat, k ≤ ls.length ∧ i = .int .i64 k ∧ s8 = .int .i64 0 ∧ ∀ j (h : j < ls.length), j < k → ls[j] ≠ s0) (fun _ _ _ i => ls.length - (intOf i).toNat)
    case atStart => exact ⟨0, Nat.zero_le _, rfl, rfl, fun _ _ h => by omega⟩
    case round =>
    obtain ⟨k, hk', rfl, rfl, hnx⟩ := hrel
    have HNX := Lib.hid hnx; clear hnx
    by_cases hlt : k < ls.length
    · obtain ⟨b, o, x, n, c, rfl, hb, hc, hr⟩ := HLE.out k hlt
      have hr1 := hr.keep hsL1
      have hc1 := hU1.frame.cell hc id
      clear hr hc
      by_cases heq : ls[k] = s0
      · have HEQ := Lib.hid heq; clear heq
        have hbq : (ls[k] == s0) = true := by rw [HEQ.out]; simp
        go_wp2_with fail
        (with_reducible refine (sameBytes_any _ _ _ _ _ _ _ hr1 hso').mono ?_)
        rintro e w' ⟨rfl, rfl⟩
        rw [hbq]
        go_wp2_with fail
        go_meet
        case rel => exact ⟨by rw [codeF_at ls s0 k hlt HNX.out HEQ.out]; go_num, rfl⟩
      · have HEQ := Lib.hid heq; clear heq
        have hbq : (ls[k] == s0) = false := by simpa using HEQ.out
        go_wp2_with fail
        (with_reducible refine (sameBytes_any _ _ _ _ _ _ _ hr1 hso').mono ?_)
        rintro e w' ⟨rfl, rfl⟩
        rw [hbq]
        go_wp2_with fail
        go_round
        case rel =>
          refine ⟨k + 1, by omega, by go_num, rfl, fun j hj hjk => ?_⟩
          by_cases e : j = k
          · subst e; exact HEQ.out
          · exact HNX.out j hj (by omega)
        case measure => simp [intOf]; omega
    · go_wp2_with fail
      go_meet
      case rel => exact ⟨by rw [codeF_none ls s0 fun j hj => HNX.out j hj (by omega)]; rfl, rfl⟩
  case rest =>
  obtain ⟨rfl, rfl⟩ := hcut
  have hcl := codeF_le ls s0
  generalize hcd : codeF ls s0 = cd at *
  have HCD := Lib.hid hcd; clear hcd
  have hNS := (NodeSt.start HU0 HW.out).same hf1
  obtain ⟨n0, n1, n2, n3⟩ := hNS.cells
  have b7 : w1.cell? ⟨B, 7, none⟩ = some V.info := hW1.cell 7
  have hri : Own w1 base V.info st.info := ⟨hW1.rows.own (rowB V.info st.info) (by simp), hW1.ok.info⟩
  obtain ⟨ia, ic, hiv⟩ := hri.shape
  rw [hiv] at b7
  have hil := hSm.info
  have hcv : IntKind.u32.wrap (st.info.length : Int) = ((st.info.length % 4294967296 : Nat) : Int) := by rw [IntKind.wrap_u32]; omega
  have HCV := Lib.hid hcv; clear hcv
  have HIV := Lib.hid hiv; clear hiv
  have hchd : childF nd = (nd.opn || decide (0 < nd.kids.length)) := rfl
  have HCH := Lib.hid hchd; clear hchd
  go_upto_region 8 with fail
  go_cut [12] (fun s12 wx => ∃ (E : Nat) (w8 : World), w8 = wx ∧ s12 = .pointer (some ⟨E, 0, none⟩) ∧ EntAt w B V st E (st.info.length % 4294967296) nd.tag (childF nd) nilS [] wx ∧ NodeSt base B w V st u ux kx nd.tag (.slice a nd.attrs.length cap) (.slice ka nd.kids.length kc) nd.opn V st wx)
  case first =>
    generalize hop : nd.opn = op at *
    have HOP := Lib.hid hop; clear hop
    cases op
    · refine wp_region_seqG no 18 [(0, true), (1, true), (2, true), (3, true), (4, true), (5, true), (6, true), (7, true), (8, true), (9, true), (10, true), (11, true), (12, true), (13, true), (14, true), (15, true), (16, true), (17, false), (18, false)] (by kernel_rfl) (by kernel_rfl) (fun _ _ _ d _ h => by cases d <;> exact h) ?_
      simp only [pickB, List.getElem?_toArray, List.getElem?_cons_zero, List.getElem?_cons_succ, Option.getD_some, Bool.false_eq_true, ↓reduceIte, Nat.reduceLT]
      iterate 17
        refine seqG_val (v := ?_) rfl (fun w' hX => ?_) ?_
        rotate_left
        · have x0 := hX.cell b7 id; have x1 := hX.cell n0 id; have x2 := hX.cell n2 id; have x3 := hX.cell n3 id; clear hX; go_simp; try with_reducible rfl
        try simp only [Act.put, List.setIfInBounds_toArray, List.set_cons_zero, List.set_cons_succ]
      refine seqG_new (fun KK hK => ?_)
      go_wp2_with fail
      refine ⟨(Frame.refl _ _).alloc _, ?_⟩
      refine seqG_out (fun KK hK => ?_)
      go_wp2_with fail
      refine seqG_nil ?_
      go_wp2_with fail
      go_meet
      case rel =>
        refine ⟨_, _, rfl, rfl, ?_, hNS.same (((Frame.refl no w1).alloc _).drew)⟩
        rw [Nat.mod_eq_of_lt (show st.info.length < 4294967296 by omega), HCH.out, Bool.false_or]
        exact EntAt.start hNS.run (by have := block_lt hNS.node; omega) _ _ _
    · refine wp_region_seqG no 18 [(0, true), (1, true), (2, true), (3, true), (4, true), (5, true), (6, true), (7, true), (8, true), (9, true), (10, true), (11, true), (12, true), (13, true), (14, true), (15, true), (16, true), (17, false), (18, false)] (by kernel_rfl) (by kernel_rfl) (fun _ _ _ d _ h => by cases d <;> exact h) ?_
      simp only [pickB, List.getElem?_toArray, List.getElem?_cons_zero, List.getElem?_cons_succ, Option.getD_some, Bool.false_eq_true, ↓reduceIte, Nat.reduceLT]
      iterate 11
        refine seqG_val (v := ?_) rfl (fun w' hX => ?_) ?_
        rotate_left
        · have x0 := hX.cell b7 id; have x1 := hX.cell n0 id; have x2 := hX.cell n2 id; have x3 := hX.cell n3 id; clear hX; go_simp; try with_reducible rfl
        try simp only [Act.put, List.setIfInBounds_toArray, List.set_cons_zero, List.set_cons_succ]
      refine seqG_skip rfl ?_
      try simp only [Act.put, List.setIfInBounds_toArray, List.set_cons_zero, List.set_cons_succ]
      refine seqG_skip rfl ?_
      try simp only [Act.put, List.setIfInBounds_toArray, List.set_cons_zero, List.set_cons_succ]
      refine seqG_skip rfl ?_
      try simp only [Act.put, List.setIfInBounds_toArray, List.set_cons_zero, List.set_cons_succ]
      refine seqG_skip rfl ?_
      try simp only [Act.put, List.setIfInBounds_toArray, List.set_cons_zero, List.set_cons_succ]
      iterate 2
        refine seqG_val (v := ?_) rfl (fun w' hX => ?_) ?_
        rotate_left
        · have x0 := hX.cell b7 id; have x1 := hX.cell n0 id; have x2 := hX.cell n2 id; have x3 := hX.cell n3 id; clear hX; go_simp; try with_reducible rfl
        try simp only [Act.put, List.setIfInBounds_toArray, List.set_cons_zero, List.set_cons_succ]
      refine seqG_new (fun KK hK => ?_)
      go_wp2_with fail
      refine ⟨(Frame.refl _ _).alloc _, ?_⟩
      refine seqG_out (fun KK hK => ?_)
      go_wp2_with fail
      refine seqG_nil ?_
      go_wp2_with fail
      go_meet
      case rel =>
        refine ⟨_, _, rfl, rfl, ?_, hNS.same (((Frame.refl no w1).alloc _).drew)⟩
        rw [Nat.mod_eq_of_lt (show st.info.length < 4294967296 by omega), HCH.out, Bool.true_or]
        exact EntAt.start hNS.run (by have := block_lt hNS.node; omega) _ _ _
  case rest =>
  obtain ⟨E, w8, rfl, rfl, hE8, hNS8⟩ := hcut
  clear hW1 hL1 hsL1 hso' hs1 n0 n1 n2 n3 b7 hri HIV HCV HCH hU1 hso hf1 hNS
  have hW8 := hNS8.run.wr
  have b11 : w8.cell? ⟨B, 11, none⟩ = some V.offsets := hW8.cell 11
  obtain ⟨e0, e1, e2, e3⟩ := hE8.cells
  have hrow : w8.ownsRow base 24 1 V.offsets st.offsets.length (uv st.offsets) := hW8.rows.own ⟨V.offsets, 24, 1, st.offsets.length, uv st.offsets⟩ (by simp)
  have hnb : V.offsets.ownBlock ≠ some B := hW8.rows.notB ⟨V.offsets, 24, 1, st.offsets.length, uv st.offsets⟩ (by simp)
  have hne : V.offsets.ownBlock ≠ some E := fun e => hE8.apartE.1 (.inr ⟨⟨V.offsets, 24, 1, st.offsets.length, uv st.offsets⟩, by simp, e⟩)
  obtain ⟨oa, oc, hov⟩ := ownsRow_shape hrow
  rw [hov] at b11 hrow hnb hne
  have HOV := Lib.hid hov; clear hov
  have HN1 := Lib.hid hne; clear hne
  have HN2 := Lib.hid hnb; clear hnb
  go_wp2_with fail
  refine wp_region_seq (fun k => (Value.slice oa st.offsets.length oc).ownBlock = some k) 11 [(0, true), (1, true), (2, true), (3, true), (4, true), (5, true), (6, true), (7, false), (8, false), (9, false), (10, true), (11, false)] (by kernel_rfl) (by kernel_rfl) (fun _ _ _ d _ h => by cases d <;> exact h) ?_
  simp only [pickB, List.getElem?_toArray, List.getElem?_cons_zero, List.getElem?_cons_succ, Option.getD_some, Bool.false_eq_true, ↓reduceIte, Nat.reduceLT]
  iterate 7
    refine seq_val (v := ?_) (fun w' hX => ?_) ?_
    rotate_left
    · have x0 := hX.cell b11 HN2.out; have x1 := hX.cell e0 HN1.out; clear hX; go_simp; try with_reducible rfl
    try simp only [Act.put, List.setIfInBounds_toArray, List.set_cons_zero, List.set_cons_succ]
  refine seq_new (fun _ _ => ?_)
  go_wp2_with fail
  refine ⟨(Frame.refl _ _).alloc _, ?_⟩
  refine seq_new (fun KK hK => ?_)
  have hro := ownsRow_keep hrow (w' := (w8.alloc (.cells #[.int .u32 ((st.info.length % 4294967296 : Nat) : Int)] 24)).drew) (fun k hk => ((Frame.refl no w8).alloc _ |>.drew).block k (hrow.lt k hk).2 id)
  refine wp_app_any info24 underlying40 rfl (by decide) _ _ rfl base (.slice oa st.offsets.length oc) st.offsets.length (uv st.offsets) rfl hro (fun k => k = w8.heap.size) ⟨w8.heap.size, 0, none⟩ 1 1 [.int .u32 ((st.info.length % 4294967296 : Nat) : Int)] rfl (Sl.laidAt rfl rfl (by decide)) (by intro y hy; simp at hy; subst hy; rfl) (by have := hSm.offsets; unfold maxLen; omega) (by have := hSm.offsets; omega) (by have := hW8.hb; have := hW8.lt; simp only [World.size_alloc, World.size_drew]; omega) (fun v' w9 p1 p2 p4 => ?_)
  obtain ⟨va, vc, rfl⟩ := ownsRow_shape p1
  have hg9 : Frame (fun k => (Value.slice oa st.offsets.length oc).ownBlock = some k) w8 w9 := ((Frame.refl _ w8).alloc _ |>.drew).grown p2 (fun k hk => .inl hk)
  have cB9 := hg9.cell b11 HN2.out
  have fB9 : w9.frozen? ⟨B, 11, none⟩ = false := (hg9.frozen b11 HN2.out).trans (hW8.frozen 11)
  refine hK _ _ ⟨(Frame.refl _ _).grown p2 (fun k hk => .inl hk), ?_⟩
  try simp only [Act.put, List.setIfInBounds_toArray, List.set_cons_zero, List.set_cons_succ]
  refine seq_new (fun _ _ => ?_)
  go_wp2_with fail
  refine ⟨Frame.refl _ _, ?_⟩
  iterate 1
    refine seq_val (v := ?_) (fun w' hX => ?_) ?_
    rotate_left
    · clear hX; go_simp; try with_reducible rfl
    try simp only [Act.put, List.setIfInBounds_toArray, List.set_cons_zero, List.set_cons_succ]
  refine seq_out (fun KK hK => ?_)
  go_wp2_with fail
  refine seq_nil ?_
  have k9 := (WrTo.refl hW8).offsets (v' := .slice va (st.offsets.length + 1) vc) (by rw [HOV.out]; exact hg9) (by rw [HOV.out]; exact p4.imp id fun h k hk => by have := h k hk; simp only [World.size_alloc, World.size_drew] at this; omega) p1 (Nat.mod_lt _ (by decide))
  have hNS9 := hNS8.go k9
  have hE9 := hE8.to hW8 k9
  clear k9 hE8 hNS8 hW8 b11 e0 e1 e2 e3 hrow HN1 HN2 HOV hg9 cB9 fB9 p1 p2 p4 hro
  generalize (w9.setCell ⟨B, 11, none⟩ (.slice va (st.offsets.length + 1) vc)) = w10 at *
  have hW10 := hNS9.run.wr
  have b7 : w10.cell? ⟨B, 7, none⟩ = some V.info := hW10.cell 7
  have hri : Own w10 base V.info st.info := ⟨hW10.rows.own (rowB V.info st.info) (by simp), hW10.ok.info⟩
  obtain ⟨ia, ic, hiv⟩ := hri.shape
  rw [hiv] at b7 hri
  have HIV := Lib.hid hiv; clear hiv
  go_wp2_with fail
  refine wp_region_seq no 12 [(0, true), (1, true), (2, true), (3, true), (4, true), (5, true), (6, true), (7, false), (8, false), (9, false), (10, false), (11, true), (12, false)] (by kernel_rfl) (by kernel_rfl) (fun _ _ _ d _ h => by cases d <;> exact h) ?_
  simp only [pickB, List.getElem?_toArray, List.getElem?_cons_zero, List.getElem?_cons_succ, Option.getD_some, Bool.false_eq_true, ↓reduceIte, Nat.reduceLT]
  iterate 7
    refine seq_val (v := ?_) (fun w' hX => ?_) ?_
    rotate_left
    · have x0 := hX.cell b7 id; clear hX; go_simp; try with_reducible rfl
    try simp only [Act.put, List.setIfInBounds_toArray, List.set_cons_zero, List.set_cons_succ]
  refine seq_new (fun KK hK => ?_)
  go_wp2_with fail
  (with_reducible refine (unsigned_any cd _ (by omega)).mono ?_)
  rintro e w11 ⟨xa, xn, xc, rfl, ho11, hf11⟩
  have hF11 : Frame no w10 w11 := ((Frame.refl no w10).drew).trans hf11 (fun _ h => h.elim)
  go_wp2_with fail
  refine ⟨hf11, ?_⟩
  refine seq_new (fun _ _ => ?_)
  go_wp2_with fail
  refine ⟨(Frame.refl _ _).alloc _, ?_⟩
  refine seq_new (fun KK hK => ?_)
  go_wp2_with fail
  (with_reducible refine (join2 (hri.rd.keep (hF11.same fun k hk => ⟨(own_lt hri k hk).2, id⟩)) ho11.rd (fun k hk => Nat.lt_of_lt_of_le (own_lt hri k hk).2 hF11.size) (fun k hk => (own_lt ho11 k hk).2) (by have := hSm.info; have := uleb_len64 cd (by omega); omega) rfl).mono ?_)
  rintro e w12 ⟨ya, yn, yc, rfl, ho12, hf12⟩
  have hF12 : Frame no w10 w12 := (hF11.alloc _).trans hf12 (fun _ h => h.elim)
  have cB12 := hF12.cell b7 id
  have fB12 : w12.frozen? ⟨B, 7, none⟩ = false := (hF12.frozen b7 id).trans (hW10.frozen 7)
  go_wp2_with fail
  refine ⟨hf12, ?_⟩
  refine seq_new (fun _ _ => ?_)
  go_wp2_with fail
  refine ⟨Frame.refl _ _, ?_⟩
  iterate 1
    refine seq_val (v := ?_) (fun w' hX => ?_) ?_
    rotate_left
    · clear hX; go_simp; try with_reducible rfl
    try simp only [Act.put, List.setIfInBounds_toArray, List.set_cons_zero, List.set_cons_succ]
  refine seq_out (fun KK hK => ?_)
  go_wp2_with fail
  refine seq_nil ?_
  have hs12 := hF11.size
  have k10 := (WrTo.refl hW10).info hF12 (ho12.mono_base (by simp; omega))
  have hNS11 := hNS9.go k10
  have hE11 := hE9.to hW10 k10
  clear k10 hE9 hNS9 hW10 b7 hri HIV hF11 hF12 cB12 fB12 ho11 hf11 ho12 hf12 hs12
  generalize (w12.setCell ⟨B, 7, none⟩ (.slice ya yn yc)) = w13 at *
  obtain ⟨V1, st1, hst1, hNS, hE⟩ : ∃ V1 st1, st1 = ({ st with offsets := st.offsets ++ [st.info.length % 4294967296], info := st.info ++ uleb cd } : WSt) ∧ NodeSt base B w V st u ux kx nd.tag (.slice a nd.attrs.length cap) (.slice ka nd.kids.length kc) nd.opn V1 st1 w13 ∧ EntAt w B V1 st1 E (st.info.length % 4294967296) nd.tag (childF nd) nilS [] w13 := ⟨_, _, rfl, hNS11, hE11⟩
  clear hNS11 hE11
  have had8 : u.address.toNat ≤ 8 := by omega
  have hSm1 : Small st1 (N + 10) := by rw [hst1]; exact small_head hSm (by omega)
  have hSmk : ∀ k, Small (attrsS u (nd.attrs.take k) st1).1 (N + 10 + growAs nd.attrs) := fun k => attrsS_small u had8 nd.attrs k st1 (N + 10) HB.out.1 hSm1 (by omega)
  have HSK := Lib.hid hSmk; clear hSmk
  have HST1 := Lib.hid hst1; clear hst1
  generalize hoff : st.info.length % 4294967296 = off at *
  have HOFF := Lib.hid hoff; clear hoff
  generalize hchn : childF nd = chn at *
  have HCHN := Lib.hid hchn; clear hchn
  obtain ⟨_, _, he, hac, hacm, hel⟩ := hal.elem
  simp only [Value.slice.injEq, true_and] at he
  obtain ⟨rfl, rfl⟩ := he
  unfold maxLen at hacm
  have HEL := Lib.hid hel; clear hel hal
  obtain ⟨n0, n1, n2, n3⟩ := hNS.cells
  go_upto_block 2 with fail
  go_cut [14, 15, 16, 77, 81] (fun _ _ _ _ _ wx => ∃ (w20 : World) (V2 : WV) (fv : Value) (ps : List (FieldD × Value)), w20 = wx ∧ NodeSt base B w V st u ux kx nd.tag (.slice a nd.attrs.length cap) (.slice ka nd.kids.length kc) nd.opn V2 (attrsS u nd.attrs st1).1 wx ∧
    EntAt w B V2 (attrsS u nd.attrs st1).1 E off nd.tag chn fv ps wx ∧ ps.map Prod.fst = (attrsS u nd.attrs st1).2)
  case first =>
    go_wp2_with fail
    go_loopw [14, 15, 16, 77, 81] (fun _ _ _ i _ wr => ∃ (k : Nat) (V2 : WV) (fv : Value) (ps : List (FieldD × Value)), k ≤ nd.attrs.length ∧ i = .int .i64 k ∧ NodeSt base B w V st u ux kx nd.tag (.slice a nd.attrs.length cap) (.slice ka nd.kids.length kc) nd.opn V2 (attrsS u (nd.attrs.take k) st1).1 wr ∧
      EntAt w B V2 (attrsS u (nd.attrs.take k) st1).1 E off nd.tag chn fv ps wr ∧ ps.map Prod.fst = (attrsS u (nd.attrs.take k) st1).2) (fun _ _ _ i _ _ => nd.attrs.length - (intOf i).toNat)
    case atStart => exact ⟨0, V1, nilS, [], Nat.zero_le _, rfl, hNS, hE, rfl⟩
    case round =>
    clear hNS hE n0 n1 n2 n3
    obtain ⟨k, V2, fv, ps, hk', rfl, hNS2, hE2, hps⟩ := hrel
    by_cases hlt : k < nd.attrs.length
    · obtain ⟨b, o, da, dc, la', lc, rfl, hb, c0, c1, c2, c3, c4, ha1, ha2, ha3, hrd, hit⟩ := HEL.out k hlt
      have HTK := Lib.hid (attrsS_take u nd.attrs k hlt st1)
      have hsm2 := HSK.out k
      have hav := HAVa.out nd.attrs[k] (List.getElem_mem hlt)
      have hab := HB.out.1 nd.attrs[k] (List.getElem_mem hlt)
      have hgr : growA nd.attrs[k] ≤ growAs nd.attrs := by have := growAs_take nd.attrs k hlt; have := growAs_take_le nd.attrs (k + 1); omega
      generalize hS2 : attrsS u (nd.attrs.take k) st1 = S2 at *
      have HS2 := Lib.hid hS2; clear hS2
      generalize hA : nd.attrs[k] = A at *
      have HA := Lib.hid hA; clear hA
      obtain ⟨st2, fs2⟩ := S2
      dsimp only at hsm2 hNS2 hE2 hps
      have hvs := valueF_small u.version u.wide u.address.toNat A st2 _ had8 hab hsm2 (by omega)
      have hW2 := hNS2.run.wr
      have hfr := hNS2.run.frame
      replace c0 := hfr.cell c0 (HKW.out b hb).2
      replace c1 := hfr.cell c1 (HKW.out b hb).2
      replace c2 := hfr.cell c2 (HKW.out b hb).2
      replace c3 := hfr.cell c3 (HKW.out b hb).2
      replace c4 := hfr.cell c4 (HKW.out b hb).2
      have hsmK : Same K w wr := hfr.same HKW.out
      have hfA : Frame no wr (wr.alloc (.cells #[.int .u32 (A.attr : Int), .int .u32 (A.form : Int), .int .u64 (A.n : Int), .slice da A.data.length dc, .slice la' A.list.length lc] 73)) := (Frame.refl _ _).alloc _
      have hK2 : ∀ k, K k → V2.D k := fun k h => hNS2.run.lessD k (hKD k h)
      have hrdA := (hrd.keep hsmK).keep (hfA.same fun k h => ⟨(hW2.hD k (hK2 k h)).1, id⟩)
      have hitA := (hit.keep hsmK).keep (hfA.same fun k h => ⟨(hW2.hD k (hK2 k h)).1, id⟩)
      clear hrd hit
      have hnA2 := (WrTo.refl hW2).new (Nat.le_refl wr.heap.size)
      have hNSA := hNS2.same hfA
      have hEA := hE2.no hW2 hfA
      obtain ⟨u0, u1, u2, u3, u4, u5, u6, u7, u8, u9, u10⟩ := unit_cells hNSA.unit
      have HVS := Lib.hid hvs; clear hvs
      have HNA2 := Lib.hid hnA2; clear hnA2
      go_wp2_with fail
      (with_reducible refine (HVC.out ux kx base B _ V2 st2 A _ _ _ _ K hNSA.run.wr hav ha1 ha2 ha3 hrdA hitA hK2 (hsm2.mono (by omega))).mono ?_)
      rintro e w5 ⟨xa, xn, xc, ya, yn, yc, V3, rfl, hto, hbr, hdr⟩
      generalize hr : valueF u.version u.wide u.address.toNat A st2 = r at *
      have HR := Lib.hid hr; clear hr
      obtain ⟨rb, rk, rn, rd, rst⟩ := r
      dsimp only at hto hbr hdr ⊢
      have hNS5 := hNSA.go hto
      have hE5 := hEA.to hNSA.run.wr hto
      have hnA3 := hto.apart (k := wr.heap.size) (by simp) HNA2.out
      have g0 : w5.cell? ⟨wr.heap.size, 0, none⟩ = some (.int .u32 (A.attr : Int)) := hto.frame.cell (cell_new _ _ _ _) HNA2.out.1
      have g1 : w5.cell? ⟨wr.heap.size, 1, none⟩ = some (.int .u32 (A.form : Int)) := hto.frame.cell (cell_new _ _ _ _) HNA2.out.1
      have g2 : w5.cell? ⟨wr.heap.size, 2, none⟩ = some (.int .u64 (A.n : Int)) := hto.frame.cell (cell_new _ _ _ _) HNA2.out.1
      have g3 : w5.cell? ⟨wr.heap.size, 3, none⟩ = some (.slice da A.data.length dc) := hto.frame.cell (cell_new _ _ _ _) HNA2.out.1
      have g4 : w5.cell? ⟨wr.heap.size, 4, none⟩ = some (.slice la' A.list.length lc) := hto.frame.cell (cell_new _ _ _ _) HNA2.out.1
      clear u0 u1 u2 u3 u4 u5 u6 u7 u8 u9 u10 c0 c1 c2 c3 c4 hrdA hitA
      have hf6 : Frame no w5 (w5.alloc (.cells #[.int .i64 rk, .int .u64 (rn : Int), .slice ya yn yc] 99)) := (Frame.refl _ _).alloc _
      have hW5 := hNS5.run.wr
      have hnG5 := (WrTo.refl hW5).new (Nat.le_refl w5.heap.size)
      have hNS6 := hNS5.same hf6
      have hE6 := hE5.no hW5 hf6
      have hW6 := hNS6.run.wr
      have b7 : (w5.alloc (.cells #[.int .i64 rk, .int .u64 (rn : Int), .slice ya yn yc] 99)).cell? ⟨B, 7, none⟩ = some V3.info := hW6.cell 7
      have hri : Own (w5.alloc (.cells #[.int .i64 rk, .int .u64 (rn : Int), .slice ya yn yc] 99)) base V3.info rst.info := ⟨hW6.rows.own (rowB V3.info rst.info) (by simp), hW6.ok.info⟩
      obtain ⟨ia, ic, hiv⟩ := hri.shape
      rw [hiv] at b7 hri
      have HIV := Lib.hid hiv; clear hiv
      have hB5 : B < w5.heap.size := hW5.lt
      have hbr6 := hbr.keep (hf6.same fun k hk => ⟨hk.2.1, id⟩)
      have hd6 := (hdr.mono hto.lessD).keep (hf6.same fun k hk => ⟨(hW5.hD k hk).1, id⟩)
      have hinf : rst.info = st2.info := by have := HVS.out.2.2.1; exact this
      have hil2 : rst.info.length ≤ 50000000 := by rw [hinf]; have := hsm2.info; omega
      have hrbl : rb.length ≤ 1000000000 := by have := HVS.out.1; have : rb.length ≤ growA A := this; omega
      have HINF := Lib.hid hinf; clear hinf
      have HHD6 := Lib.hid hd6; clear hd6
      clear hbr hdr
      go_wp2_with fail
      (with_reducible refine (join2 hri.rd hbr6 (fun k hk => (own_lt hri k hk).2) (fun k hk => by have := hk.2.1; simp; omega) (by omega) (by simp)).mono ?_)
      rintro e w7 ⟨za, zn, zc, rfl, ho7, hf7⟩
      have hF7 : Frame no (w5.alloc (.cells #[.int .i64 rk, .int .u64 (rn : Int), .slice ya yn yc] 99)) w7 := ((Frame.refl _ _).alloc _).trans hf7 (fun _ h => h.elim)
      have cB7 := hF7.cell b7 id
      have fB7 : w7.frozen? ⟨B, 7, none⟩ = false := (hF7.frozen b7 id).trans (hW6.frozen 7)
      have k8 := (WrTo.refl hW6).info hF7 (ho7.mono_base (by simp))
      have hNS8 := hNS6.go k8
      have hE8 := hE6.to hW6 k8
      have hAB : wr.heap.size ≠ B := fun e => by have := hW2.lt; omega
      have hGB : w5.heap.size ≠ B := fun e => by omega
      have hA5 : wr.heap.size < w5.heap.size := by have := hto.frame.size; simp at this; omega
      replace g0 := cell_set (p := ⟨B, 7, none⟩) (hF7.cell (cell_alloc g0 (.cells #[.int .i64 rk, .int .u64 (rn : Int), .slice ya yn yc] 99)) id) hAB (.slice za zn zc)
      replace g1 := cell_set (p := ⟨B, 7, none⟩) (hF7.cell (cell_alloc g1 (.cells #[.int .i64 rk, .int .u64 (rn : Int), .slice ya yn yc] 99)) id) hAB (.slice za zn zc)
      replace g2 := cell_set (p := ⟨B, 7, none⟩) (hF7.cell (cell_alloc g2 (.cells #[.int .i64 rk, .int .u64 (rn : Int), .slice ya yn yc] 99)) id) hAB (.slice za zn zc)
      replace g3 := cell_set (p := ⟨B, 7, none⟩) (hF7.cell (cell_alloc g3 (.cells #[.int .i64 rk, .int .u64 (rn : Int), .slice ya yn yc] 99)) id) hAB (.slice za zn zc)
      replace g4 := cell_set (p := ⟨B, 7, none⟩) (hF7.cell (cell_alloc g4 (.cells #[.int .i64 rk, .int .u64 (rn : Int), .slice ya yn yc] 99)) id) hAB (.slice za zn zc)
      have q0 : (w7.setCell ⟨B, 7, none⟩ (.slice za zn zc)).cell? ⟨w5.heap.size, 0, none⟩ = some (.int .i64 rk) := cell_set (hF7.cell (cell_new _ _ _ _) id) hGB _
      have q1 : (w7.setCell ⟨B, 7, none⟩ (.slice za zn zc)).cell? ⟨w5.heap.size, 1, none⟩ = some (.int .u64 (rn : Int)) := cell_set (hF7.cell (cell_new _ _ _ _) id) hGB _
      have q2 : (w7.setCell ⟨B, 7, none⟩ (.slice za zn zc)).cell? ⟨w5.heap.size, 2, none⟩ = some (.slice ya yn yc) := cell_set (hF7.cell (cell_new _ _ _ _) id) hGB _
      have hs58 : w5.heap.size < w7.heap.size := by have := hF7.size; simp at this; omega
      have hd8 := HHD6.out.keep (k8.frame.same fun k hk => hW6.hD k hk)
      have HHD8 := Lib.hid hd8; clear hd8
      clear hf6 hF7 hf7 ho7 hri hbr6 b7 hE6 hNS6 hW6 hE5 k8 hEA hNSA HHD6
      go_wp2_with fail
      clear cB7 fB7
      have hs8 : w5.heap.size < (w7.setCell ⟨B, 7, none⟩ (.slice za zn zc)).heap.size := by simp only [World.size_setCell]; omega
      generalize (w7.setCell ⟨B, 7, none⟩ (.slice za zn zc)) = w8 at *
      have hW8 := hNS8.run.wr
      have e3 := hE8.cells.2.2.2
      have u0 := (unit_cells hNS8.unit).1
      have hrow8 := hE8.row
      have hnE : ¬ fv.ownBlock = some E := fun e => (hE8.apartR E e).1 rfl
      have hnA : ¬ fv.ownBlock = some wr.heap.size := fun e => by have := (hE2.row.lt _ e).2; omega
      have hnG : ¬ fv.ownBlock = some w5.heap.size := fun e => by have := (hE2.row.lt _ e).2; omega
      have hnU : ¬ fv.ownBlock = some w.heap.size := fun e => by have := (hrow8.lt _ e).1; omega
      have HnE := Lib.hid hnE; have HnA := Lib.hid hnA; have HnG := Lib.hid hnG; have HnU := Lib.hid hnU
      clear hnE hnA hnG hnU
      obtain ⟨fa, fc, hfv⟩ := ownsRow_shape hrow8
      have hpl : ps.length ≤ 1000000 := by
        have h1 : ps.length = fs2.length := by rw [← hps]; simp
        have h2 := congrArg (fun x => x.2.length) HS2.out
        simp only [attrsS_len, List.length_take] at h2
        omega
      rw [hfv] at e3 hrow8
      have HFV := Lib.hid hfv; clear hfv
      refine wp_region_seq (fun k => fv.ownBlock = some k) 13 [(0, true), (1, true), (2, true), (3, true), (4, true), (5, true), (6, true), (8, true), (7, false), (9, true), (10, false), (11, false), (12, true), (13, false)] (by kernel_rfl) (by kernel_rfl) (fun _ _ _ d _ h => by cases d <;> exact h) ?_
      simp only [pickB, List.getElem?_toArray, List.getElem?_cons_zero, List.getElem?_cons_succ, Option.getD_some, Bool.false_eq_true, ↓reduceIte, Nat.reduceLT]
      iterate 8
        refine seq_val (v := ?_) (fun w' hX => ?_) ?_
        rotate_left
        · have x0 := hX.cell e3 HnE.out; have x1 := hX.cell g0 HnA.out; have x2 := hX.cell g1 HnA.out; have x3 := hX.cell g2 HnA.out; have x4 := hX.cell g3 HnA.out; have x5 := hX.cell g4 HnA.out; have x6 := hX.cell u0 HnU.out; have x7 := hX.cell q0 HnG.out; have x8 := hX.cell q1 HnG.out; have x9 := hX.cell q2 HnG.out; clear hX; go_simp; try with_reducible rfl
        try simp only [Act.put, List.setIfInBounds_toArray, List.set_cons_zero, List.set_cons_succ]
      refine seq_new (fun KK hK => ?_)
      go_wp2_with fail
      (with_reducible refine (classOf_any A _ _ u.version _ ha1 ha2).mono ?_)
      rintro e w9 ⟨rfl, hf9⟩
      have hF9 : Frame no w8 w9 := ((Frame.refl no w8).drew).trans hf9 (fun _ h => h.elim)
      go_wp2_with fail
      refine ⟨Frame.of_no hf9, ?_⟩
      iterate 1
        refine seq_val (v := ?_) (fun w' hX => ?_) ?_
        rotate_left
        · clear hX; go_simp; try with_reducible rfl
        try simp only [Act.put, List.setIfInBounds_toArray, List.set_cons_zero, List.set_cons_succ]
      refine seq_new (fun _ _ => ?_)
      go_wp2_with fail
      refine ⟨(Frame.refl _ _).alloc _, ?_⟩
      refine seq_new (fun KK hK => ?_)
      have hro := ownsRow_keep hrow8 (w' := w9.alloc (.cells #[.int .u32 (A.attr : Int), .int .i64 (classF A.attr A.form u.version), .int .i64 rk, .int .u64 (rn : Int), .slice ya yn yc] 101)) (fun k hk => (hF9.alloc _).block k (hrow8.lt k hk).2 id)
      refine wp_app_any info101 underlying94 rfl (by decide) _ _ rfl (w.heap.size + 2) (.slice fa ps.length fc) ps.length (ps.flatMap fieldC) rfl hro (fun k => k = w9.heap.size) ⟨w9.heap.size, 0, none⟩ 1 1 [.int .u32 (A.attr : Int), .int .i64 (classF A.attr A.form u.version), .int .i64 rk, .int .u64 (rn : Int), .slice ya yn yc] rfl (Sl.laidAt rfl rfl (by decide)) (by intro y hy; simp at hy; rcases hy with rfl | rfl | rfl | rfl | rfl <;> rfl) (by unfold maxLen; omega) (by omega) (by have := hF9.size; have := block_lt hNS8.node; simp only [World.size_alloc]; omega) (fun v' w10 p1 p2 p4 => ?_)
      obtain ⟨va, vc, rfl⟩ := ownsRow_shape p1
      have hg10 : Frame (fun k => fv.ownBlock = some k) w8 w10 := ((Frame.of_no hF9).alloc _).grown p2 (fun k hk => .inl (by rw [HFV.out]; exact hk))
      have cE10 := hg10.cell e3 HnE.out
      have fE10 : w10.frozen? ⟨E, 3, none⟩ = false := (hg10.frozen e3 HnE.out).trans (by simp [World.frozen?, hE8.blk])
      refine hK _ _ ⟨(Frame.refl _ _).grown p2 (fun k hk => .inl (by rw [HFV.out]; exact hk)), ?_⟩
      try simp only [Act.put, List.setIfInBounds_toArray, List.set_cons_zero, List.set_cons_succ]
      iterate 1
        refine seq_val (v := ?_) (fun w' hX => ?_) ?_
        rotate_left
        · clear hX; go_simp; try with_reducible rfl
        try simp only [Act.put, List.setIfInBounds_toArray, List.set_cons_zero, List.set_cons_succ]
      refine seq_out (fun KK hK => ?_)
      go_wp2_with fail
      refine seq_nil ?_
      have hTf : Frame (fun k => fv.ownBlock = some k ∨ k = E) w8 (w10.setCell ⟨E, 3, none⟩ (.slice va (ps.length + 1) vc)) :=
        (hg10.mono fun k hk => .inl (.inl hk)).trans ((Frame.refl (fun k => k = E) w10).setCell (p := ⟨E, 3, none⟩) (.inl rfl) _) fun k hk => .inl (.inr hk)
      have hNS9 := hNS8.beside hTf fun k hk _ => hk.elim (fun e => ⟨(hE8.row.lt k e).1, (hE8.apartR k e).2⟩) fun e => by subst e; exact ⟨hE8.lt.1, hE8.apartE⟩
      have hE9 := hE8.push (f := ⟨A.attr, classF A.attr A.form u.version, rk, rn, rd⟩) hW8 hg10 (fun k hk => by rw [HFV.out]; exact (p4.or k hk).imp id fun e => by have := hF9.size; simp only [World.size_alloc] at e; omega) p1 HHD8.out
      clear hTf hg10 cE10 fE10 p1 p2 p4 hro hrow8 e3 g0 g1 g2 g3 g4 q0 q1 q2 u0 hF9 hf9
      go_wp2_with fail
      go_roundw
      case rel =>
        refine ⟨k + 1, ({ V3 with info := .slice za zn zc } : WV), .slice va (ps.length + 1) vc, ps ++ [(⟨A.attr, classF A.attr A.form u.version, rk, rn, rd⟩, .slice ya yn yc)], by omega, by go_num, ?_, ?_, ?_⟩
        rotate_left 1
        · rw [HTK.out]; dsimp only; rw [← HINF.out]; exact hE9
        · rw [HTK.out]; simp [hps]
        · rw [HTK.out]; dsimp only; rw [← HINF.out]; exact hNS9
      case measure => simp [intOf]; omega
    · have HT := Lib.hid (show nd.attrs.take k = nd.attrs from List.take_of_length_le (by omega))
      go_wp2_with fail
      go_meet
      case rel =>
        rw [HT.out] at hNS2 hE2 hps
        exact ⟨_, V2, fv, ps, rfl, hNS2, hE2, hps⟩
  case rest =>
  clear hNS hE n0 n1 n2 n3
  obtain ⟨w20, V2, fv, ps, rfl, hNS, hE, hps⟩ := hcut
  have hhead : headF u.version u.wide u.address.toNat ls nd st = { (attrsS u nd.attrs st1).1 with due := (attrsS u nd.attrs st1).1.due ++ [{ off := off, tag := nd.tag, children := chn, fields := (attrsS u nd.attrs st1).2 }] } := by
    rw [HST1.out, ← HOFF.out, ← HCHN.out, ← HCD.out, ← HS0.out]; rfl
  have HHEAD := Lib.hid hhead; clear hhead
  have hsmA := HSK.out nd.attrs.length
  rw [List.take_length] at hsmA
  generalize hS2 : attrsS u nd.attrs st1 = S2 at *
  have HS2 := Lib.hid hS2; clear hS2
  obtain ⟨st2, fs2⟩ := S2
  dsimp only at hNS hE hps hsmA
  have hW20 := hNS.run.wr
  have b13 : w20.cell? ⟨B, 13, none⟩ = some V2.due := hW20.cell 13
  obtain ⟨e0, e1, e2, e3⟩ := hE.cells
  obtain ⟨n0, n1, n2, n3⟩ := hNS.cells
  have u8 := (unit_cells hNS.unit).2.2.2.2.2.2.2.2.1
  rw [HTY.out] at u8
  have hrow : w20.ownsRow base 96 4 V2.due V2.es.length (V2.es.flatMap entC) := hW20.rows.own ⟨V2.due, 96, 4, V2.es.length, V2.es.flatMap entC⟩ (by simp)
  have hnb : V2.due.ownBlock ≠ some B := hW20.rows.notB ⟨V2.due, 96, 4, V2.es.length, V2.es.flatMap entC⟩ (by simp)
  have hne : V2.due.ownBlock ≠ some E := fun e => hE.apartE.1 (.inr ⟨⟨V2.due, 96, 4, V2.es.length, V2.es.flatMap entC⟩, by simp, e⟩)
  have hell : V2.es.length ≤ 50000000 := by
    have h1 : V2.es.length = st2.due.length := by rw [← hW20.due]; simp
    have := hsmA.due; omega
  obtain ⟨oa, oc, hov⟩ := ownsRow_shape hrow
  obtain ⟨fa, fc, hfv⟩ := ownsRow_shape hE.row
  rw [hov] at b13 hrow hnb hne
  have HOV := Lib.hid hov; clear hov
  have HFV := Lib.hid hfv; clear hfv
  have HN1 := Lib.hid hne; clear hne
  have HN2 := Lib.hid hnb; clear hnb
  go_wp2_with fail
  refine wp_region_seq (fun k => (Value.slice oa V2.es.length oc).ownBlock = some k) 10 [(0, true), (1, true), (2, true), (3, true), (4, true), (5, true), (6, false), (7, false), (8, false), (9, true), (10, false)] (by kernel_rfl) (by kernel_rfl) (fun _ _ _ d _ h => by cases d <;> exact h) ?_
  simp only [pickB, List.getElem?_toArray, List.getElem?_cons_zero, List.getElem?_cons_succ, Option.getD_some, Bool.false_eq_true, ↓reduceIte, Nat.reduceLT]
  iterate 6
    refine seq_val (v := ?_) (fun w' hX => ?_) ?_
    rotate_left
    · have x0 := hX.cell b13 HN2.out; have x1 := hX.cell e0 HN1.out; have x2 := hX.cell e1 HN1.out; have x3 := hX.cell e2 HN1.out; have x4 := hX.cell e3 HN1.out; clear hX; go_simp; try with_reducible rfl
    try simp only [Act.put, List.setIfInBounds_toArray, List.set_cons_zero, List.set_cons_succ]
  refine seq_new (fun _ _ => ?_)
  go_wp2_with fail
  refine ⟨(Frame.refl _ _).alloc _, ?_⟩
  refine seq_new (fun KK hK => ?_)
  have hro := ownsRow_keep hrow (w' := (w20.alloc (.cells #[.int .u32 (off : Int), .int .u32 (nd.tag : Int), .bool chn, fv] 96)).drew) (fun k hk => ((Frame.refl no w20).alloc _ |>.drew).block k (hrow.lt k hk).2 id)
  refine wp_app_any info96 underlying39 rfl (by decide) _ _ rfl base (.slice oa V2.es.length oc) V2.es.length (V2.es.flatMap entC) rfl hro (fun k => k = w20.heap.size) ⟨w20.heap.size, 0, none⟩ 1 1 [.int .u32 (off : Int), .int .u32 (nd.tag : Int), .bool chn, fv] rfl (Sl.laidAt rfl rfl (by decide)) (by intro y hy; simp at hy; rcases hy with rfl | rfl | rfl | rfl <;> first | rfl | (rw [HFV.out]; rfl)) (by unfold maxLen; omega) (by omega) (by have := hW20.hb; have := hW20.lt; simp only [World.size_alloc, World.size_drew]; omega) (fun v' w21 p1 p2 p4 => ?_)
  obtain ⟨va, vc, rfl⟩ := ownsRow_shape p1
  have hg21 : Frame (fun k => V2.due.ownBlock = some k) w20 w21 := ((Frame.refl _ w20).alloc _ |>.drew).grown p2 (fun k hk => .inl (by rw [HOV.out]; exact hk))
  have cB21 := hg21.cell b13 (by rw [HOV.out]; exact HN2.out)
  have fB21 : w21.frozen? ⟨B, 13, none⟩ = false := (hg21.frozen b13 (by rw [HOV.out]; exact HN2.out)).trans (hW20.frozen 13)
  refine hK _ _ ⟨(Frame.refl _ _).grown p2 (fun k hk => .inl hk), ?_⟩
  try simp only [Act.put, List.setIfInBounds_toArray, List.set_cons_zero, List.set_cons_succ]
  refine seq_new (fun _ _ => ?_)
  go_wp2_with fail
  refine ⟨Frame.refl _ _, ?_⟩
  iterate 1
    refine seq_val (v := ?_) (fun w' hX => ?_) ?_
    rotate_left
    · clear hX; go_simp; try with_reducible rfl
    try simp only [Act.put, List.setIfInBounds_toArray, List.set_cons_zero, List.set_cons_succ]
  refine seq_out (fun KK hK => ?_)
  go_wp2_with fail
  refine seq_nil ?_
  have hml : ∀ k, (Value.slice va (V2.es.length + 1) vc).ownBlock = some k → V2.due.ownBlock = some k ∨ w20.heap.size ≤ k := fun k hk => (p4.or k hk).imp (fun e => by rw [HOV.out]; exact e) fun h => by simp only [World.size_alloc, World.size_drew] at h; omega
  have hXX : ∀ k, fv.ownBlock = some k → w.heap.size + 2 ≤ k ∧ k < w21.heap.size ∧ ¬ V2.S st2 B k ∧ (Value.slice va (V2.es.length + 1) vc).ownBlock ≠ some k := fun k hk => by
    have h1 := hE.row.lt k hk
    have h2 := (hE.apartR k hk).2
    refine ⟨h1.1, Nat.lt_of_lt_of_le h1.2 hg21.size, h2.1, fun e => ?_⟩
    rcases hml k e with e1 | e1
    · exact h2.1 (.inr ⟨⟨V2.due, 96, 4, V2.es.length, V2.es.flatMap entC⟩, by simp, e1⟩)
    · omega
  have hS20 : Same (fun k => V2.D k ∨ fv.ownBlock = some k) w20 w21 := hg21.same fun k hk => by
    rcases hk with hk | hk
    · exact ⟨(hW20.hD k hk).1, fun e => (hW20.hD k hk).2 (.inr ⟨⟨V2.due, 96, 4, V2.es.length, V2.es.flatMap entC⟩, by simp, e⟩)⟩
    · exact ⟨(hE.row.lt k hk).2, fun e => (hE.apartR k hk).2.1 (.inr ⟨⟨V2.due, 96, 4, V2.es.length, V2.es.flatMap entC⟩, by simp, e⟩)⟩
  have hNS22 := hNS.due (e := ⟨off, nd.tag, chn, fs2⟩) (fv := fv) (X := fun k => fv.ownBlock = some k) hg21 (p4.imp (fun e => by rw [HOV.out]; exact e) fun h k hk => by have := h k hk; simp only [World.size_alloc, World.size_drew] at this; omega) p1 (by have := hE.fields.keep hS20; rw [hps] at this; exact this) hXX
  have hEc : (w21.setCell ⟨B, 13, none⟩ (.slice va (V2.es.length + 1) vc)).cell? ⟨E, 2, none⟩ = some (.bool chn) := cell_set (hg21.cell e2 (by rw [HOV.out]; exact HN1.out)) (fun e => hE.apartE.1 (.inl e)) _
  have hEl : E < (w21.setCell ⟨B, 13, none⟩ (.slice va (V2.es.length + 1) vc)).heap.size := cell_lt hEc
  obtain ⟨V3, st3, hst3, hNS3, hEa⟩ : ∃ V3 st3, st3 = headF u.version u.wide u.address.toNat ls nd st ∧ NodeSt base B w V st u ux kx nd.tag (.slice a nd.attrs.length cap) (.slice ka nd.kids.length kc) nd.opn V3 st3 (w21.setCell ⟨B, 13, none⟩ (.slice va (V2.es.length + 1) vc)) ∧ (¬ V3.S st3 B E ∧ ¬ V3.D E) := by
    refine ⟨_, _, rfl, by rw [HHEAD.out]; exact hNS22, ?_⟩
    rw [HHEAD.out]
    refine ⟨fun e => ?_, fun e => e.elim hE.apartE.2 fun e => (hE.apartR E e).1 rfl⟩
    rcases e with e | ⟨r, hr, hk⟩
    · exact hE.apartE.1 (.inl e)
    · simp only [WV.rows, List.mem_cons, List.not_mem_nil, or_false] at hr
      by_cases hd : r = ⟨.slice va (V2.es.length + 1) vc, 96, 4, (V2.es ++ [((⟨off, nd.tag, chn, fs2⟩ : EntryD), fv)]).length, (V2.es ++ [((⟨off, nd.tag, chn, fs2⟩ : EntryD), fv)]).flatMap entC⟩
      · subst hd
        rcases hml E hk with e1 | e1
        · rw [HOV.out] at e1; exact HN1.out e1
        · have := hE.lt.2; omega
      · refine hE.apartE.1 (.inr ⟨r, ?_, hk⟩)
        simp only [WV.rows, List.mem_cons, List.not_mem_nil, or_false]
        rcases hr with h | h | h | h | h | h | h | h | h | h | h | h <;> first | exact absurd h hd | simp [h]
  clear hNS22 hNS hE hXX hS20 hml hW20 b13 e0 e1 e2 e3 n0 n1 n2 n3 u8 hrow HN1 HN2 HOV HFV hg21 cB21 fB21 p1 p2 p4 hro hps hell HHEAD HS2
  generalize (w21.setCell ⟨B, 13, none⟩ (.slice va (V2.es.length + 1) vc)) = w22 at *
  have hsm3 : Small st3 (N + (12 + growAs nd.attrs)) := by rw [hst3]; exact headF_small _ _ _ had8 _ _ _ _ (by omega) HB.out.1 hSm (by omega)
  have HST3 := Lib.hid hst3; clear hst3
  obtain ⟨n0, n1, n2, n3⟩ := hNS3.cells
  go_upto_block 4 with fail
  go_cut [18, 128] (fun _ _ wx => ∃ (w30 : World) (V4 : WV), w30 = wx ∧ NodeSt base B w V st u ux kx nd.tag (.slice a nd.attrs.length cap) (.slice ka nd.kids.length kc) nd.opn V4 (kidsF u.version u.wide u.address.toNat ls nd.kids st3) wx ∧ wx.cell? ⟨E, 2, none⟩ = some (.bool chn))
  case first =>
    go_wp2_with fail
    go_loopw [18, 128] (fun _ i wr => ∃ (k : Nat) (V4 : WV), k ≤ nd.kids.length ∧ i = .int .i64 k ∧ NodeSt base B w V st u ux kx nd.tag (.slice a nd.attrs.length cap) (.slice ka nd.kids.length kc) nd.opn V4 (kidsF u.version u.wide u.address.toNat ls (nd.kids.take k) st3) wr ∧
      wr.cell? ⟨E, 2, none⟩ = some (.bool chn) ∧ ¬ V4.S (kidsF u.version u.wide u.address.toNat ls (nd.kids.take k) st3) B E ∧ ¬ V4.D E) (fun _ i _ => nd.kids.length - (intOf i).toNat)
    case atStart => exact ⟨0, V3, Nat.zero_le _, rfl, hNS3, hEc, hEa⟩
    case round =>
    clear hNS3 hEc hEl hEa n0 n1 n2 n3
    obtain ⟨k, V4, hk', rfl, hNS4, hEc, hEa⟩ := hrel
    by_cases hlt : k < nd.kids.length
    · obtain ⟨b, o, ka1, kn1, kb1, kc1, rfl, hb, g0, g1, g2, g3, hNk⟩ := HKD.out k hlt
      have HTK := Lib.hid (kidsF_take u.version u.wide u.address.toNat ls nd.kids k hlt st3)
      have hc1 := costL_take nd.kids k hlt
      have hc2 := costL_take_le nd.kids (k + 1)
      have hbk := (AllL_iff _ _).1 HB.out.2
      have hsm4 := kidsF_small u.version u.wide u.address.toNat had8 ls (by omega) (nd.kids.take k) st3 _ ((AllL_iff _ _).2 fun x hx => hbk x (List.mem_of_mem_take hx)) hsm3 (by omega)
      have hbk1 := hbk nd.kids[k] (List.getElem_mem hlt)
      have hav1 := (AllL_iff _ _).1 HAVk.out nd.kids[k] (List.getElem_mem hlt)
      clear hbk
      generalize hS4 : kidsF u.version u.wide u.address.toNat ls (nd.kids.take k) st3 = st4 at *
      have HS4 := Lib.hid hS4; clear hS4
      generalize hkd : nd.kids[k] = kd at *
      have HKDk := Lib.hid hkd; clear hkd
      have hW4 := hNS4.run.wr
      have hfr := hNS4.run.frame
      replace g0 := hfr.cell g0 (HKW.out b hb).2
      replace g1 := hfr.cell g1 (HKW.out b hb).2
      replace g2 := hfr.cell g2 (HKW.out b hb).2
      replace g3 := hfr.cell g3 (HKW.out b hb).2
      have hK4 : ∀ k, K k → V4.D k := fun k h => hNS4.run.lessD k (hKD k h)
      have hfa : Frame no wr (wr.alloc (.cells #[.int .u32 (kd.tag : Int), .slice ka1 kd.attrs.length kn1, .bool kd.opn, .slice kb1 kd.kids.length kc1] 28)) := (Frame.refl _ _).alloc _
      have hNka := (hNk.keep (hfr.same HKW.out)).keep (hfa.same fun k h => ⟨(hW4.hD k (hK4 k h)).1, id⟩)
      have hNSa := hNS4.same hfa
      have hLa : Rds KL (wr.alloc (.cells #[.int .u32 (kd.tag : Int), .slice ka1 kd.attrs.length kn1, .bool kd.opn, .slice kb1 kd.kids.length kc1] 28)) (.slice la ls.length lcap) ls := (hL.keep (hfr.same fun k hk => hKL k hk)).keep (hfa.same fun k hk => ⟨Nat.lt_of_lt_of_le (hKL k hk).1 hfr.size, id⟩)
      have hKLa : ∀ k, KL k → k < (wr.alloc (.cells #[.int .u32 (kd.tag : Int), .slice ka1 kd.attrs.length kn1, .bool kd.opn, .slice kb1 kd.kids.length kc1] 28)).heap.size ∧ ¬ V4.S st4 B k := fun k hk => ⟨by have := (hKL k hk).1; have := hfr.size; simp; omega, fun e => (hNS4.run.more k e).elim (hKL k hk).2 fun e => by have := (hKL k hk).1; omega⟩
      obtain ⟨u0, u1, u2, u3, u4, u5, u6, u7, u8, u9, u10⟩ := unit_cells hNSa.unit
      have hEl := cell_lt hEc
      have hbk2 : NodeB kd := hbk1
      clear hNk
      go_wp2_with fail
      (with_reducible refine (IH.out K KL base B (kd, .slice ka1 kd.attrs.length kn1, .slice kb1 kd.kids.length kc1) _ V4 st4 _ hNSa.run.wr hNka hK4 hLa hKLa hbk2 hav1 hsm4 (by dsimp only; omega)).mono ?_)
      rintro e w5 ⟨rfl, V5, hto⟩
      have hNS5 := hNSa.go hto
      have hEc5 := hto.frame.cell (cell_alloc hEc _) hEa.1
      have hEa5 := hto.apart (k := E) (by simp; omega) hEa
      clear u0 u1 u2 u3 u4 u5 u6 u7 u8 u9 u10 g0 g1 g2 g3 hNka hLa hKLa
      go_wp2_with fail
      go_roundw
      case rel =>
        refine ⟨k + 1, V5, by omega, by go_num, ?_, hEc5, ?_⟩
        · rw [HTK.out]; exact hNS5
        · rw [HTK.out]; exact hEa5
      case measure => simp [intOf]; omega
    · have HT := Lib.hid (show nd.kids.take k = nd.kids from List.take_of_length_le (by omega))
      go_wp2_with fail
      go_meet
      case rel =>
        rw [HT.out] at hNS4
        exact ⟨_, V4, rfl, hNS4, hEc⟩
  case rest =>
  clear hNS3 hEc hEl hEa n0 n1 n2 n3
  obtain ⟨w30, V4, rfl, hNS, hEc⟩ := hcut
  have hbk := (AllL_iff _ _).1 HB.out.2
  have hsm4 := kidsF_small u.version u.wide u.address.toNat had8 ls (by omega) nd.kids st3 _ ((AllL_iff _ _).2 hbk) hsm3 (by omega)
  clear hbk
  generalize hS4 : kidsF u.version u.wide u.address.toNat ls nd.kids st3 = st4 at *
  have HS4 := Lib.hid hS4; clear hS4
  have hfin : nodeF u.version u.wide u.address.toNat ls nd st = tailF nd st4 := by rw [HNF.out, ← HST3.out, HS4.out]
  have HFIN := Lib.hid hfin; clear hfin
  have hW30 := hNS.run.wr
  cases chn
  · go_wp2_with fail
    go_end0
    refine ⟨rfl, V4, ?_⟩
    rw [HFIN.out]; unfold tailF; rw [HCHN.out, if_neg (by decide)]
    exact hNS.run
  · have b7 : w30.cell? ⟨B, 7, none⟩ = some V4.info := hW30.cell 7
    have hri : Own w30 base V4.info st4.info := ⟨hW30.rows.own (rowB V4.info st4.info) (by simp), hW30.ok.info⟩
    have hnb : V4.info.ownBlock ≠ some B := hW30.rows.notB (rowB V4.info st4.info) (by simp)
    have hil : st4.info.length ≤ 50000000 := by have := hsm4.info; omega
    obtain ⟨ia, ic, hiv⟩ := hri.shape
    rw [hiv] at b7 hri hnb
    have HIV := Lib.hid hiv; clear hiv
    have HNBB := Lib.hid hnb; clear hnb
    have hB30 := hW30.lt
    have hbB := hW30.hb
    go_upto_region 27 with (at_builtin; refine app5 rfl _ _ rfl rfl (hri.alloc _) rfl (Rd.one w30 0 5 rfl (by decide)) (by simp; omega) (by simp; omega) ?_; intro v' w31 ho hg _ hm; obtain ⟨xa, xc, rfl⟩ := ho.shape; have hg31 : Frame (fun k => (Value.slice ia st4.info.length ic).ownBlock = some k) w30 w31 := ((Frame.refl _ w30).alloc _).grown hg (fun k hk => .inl hk); have cB31 := hg31.cell b7 HNBB.out; have fB31 : w31.frozen? ⟨B, 7, none⟩ = false := (hg31.frozen b7 HNBB.out).trans (hW30.frozen 7))
    have k32 := (WrTo.refl hW30).infoApp (l := st4.info ++ [0]) (by rw [HIV.out]; exact hg31) ho (by rw [HIV.out]; exact hm.imp id fun h k hk => by have := h k hk; simp only [World.size_alloc] at this; omega)
    have hl32 : (st4.info ++ [0]).length = st4.info.length + 1 := by simp
    rw [hl32] at k32
    clear hl32
    have hNS32 := hNS.go k32
    clear k32 hg31 cB31 fB31 ho hg hm hNS hri b7
    generalize (w31.setCell ⟨B, 7, none⟩ (.slice xa (st4.info.length + 1) xc)) = w32 at *
    have hW32 := hNS32.run.wr
    have u8 := (unit_cells hNS32.unit).2.2.2.2.2.2.2.2.1
    rw [HTY.out] at u8
    have b13 : w32.cell? ⟨B, 13, none⟩ = some V4.due := hW32.cell 13
    have hrow : w32.ownsRow base 96 4 V4.due V4.es.length (V4.es.flatMap entC) := hW32.rows.own ⟨V4.due, 96, 4, V4.es.length, V4.es.flatMap entC⟩ (by simp)
    have hnb : V4.due.ownBlock ≠ some B := hW32.rows.notB ⟨V4.due, 96, 4, V4.es.length, V4.es.flatMap entC⟩ (by simp)
    have hell : V4.es.length ≤ 50000000 := by
      have h1 : V4.es.length = st4.due.length := by rw [← hW30.due]; simp
      have := hsm4.due; omega
    obtain ⟨oa, oc, hov⟩ := ownsRow_shape hrow
    rw [hov] at b13 hrow hnb
    have HOV := Lib.hid hov; clear hov
    have HN2 := Lib.hid hnb; clear hnb
    have hB32 := hW32.lt
    go_wp2_with (at_builtin; refine app_any info96 underlying39 rfl (by decide) rfl _ _ rfl base (.slice oa V4.es.length oc) V4.es.length (V4.es.flatMap entC) rfl (hrow.alloc _) (fun k => k = w32.heap.size) (.slice (some ⟨w32.heap.size, 0, none⟩) 1 1) 1 [.int .u32 0, .int .u32 0, .bool false, .slice none 0 0] rfl (Sl.laid w32 [.int .u32 0, .int .u32 0, .bool false, .slice none 0 0] 4 1 96 rfl (by decide)) (by intro y hy; simp at hy; rcases hy with rfl | rfl | rfl <;> rfl) (by unfold maxLen; omega) (by omega) (by simp; omega) ?_; intro v' w33 ho hg _ hm; obtain ⟨xb, xd, rfl⟩ := ownsRow_shape ho; have hg33 : Frame (fun k => (Value.slice oa V4.es.length oc).ownBlock = some k) w32 w33 := ((Frame.refl _ w32).alloc _).grown hg (fun k hk => .inl hk); have cB33 := hg33.cell b13 HN2.out; have fB33 : w33.frozen? ⟨B, 13, none⟩ = false := (hg33.frozen b13 HN2.out).trans (hW32.frozen 13))
    have k34 := hNS32.due (e := ⟨0, 0, false, []⟩) (fv := nilS) (X := no) (by rw [HOV.out]; exact hg33) (by rw [HOV.out]; exact hm.imp id fun h k hk => by have := h k hk; simp only [World.size_alloc] at this; omega) ho (fieldsAt_nil _ _) (fun k hk => False.elim hk)
    go_end0
    rw [HFIN.out]; unfold tailF; rw [HCHN.out, if_pos rfl]
    exact ⟨rfl, _, k34.run⟩

end Go.Proofs.YtklcoppfkfenfaaGreatDoor
