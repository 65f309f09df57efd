/-
  A region that draws its order, walked along a tree: where two operations may come next, both are walked. Words for the walk of the writer's unit. Plain law: what the writer's node leaves as it was. Slices of bytes that are cut: what they read as, as one equation for the walk.
-/
import Derived.Test.YtklcoppfkfenfaaGreatDoorFP06
import Derived.Test.YtklcoppfkfenfaaGreatDoorFP16
import Derived.Test.YtklcoppfkfenfaaGreatDoorFP12
import Derived.Test.YtklcoppfkfenfaaGreatDoorFP03
set_option linter.all false
set_option linter.unusedVariables false
set_option linter.unusedSimpArgs false
namespace Go.Proofs.YtklcoppfkfenfaaGreatDoor
set_option maxRecDepth 100000
open Go Go.RowKit

section
variable {P : Program} {ops : Array Oper} {Q : Exit → Act → World → Prop} {n0 : Nat} {S0 : Bs}

inductive Ord (α : Type) where
  | done
  | fst (i : α) (r : Ord α)
  | only (i : α) (r : Ord α)
  | two (i : α) (r : Ord α) (j : α) (s : Ord α)
def Ord.len {α : Type} : Ord α → Nat
  | .done => 0
  | .fst _ r => r.len + 1
  | .only _ r => r.len + 1
  | .two _ r _ _ => r.len + 1
def ordT (ops : Array Oper) (n0 : Nat) : Ord Nat → Array Bool → Bool
  | .done, listed => Region.ready .any ops listed == []
  | .fst i r, listed => decide (i < n0) && ((Region.ready .any ops listed).contains i && (Region.free .any ops listed i && (tailW ops n0 i && ordT ops n0 r (listed.setIfInBounds i true))))
  | .only i r, listed => Region.ready .any ops listed == [i] && ordT ops n0 r (listed.setIfInBounds i true)
  | .two i r j s, listed => r.len == s.len && (Region.ready .any ops listed == [i, j] && (ordT ops n0 r (listed.setIfInBounds i true) && ordT ops n0 s (listed.setIfInBounds j true)))
def wpTree (P : Program) (ops : Array Oper) (Q : Exit → Act → World → Prop) (S0 : Bs) (n0 : Nat) : Ord Nat → Act → World → Prop
  | .done, a, w => Q .normal a w
  | .fst i r, a, w => ∃ o v, ops[i]? = some o ∧ YieldsIf P ops (Frame S0 w) o v a ∧ wpTree P ops Q S0 n0 r (a.put o.dst v) w
  | .only i r, a, w => wpOp P ops Q i (fun a' w' => (n0 ≤ i ∨ Frame S0 w w') ∧ wpTree P ops Q S0 n0 r a' w') a w
  | .two i r j s, a, w => wpOp P ops Q i (fun a' w' => (n0 ≤ i ∨ Frame S0 w w') ∧ wpTree P ops Q S0 n0 r a' w') a w ∧ wpOp P ops Q j (fun a' w' => (n0 ≤ j ∨ Frame S0 w w') ∧ wpTree P ops Q S0 n0 s a' w') a w

theorem T_of_tree (hsel : Region.noSelect ops = true) (hQ : ∀ c a w d v, Q (.panic c) (Act.put a d v) w → Q (.panic c) a w) : ∀ (l : Ord Nat) (listed : Array Bool) (a : Act) (w : World),
    ordT ops n0 l listed = true → wpTree P ops Q S0 n0 l a w → anyT P ops Q S0 n0 l.len listed a w
  | .done, listed, a, w, hB, h => ⟨by simpa [ordT] using hB, h⟩
  | .fst i r, listed, a, w, hB, h => by
    obtain ⟨o, v, ho, hy, h⟩ := h
    simp only [ordT, Bool.and_eq_true, decide_eq_true_eq] at hB
    obtain ⟨h1, h2, h3, h4, h5⟩ := hB
    exact T_first ho hsel (fun c a w h => hQ c a w o.dst v h) h1 h4 r.len listed a w (Region.free_spec ho h3) (by simpa using h2) hy (T_of_tree hsel hQ r _ _ _ h5 h)
  | .only i r, listed, a, w, hB, h => by
    simp only [ordT, Bool.and_eq_true, beq_iff_eq] at hB
    obtain ⟨h1, h2⟩ := hB
    refine ⟨fun h0 => absurd (h1.symm.trans h0) (by simp), fun j hj => ?_⟩
    rw [h1] at hj
    obtain rfl : j = i := by simpa using hj
    exact wpOp_mono (fun a' w' h3 => ⟨h3.1, T_of_tree hsel hQ r _ a' w' h2 h3.2⟩) h
  | .two i r j s, listed, a, w, hB, h => by
    simp only [ordT, Bool.and_eq_true, beq_iff_eq] at hB
    obtain ⟨h0, h1, h2, h3⟩ := hB
    refine ⟨fun h0 => absurd (h1.symm.trans h0) (by simp), fun k hk => ?_⟩
    rw [h1] at hk
    simp only [List.mem_cons, List.not_mem_nil, or_false] at hk
    rcases hk with rfl | rfl
    · exact wpOp_mono (fun a' w' h4 => ⟨h4.1, T_of_tree hsel hQ r _ a' w' h2 h4.2⟩) h.1
    · refine wpOp_mono (fun a' w' h4 => ⟨h4.1, ?_⟩) h.2
      have := T_of_tree hsel hQ s _ a' w' h3 h4.2
      rwa [← h0] at this

def wpSeqT (P : Program) (ops : Array Oper) (Q : Exit → Act → World → Prop) (S0 : Bs) : Ord (Oper × Bool) → Act → World → Prop
  | .done, a, w => Q .normal a w
  | .fst o r, a, w => ∃ v, (∀ w', Frame S0 w w' → (execOp a.eval o.1).run P w' = .ok (.value v) w') ∧ wpSeqT P ops Q S0 r (a.put o.1.dst v) w
  | .only o r, a, w => if o.2 then o.1.wp P a w (fun a' w' => Frame S0 w w' ∧ wpSeqT P ops Q S0 r a' w') Q else o.1.wp P a w (wpSeqT P ops Q S0 r) Q
  | .two o r p s, a, w => (if o.2 then o.1.wp P a w (fun a' w' => Frame S0 w w' ∧ wpSeqT P ops Q S0 r a' w') Q else o.1.wp P a w (wpSeqT P ops Q S0 r) Q) ∧
      (if p.2 then p.1.wp P a w (fun a' w' => Frame S0 w w' ∧ wpSeqT P ops Q S0 s a' w') Q else p.1.wp P a w (wpSeqT P ops Q S0 s) Q)
def pickT (ops : Array Oper) (n0 : Nat) : Ord Nat → Ord (Oper × Bool)
  | .done => .done
  | .fst i r => .fst ((ops[i]?).getD default, true) (pickT ops n0 r)
  | .only i r => .only ((ops[i]?).getD default, decide (i < n0)) (pickT ops n0 r)
  | .two i r j s => .two ((ops[i]?).getD default, decide (i < n0)) (pickT ops n0 r) ((ops[j]?).getD default, decide (j < n0)) (pickT ops n0 s)
def plainO (ops : Array Oper) (i : Nat) : Bool := match ops[i]? with | some o => o.guard.isNone | none => false
def plainT (ops : Array Oper) : Ord Nat → Bool
  | .done => true
  | .fst i r => plainO ops i && plainT ops r
  | .only i r => plainO ops i && plainT ops r
  | .two i r j s => plainO ops i && (plainO ops j && (plainT ops r && plainT ops s))
theorem plainO_spec {i : Nat} (h : plainO ops i = true) : ∃ o, ops[i]? = some o ∧ ∀ t, Region.wanted o (yielded ops t) = true := by
  unfold plainO at h
  cases ho : ops[i]? with
  | none => rw [ho] at h; cases h
  | some o =>
    rw [ho] at h
    have hg : o.guard = none := by simpa using h
    exact ⟨o, rfl, fun t => by simp [Region.wanted, hg]⟩
theorem wpOp_of {i : Nat} {o : Oper} {a : Act} {w : World} {K : Act → World → Prop} (ho : ops[i]? = some o) (hw : ∀ t, Region.wanted o (yielded ops t) = true)
    (h : if decide (i < n0) then o.wp P a w (fun a' w' => Frame S0 w w' ∧ K a' w') Q else o.wp P a w K Q) : wpOp P ops Q i (fun a' w' => (n0 ≤ i ∨ Frame S0 w w') ∧ K a' w') a w := by
  simp only [wpOp, ho, hw, if_true]
  by_cases hi : i < n0
  · simp only [hi, decide_true, if_true] at h
    exact .inl (Oper.wp_mono (fun a' w' h3 => ⟨.inr h3.1, h3.2⟩) h)
  · simp only [hi, decide_false, Bool.false_eq_true, if_false] at h
    exact .inl (Oper.wp_mono (fun a' w' h3 => ⟨.inl (by omega), h3⟩) h)
theorem tree_of_seq : ∀ (l : Ord Nat) (a : Act) (w : World), plainT ops l = true → wpSeqT P ops Q S0 (pickT ops n0 l) a w → wpTree P ops Q S0 n0 l a w
  | .done, _, _, _, h => h
  | .fst i r, a, w, hp, h => by
    simp only [plainT, Bool.and_eq_true] at hp
    obtain ⟨o, ho, hw⟩ := plainO_spec hp.1
    simp only [pickT, ho, Option.getD_some, wpSeqT] at h
    obtain ⟨v, h1, h2⟩ := h
    exact ⟨o, v, ho, .inl ⟨hw _, h1⟩, tree_of_seq r _ _ hp.2 h2⟩
  | .only i r, a, w, hp, h => by
    simp only [plainT, Bool.and_eq_true] at hp
    obtain ⟨o, ho, hw⟩ := plainO_spec hp.1
    simp only [pickT, ho, Option.getD_some, wpSeqT] at h
    refine wpOp_mono (fun a' w' h3 => ⟨h3.1, tree_of_seq r _ _ hp.2 h3.2⟩) (wpOp_of (n0 := n0) (S0 := S0) ho hw h)
  | .two i r j s, a, w, hp, h => by
    simp only [plainT, Bool.and_eq_true] at hp
    obtain ⟨o, ho, hw⟩ := plainO_spec hp.1
    obtain ⟨o', ho', hw'⟩ := plainO_spec hp.2.1
    simp only [pickT, ho, ho', Option.getD_some, wpSeqT] at h
    exact ⟨wpOp_mono (fun a' w' h3 => ⟨h3.1, tree_of_seq r _ _ hp.2.2.1 h3.2⟩) (wpOp_of (n0 := n0) (S0 := S0) ho hw h.1), wpOp_mono (fun a' w' h3 => ⟨h3.1, tree_of_seq s _ _ hp.2.2.2 h3.2⟩) (wpOp_of (n0 := n0) (S0 := S0) ho' hw' h.2)⟩

theorem wp_region_tree {id : Nat} {a : Act} {w : World} (S0 : Bs) (n0 : Nat) (l : Ord Nat) (hm : P.follows .mixedOrders = true) (hB : (Region.noSelect ops && (plainT ops l && (l.len == ops.size && ordT ops n0 l (Array.replicate ops.size false)))) = true)
    (hQ : ∀ c a w d v, Q (.panic c) (Act.put a d v) w → Q (.panic c) a w) (h : wpSeqT P ops Q S0 (pickT ops n0 l) a w.drew) : (Code.region id ops true).wp P Q a w := by
  simp only [Bool.and_eq_true, beq_iff_eq] at hB
  obtain ⟨h1, h2, h3, h4⟩ := hB
  have h5 := T_of_tree h1 hQ l (Array.replicate ops.size false) a w.drew h4 (tree_of_seq l a _ h2 h)
  rw [h3] at h5
  exact wp_region_any hm (any_of_T (n0 := n0) _ _ _ _ h5)

theorem seqT_nil {a : Act} {w : World} (h : Q .normal a w) : wpSeqT P ops Q S0 .done a w := h
theorem seqT_val {o : Oper} {b : Bool} {r : Ord (Oper × Bool)} {a : Act} {w : World} {v : Value} (h : ∀ w', Frame S0 w w' → (execOp a.eval o).run P w' = .ok (.value v) w') (hr : wpSeqT P ops Q S0 r (a.put o.dst v) w) : wpSeqT P ops Q S0 (.fst (o, b) r) a w := ⟨v, h, hr⟩
theorem seqT_new {o : Oper} {r : Ord (Oper × Bool)} {a : Act} {w : World} (h : ∀ K : Act → World → Prop, (∀ a' w', Frame S0 w w' ∧ wpSeqT P ops Q S0 r a' w' → K a' w') → o.wp P a w K Q) : wpSeqT P ops Q S0 (.only (o, true) r) a w := by
  simp only [wpSeqT, if_true]; exact h _ fun _ _ h => h
theorem seqT_out {o : Oper} {r : Ord (Oper × Bool)} {a : Act} {w : World} (h : ∀ K : Act → World → Prop, (∀ a' w', wpSeqT P ops Q S0 r a' w' → K a' w') → o.wp P a w K Q) : wpSeqT P ops Q S0 (.only (o, false) r) a w := by
  simp only [wpSeqT, Bool.false_eq_true, if_false]; exact h _ fun _ _ h => h
theorem seqT_two {o p : Oper} {b c : Bool} {r s : Ord (Oper × Bool)} {a : Act} {w : World} (h1 : wpSeqT P ops Q S0 (.only (o, b) r) a w) (h2 : wpSeqT P ops Q S0 (.only (p, c) s) a w) : wpSeqT P ops Q S0 (.two (o, b) r (p, c) s) a w := ⟨h1, h2⟩
end
end Go.Proofs.YtklcoppfkfenfaaGreatDoor
namespace Go.Proofs.YtklcoppfkfenfaaGreatDoor
set_option maxRecDepth 100000
open Go Go.RowKit

/-- v reads as the bytes l, wherever they lie -/
def RdB (w : World) (v : Value) (l : List Nat) : Prop := ∃ K : Bs, Rd K w v l ∧ ∀ k, K k → k < w.heap.size
theorem RdB.up {w w' : World} {v : Value} {l : List Nat} (h : RdB w v l) (hf : Frame no w w') : RdB w' v l := by
  obtain ⟨K, h1, h2⟩ := h
  exact ⟨K, h1.keep (hf.same fun k hk => ⟨h2 k hk, id⟩), fun k hk => Nat.lt_of_lt_of_le (h2 k hk) hf.size⟩
theorem RdB.own {w : World} {base : Nat} {v : Value} {l : List Nat} (h : Own w base v l) : RdB w v l := ⟨_, h.rd, fun k hk => (own_lt h k hk).2⟩
theorem RdB.of {K : Bs} {w : World} {v : Value} {l : List Nat} (h : Rd K w v l) (hk : ∀ k, K k → k < w.heap.size) : RdB w v l := ⟨K, h, hk⟩
theorem RdB.one (w : World) (x : Nat) {y : Int} (hy : (x : Int) = y) (hx : x < 256) : RdB (w.alloc (.cells #[.int .u8 y] 5)) (.slice (some ⟨w.heap.size, 0, none⟩) 1 1) [x] := ⟨_, Rd.one w x 5 hy hx, fun k hk => by subst hk; simp⟩
theorem RdB.shape {w : World} {v : Value} {l : List Nat} (h : RdB w v l) : ∃ a c, v = .slice a l.length c := by
  obtain ⟨K, h1, _⟩ := h
  obtain ⟨_, a, c, e, _⟩ := h1.1
  exact ⟨a, c, e⟩
theorem join2B {w : World} {g : Nat} {v1 v2 : Value} {l1 l2 : List Nat} (h1 : RdB w v1 l1) (h2 : RdB w v2 l2) (hlen : l1.length + l2.length ≤ 1000000000000) (hg : g = w.heap.size) :
    Calls Tryz.prog 35 #[.slice (some ⟨g, 0, none⟩) 2 2] (w.alloc (.cells #[v1, v2] 34)) (Fresh (l1 ++ l2) (w.alloc (.cells #[v1, v2] 34))) := by
  obtain ⟨K1, a1, b1⟩ := h1
  obtain ⟨K2, a2, b2⟩ := h2
  exact join2 a1 a2 b1 b2 hlen hg
theorem join3B {w : World} {g : Nat} {v1 v2 v3 : Value} {l1 l2 l3 : List Nat} (h1 : RdB w v1 l1) (h2 : RdB w v2 l2) (h3 : RdB w v3 l3) (hlen : l1.length + l2.length + l3.length ≤ 1000000000000) (hg : g = w.heap.size) :
    Calls Tryz.prog 35 #[.slice (some ⟨g, 0, none⟩) 3 3] (w.alloc (.cells #[v1, v2, v3] 34)) (Fresh (l1 ++ (l2 ++ l3)) (w.alloc (.cells #[v1, v2, v3] 34))) := by
  obtain ⟨K1, a1, b1⟩ := h1
  obtain ⟨K2, a2, b2⟩ := h2
  obtain ⟨K3, a3, b3⟩ := h3
  exact join3 a1 a2 a3 b1 b2 b3 hlen hg
theorem word_frame (u : UnitD) (x y : Value) (w : World) : Calls Tryz.prog 65 #[.agg (unitV u x y)] w fun e w' => e = .returned (.int .i64 (wordF u.wide)) ∧ Frame no w w' :=
  (word_any u x y w).mono fun _ _ ⟨h1, h2⟩ => ⟨h1, by rw [h2]; exact (Frame.refl _ _).alloc _⟩

/-- bytes that lie apart from the writer -/
def RdW (V : WV) (st : WSt) (B : Nat) (w : World) (v : Value) (l : List Nat) : Prop := ∃ K : Bs, Rd K w v l ∧ ∀ k, K k → k < w.heap.size ∧ ¬ V.S st B k
theorem RdW.b {V : WV} {st : WSt} {B : Nat} {w : World} {v : Value} {l : List Nat} (h : RdW V st B w v l) : RdB w v l := by
  obtain ⟨K, h1, h2⟩ := h; exact ⟨K, h1, fun k hk => (h2 k hk).1⟩
theorem RdW.go {base B : Nat} {V V' : WV} {st st' : WSt} {w w' : World} {v : Value} {l : List Nat} (h : RdW V st B w v l) (k : WrTo base B w V st w' V' st') : RdW V' st' B w' v l := by
  obtain ⟨K, h1, h2⟩ := h
  refine ⟨K, h1.keep (k.frame.same h2), fun i hi => ⟨Nat.lt_of_lt_of_le (h2 i hi).1 k.frame.size, fun e => (k.more i e).elim (h2 i hi).2 fun e => by have := (h2 i hi).1; omega⟩⟩
/-- what the section held is beside the writer as soon as its row is another one -/
theorem RdW.info {base B : Nat} {V : WV} {st : WSt} {w w' : World} {v' : Value} {l' : List Nat} (hW : Wr w base B V st) (hf : Frame no w w') (ho : Own w' w.heap.size v' l') :
    RdW { V with info := v' } { st with info := l' } B (w'.setCell ⟨B, 7, none⟩ v') V.info st.info := by
  have hri : Own w base V.info st.info := ⟨hW.rows.own (rowB V.info st.info) (by simp), hW.ok.info⟩
  have hs : Frame (fun k => k = B) w' (w'.setCell ⟨B, 7, none⟩ v') := (Frame.refl (fun k => k = B) w').setCell (p := ⟨B, 7, none⟩) (.inl rfl) _
  have hnb : ∀ k, V.info.ownBlock = some k → k ≠ B := fun k hk e => hW.rows.notB (rowB V.info st.info) (by simp) (by rw [← e]; exact hk)
  refine ⟨_, (hri.rd.keep (hf.same fun k hk => ⟨(own_lt hri k hk).2, id⟩)).keep (hs.same fun k hk => ⟨Nat.lt_of_lt_of_le (own_lt hri k hk).2 hf.size, hnb k hk⟩), fun k hk => ⟨Nat.lt_of_lt_of_le (own_lt hri k hk).2 (Nat.le_trans hf.size hs.size), fun e => ?_⟩⟩
  have hrows : ({ V with info := v' } : WV).rows { st with info := l' } = (V.rows st).set 3 (rowB v' l') := rfl
  unfold WV.S SW at e
  rw [hrows] at e
  rcases e with e1 | ⟨r, hr1, hr2⟩
  · exact hnb k hk e1
  · obtain ⟨i, hi, rfl⟩ := List.getElem_of_mem hr1
    have hap := hW.rows.apart
    rw [List.pairwise_iff_getElem] at hap
    simp only [List.length_set] at hi
    rw [List.getElem_set] at hr2
    rcases Nat.lt_trichotomy i 3 with h | h | h
    · rw [if_neg (by omega)] at hr2; exact hap i 3 hi (by simp) h k hr2 hk
    · rw [if_pos (by omega)] at hr2
      have := (own_lt ho k hr2).1
      have := (own_lt hri k hk).2
      omega
    · rw [if_neg (by omega)] at hr2; exact hap 3 i (by simp) hi h k hk hr2
theorem WrTo.setBase {w0 w : World} {base B : Nat} {V0 V : WV} {st0 st : WSt} (H : WrTo base B w0 V0 st0 w V st) (x : Nat) : WrTo base B w0 V0 st0 (w.setCell ⟨B, 15, none⟩ (.int .u32 (x : Int))) V { st with base := x } := by
  have h := H.wr
  have hfB : Frame (fun k => k = B) w (w.setCell ⟨B, 15, none⟩ (.int .u32 (x : Int))) := (Frame.refl (fun k => k = B) w).setCell (p := ⟨B, 15, none⟩) (.inl rfl) _
  have hs : Same V.D w (w.setCell ⟨B, 15, none⟩ (.int .u32 (x : Int))) := hfB.same fun k hk => ⟨(h.hD k hk).1, fun e => (h.hD k hk).2 (.inl e)⟩
  refine ⟨⟨h.hb, ?_, h.rows.keep hfB fun r hr k hk e => h.rows.notB r hr (e ▸ hk), { h.ok with }, h.due, fun p hp => (h.dueAt p hp).keep hs, h.lists, fun p hp => (h.listsAt p hp).keep hs, fun k hk => ⟨Nat.lt_of_lt_of_le (h.hD k hk).1 hfB.size, (h.hD k hk).2⟩⟩,
    H.frame.trans hfB fun k hk => by rw [hk]; exact H.more B (.inl rfl), H.more, H.moreD, H.lessD⟩
  rw [heap_setCell_row h.cells]; rfl

/-- behind the world w lies a unit by value, and the writer has gone on -/
structure UnitSt (base B : Nat) (w : World) (V0 : WV) (st0 : WSt) (u : UnitD) (x y : Value) (V : WV) (st : WSt) (wx : World) : Prop where
  run : WrTo base B w V0 st0 wx V st
  unit : wx.heap[w.heap.size]? = some (.cells (unitV u x y) 31)
  apU : ¬ V.S st B w.heap.size ∧ ¬ V.D w.heap.size
theorem UnitSt.go {base B : Nat} {w wx wy : World} {V0 V V' : WV} {st0 st st' : WSt} {u : UnitD} {x y : Value} (h : UnitSt base B w V0 st0 u x y V st wx) (k : WrTo base B wx V st wy V' st') : UnitSt base B w V0 st0 u x y V' st' wy :=
  ⟨h.run.trans k, (k.frame.block _ (block_lt h.unit) h.apU.1).trans h.unit, k.apart (block_lt h.unit) h.apU⟩
theorem UnitSt.same {base B : Nat} {w wx wy : World} {V0 V : WV} {st0 st : WSt} {u : UnitD} {x y : Value} (h : UnitSt base B w V0 st0 u x y V st wx) (hf : Frame no wx wy) : UnitSt base B w V0 st0 u x y V st wy :=
  h.go ((WrTo.refl h.run.wr).step0 hf)
theorem UnitSt.start {base B : Nat} {w : World} {V : WV} {st : WSt} (hW : Wr w base B V st) (u : UnitD) (x y : Value) : UnitSt base B w V st u x y V st (w.alloc (.cells (unitV u x y) 31)) :=
  ⟨(WrTo.refl hW).step0 ((Frame.refl _ _).alloc _), heap_alloc_new _ _, (WrTo.refl hW).new (Nat.le_refl _)⟩

end Go.Proofs.YtklcoppfkfenfaaGreatDoor
namespace Go.Proofs.YtklcoppfkfenfaaGreatDoor

/-- the bytes that are being written only grow; the order of bytes, the abbreviations and the starts of units stay -/
structure Keeps (a b : WSt) : Prop where
  info : ∃ t, b.info = a.info ++ t
  big : b.big = a.big
  abv : b.abv = a.abv
  units : b.units = a.units
  base : b.base = a.base
  rngs : b.rngs = a.rngs
  strs : b.strs = a.strs
  addrs : b.addrs = a.addrs
  strBase : b.strBase = a.strBase
  adBase : b.adBase = a.adBase
  liBase : b.liBase = a.liBase
theorem Keeps.refl (a : WSt) : Keeps a a := ⟨⟨[], by simp⟩, rfl, rfl, rfl, rfl, rfl, rfl, rfl, rfl, rfl, rfl⟩
theorem Keeps.trans {a b c : WSt} (h : Keeps a b) (k : Keeps b c) : Keeps a c := by
  obtain ⟨t, ht⟩ := h.info
  obtain ⟨s, hs⟩ := k.info
  exact ⟨⟨t ++ s, by rw [hs, ht, List.append_assoc]⟩, k.big.trans h.big, k.abv.trans h.abv, k.units.trans h.units, k.base.trans h.base, k.rngs.trans h.rngs, k.strs.trans h.strs, k.addrs.trans h.addrs, k.strBase.trans h.strBase, k.adBase.trans h.adBase, k.liBase.trans h.liBase⟩
theorem valueF_keeps (v : Int) (wide : Bool) (ad : Nat) (a : AttrD) (st : WSt) : Keeps st (valueF v wide ad a st).st ∧ (valueF v wide ad a st).st.info = st.info := by
  unfold valueF rangesF
  simp only
  (repeat' split) <;> exact ⟨⟨⟨[], by simp⟩, rfl, rfl, rfl, rfl, rfl, rfl, rfl, rfl, rfl, rfl⟩, rfl⟩
theorem attrsF_keeps (v : Int) (wide : Bool) (ad : Nat) : ∀ (al : List AttrD) (p : WSt × List FieldD), Keeps p.1 (attrsF v wide ad al p).1
  | [], p => by simpa [attrsF] using Keeps.refl p.1
  | a :: al, p => by
    have h1 := valueF_keeps v wide ad a p.1
    have h2 := attrsF_keeps v wide ad al ({ (valueF v wide ad a p.1).st with info := p.1.info ++ (valueF v wide ad a p.1).bytes }, p.2 ++ [{ attr := a.attr, cls := classF a.attr a.form v, kind := (valueF v wide ad a p.1).kind, n := (valueF v wide ad a p.1).n, data := (valueF v wide ad a p.1).data }])
    refine Keeps.trans ?_ h2
    obtain ⟨h1, _⟩ := h1
    exact ⟨⟨_, rfl⟩, h1.big, h1.abv, h1.units, h1.base, h1.rngs, h1.strs, h1.addrs, h1.strBase, h1.adBase, h1.liBase⟩
theorem headF_keeps (v : Int) (wide : Bool) (ad : Nat) (l : List (List Nat)) (nd : NodeD) (st : WSt) : Keeps st (headF v wide ad l nd st) := by
  have h := attrsF_keeps v wide ad nd.attrs ({ st with offsets := st.offsets ++ [st.info.length % 4294967296], info := st.info ++ uleb (codeF l (shapeB nd)) }, [])
  have h0 : Keeps st ({ st with offsets := st.offsets ++ [st.info.length % 4294967296], info := st.info ++ uleb (codeF l (shapeB nd)) } : WSt) := ⟨⟨_, rfl⟩, rfl, rfl, rfl, rfl, rfl, rfl, rfl, rfl, rfl, rfl⟩
  have h2 := h0.trans h
  exact ⟨h2.info, h2.big, h2.abv, h2.units, h2.base, h2.rngs, h2.strs, h2.addrs, h2.strBase, h2.adBase, h2.liBase⟩
theorem tailF_keeps (nd : NodeD) (st : WSt) : Keeps st (tailF nd st) := by
  unfold tailF; split
  · exact ⟨⟨_, rfl⟩, rfl, rfl, rfl, rfl, rfl, rfl, rfl, rfl, rfl, rfl⟩
  · exact Keeps.refl _
mutual
theorem nodeF_keeps (v : Int) (wide : Bool) (ad : Nat) (l : List (List Nat)) : ∀ (nd : NodeD) (st : WSt), Keeps st (nodeF v wide ad l nd st)
  | .mk t al o kids, st => by
    rw [nodeF]
    exact ((headF_keeps v wide ad l _ st).trans (kidsF_keeps v wide ad l kids _)).trans (tailF_keeps _ _)
theorem kidsF_keeps (v : Int) (wide : Bool) (ad : Nat) (l : List (List Nat)) : ∀ (ks : List NodeD) (st : WSt), Keeps st (kidsF v wide ad l ks st)
  | [], st => by simpa [kidsF] using Keeps.refl st
  | k :: ks, st => by
    rw [kidsF]
    exact (nodeF_keeps v wide ad l k st).trans (kidsF_keeps v wide ad l ks _)
end

end Go.Proofs.YtklcoppfkfenfaaGreatDoor
namespace Go.Proofs.YtklcoppfkfenfaaGreatDoor
set_option maxRecDepth 100000
open Go Go.RowKit

theorem Rd.cut {K : Bs} {w : World} {a : Option Addr} {n c : Nat} {l : List Nat} (h : Rd K w (.slice a n c) l) (lo hi m : Nat) (h1 : lo ≤ hi) (h2 : hi ≤ l.length) (h3 : hi ≤ m) (h4 : m ≤ c) : Rd K w (sliced a lo hi m 1) ((l.take hi).drop lo) := by
  obtain ⟨⟨hl, a', c', he, hn, hc, hnone, hcell⟩, hb⟩ := h
  simp only [Value.slice.injEq] at he
  obtain ⟨rfl, hn2, rfl⟩ := he
  subst hn2
  have hlen : ((l.take hi).drop lo).length = hi - lo := by simp; omega
  refine ⟨⟨by simp [hlen], if m = lo then a else a.map (·.add (lo * 1)), m - lo, by rw [hlen]; rfl, by omega, by omega, fun e => ?_, fun j hj => ?_⟩, fun x hx => hb x (List.mem_of_mem_take (List.mem_of_mem_drop hx))⟩
  · by_cases hml : m = lo
    · omega
    · rw [if_neg hml] at e
      have : a = none := by simpa using e
      have := hnone this
      omega
  · simp only [bv_length, hlen] at hj
    have hml : ¬ m = lo := by omega
    obtain ⟨b, o, ha, hK, hce⟩ := hcell (lo + j) (by simp; omega)
    refine ⟨b, o + lo, ?_, hK, ?_⟩
    · rw [if_neg hml, ha]; simp [Addr.add]
    · rw [Nat.add_assoc, hce, bv_get, bv_get]
      simp [List.getElem_drop, List.getElem_take]

theorem size34 (w : World) : (sizeOf (Tryz.prog.elem 34)).run Tryz.prog w = .ok 1 w := by kernel_rfl
theorem ul34 : Tryz.prog.underlying 34 = some (.slice (Tryz.prog.elem 34)) := by kernel_rfl
theorem sliced_shape (a : Option Addr) (lo hi m : Nat) : ∃ a' , sliced a lo hi m 1 = .slice a' (hi - lo) (m - lo) := ⟨_, rfl⟩

/-- x[lo:] -/
theorem cut_lo {K : Bs} {w : World} {a : Option Addr} {n c : Nat} {l : List Nat} (h : Rd K w (.slice a n c) l) {z : Int} (lo : Nat) (hz : z = (lo : Int)) (h1 : lo ≤ l.length) :
    ∃ a' n' c', (∀ (k : IntKind) wx, (Instr.slice 34 (.slice a n c) (some (.int k z)) none none).run Tryz.prog wx = .ok (.slice a' n' c') wx) ∧ Rd K w (.slice a' n' c') (l.drop lo) ∧ n' = l.length - lo := by
  have hn : n = l.length := by obtain ⟨⟨_, _, _, he, _⟩, _⟩ := h; simp only [Value.slice.injEq] at he; exact he.2.1
  have hc : n ≤ c := by obtain ⟨⟨_, _, _, he, h5, _⟩, _⟩ := h; simp only [Value.slice.injEq] at he; omega
  subst hn
  have hr := h.cut lo l.length c h1 (Nat.le_refl _) hc (Nat.le_refl _)
  rw [List.take_length] at hr
  refine ⟨_, _, _, fun k wx => ?_, hr, rfl⟩
  subst hz
  simp only [Instr.slice, Sem.run_bind, run_underlying ul34, Result.andThen]
  simp [Instr.sliceBounds, run_sliceBound, size34, sliced, h1, Result.andThen]
/-- x[lo:hi] -/
theorem cut_lohi {K : Bs} {w : World} {a : Option Addr} {n c : Nat} {l : List Nat} (h : Rd K w (.slice a n c) l) {y z : Int} (lo hi : Nat) (hy : y = (lo : Int)) (hz : z = (hi : Int)) (h1 : lo ≤ hi) (h2 : hi ≤ l.length) :
    ∃ a' n' c', (∀ (k k' : IntKind) wx, (Instr.slice 34 (.slice a n c) (some (.int k y)) (some (.int k' z)) none).run Tryz.prog wx = .ok (.slice a' n' c') wx) ∧ Rd K w (.slice a' n' c') ((l.take hi).drop lo) ∧ n' = hi - lo := by
  have hn : n = l.length := by obtain ⟨⟨_, _, _, he, _⟩, _⟩ := h; simp only [Value.slice.injEq] at he; exact he.2.1
  have hc : n ≤ c := by obtain ⟨⟨_, _, _, he, h5, _⟩, _⟩ := h; simp only [Value.slice.injEq] at he; omega
  subst hn
  have hr := h.cut lo hi c h1 h2 (by omega) (Nat.le_refl _)
  refine ⟨_, _, _, fun k k' wx => ?_, hr, rfl⟩
  subst hy; subst hz
  have hic : (hi : Int) ≤ (c : Int) := by omega
  have hlh : (lo : Int) ≤ (hi : Int) := by omega
  rw [run_slice_lh (P := Tryz.prog) (ht := ul34) (kl := k) (kh := k') (l := (lo : Int)) (h := (hi : Int)) (h0 := by omega) (h1 := hlh) (h2 := hic), size34]
  simp [Result.andThen, sliced]

end Go.Proofs.YtklcoppfkfenfaaGreatDoor
