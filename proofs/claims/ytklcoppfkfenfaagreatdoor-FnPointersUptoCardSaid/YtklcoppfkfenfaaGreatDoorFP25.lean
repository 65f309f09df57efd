/-
  A region that draws its order, walked once, as RG has it: what comes last may wait for the first operations through others. A region that draws its order, walked once: operations that wait through others, and guards, also at calls. Lists of entries are compared: the same lists, wherever they lie.
-/
import Derived.Test.YtklcoppfkfenfaaGreatDoorFP06
import Derived.Test.YtklcoppfkfenfaaGreatDoorFP05
set_option linter.all false
set_option linter.unusedVariables false
set_option linter.unusedSimpArgs false
namespace Go.Proofs.YtklcoppfkfenfaaGreatDoor
set_option maxRecDepth 100000
open Go Go.RowKit

section
variable {P : Program} {ops : Array Oper} {Q : Exit → Act → World → Prop} {n0 : Nat} {S0 : Bs}

/-- what is listed has all that it waits for listed -/
def ClosedL (ops : Array Oper) (listed : Array Bool) : Prop := ∀ j oj, ops[j]? = some oj → listed.getD j false = true → ∀ e ∈ oj.after, Region.binds .any e = true → listed.getD e.on false = true
theorem ClosedL.start (n : Nat) : ClosedL ops (Array.replicate n false) := fun j _ _ h => by rw [getD_replicate_false] at h; cases h
theorem ClosedL.step {listed : Array Bool} {j : Nat} (h : ClosedL ops listed) (hj : j ∈ Region.ready .any ops listed) : ClosedL ops (listed.setIfInBounds j true) := by
  intro k ok hk hl e he hb
  by_cases hjk : j = k
  · subst hjk
    obtain ⟨_, oj, hoj, hall⟩ := mem_ready.1 hj
    obtain rfl : ok = oj := Option.some.inj (hk.symm.trans hoj)
    exact getD_set_true (hall e he hb)
  · rw [getD_set_ne false hjk] at hl
    exact getD_set_true (h k ok hk hl e he hb)
/-- j waits for i, through others or not -/
def waitsT (ops : Array Oper) : Nat → Nat → Nat → Bool
  | 0, _, _ => false
  | f + 1, j, i => match ops[j]? with
    | some oj => oj.after.any fun e => Region.binds .any e && (e.on == i || waitsT ops f e.on i)
    | none => false
theorem waitsT_listed {listed : Array Bool} (hc : ClosedL ops listed) {i : Nat} : ∀ (f k : Nat), listed.getD k false = true → waitsT ops f k i = true → listed.getD i false = true
  | 0, _, _, h => by cases h
  | f + 1, k, hk, h => by
    unfold waitsT at h
    split at h
    · rename_i ok hok
      obtain ⟨e, he, hb⟩ := Array.any_eq_true'.1 h
      simp only [Bool.and_eq_true, Bool.or_eq_true, beq_iff_eq] at hb
      have h1 := hc k ok hok hk e he hb.1
      rcases hb.2 with h2 | h2
      · rw [← h2]; exact h1
      · exact waitsT_listed hc f e.on h1 h2
    · cases h
theorem waitsT_ready {listed : Array Bool} (hc : ClosedL ops listed) {i j : Nat} (f : Nat) (hj : j ∈ Region.ready .any ops listed) (h : waitsT ops f j i = true) : listed.getD i false = true := by
  obtain ⟨_, oj, hoj, hall⟩ := mem_ready.1 hj
  cases f with
  | zero => cases h
  | succ f =>
    unfold waitsT at h
    rw [hoj] at h
    obtain ⟨e, he, hb⟩ := Array.any_eq_true'.1 h
    simp only [Bool.and_eq_true, Bool.or_eq_true, beq_iff_eq] at hb
    have h1 := hall e he hb.1
    rcases hb.2 with h2 | h2
    · rw [← h2]; exact h1
    · exact waitsT_listed hc f e.on h1 h2
def tailT (ops : Array Oper) (n0 i : Nat) : Bool := (List.range ops.size).all fun j => decide (j < n0) || waitsT ops ops.size j i
theorem tailT_spec {i j : Nat} {listed : Array Bool} (h : tailT ops n0 i = true) (hc : ClosedL ops listed) (hj : j ∈ Region.ready .any ops listed) (hi : listed.getD i true = false) : j < n0 := by
  obtain ⟨_, oj, hoj, _⟩ := mem_ready.1 hj
  have hlt : j < ops.size := (Array.getElem?_eq_some_iff.1 hoj).1
  have h1 := List.all_eq_true.1 h j (List.mem_range.2 hlt)
  simp only [Bool.or_eq_true, decide_eq_true_eq] at h1
  rcases h1 with h1 | h1
  · exact h1
  · have h2 := waitsT_ready hc _ hj h1
    rw [getD_both hi] at h2
    cases h2

theorem T_firstT {i : Nat} {oi : Oper} {v : Value} (hi : ops[i]? = some oi) (hsel : Region.noSelect ops = true) (hQ : ∀ c a w, Q (.panic c) (a.put oi.dst v) w → Q (.panic c) a w) (hin : i < n0) (hw : tailT ops n0 i = true) :
    ∀ (f : Nat) (listed : Array Bool) (a : Act) (w : World), ClosedL ops listed →
      (∀ j oj, ops[j]? = some oj → j ≠ i → listed.getD j true = false → (∀ e ∈ oj.after, Region.binds .any e = true → e.on ≠ i) → oi.apart ops oj = true) →
      i ∈ Region.ready .any ops listed → YieldsIf P ops (Frame S0 w) oi v a →
      anyT P ops Q S0 n0 f (listed.setIfInBounds i true) (a.put oi.dst v) w → anyT P ops Q S0 n0 (f + 1) listed a w := by
  intro f
  induction f with
  | zero =>
    intro listed a w _ _ hr hy H
    refine ⟨fun h => (by rw [h] at hr; cases hr), fun j hj => ?_⟩
    by_cases hji : j = i
    · subst hji; exact hy.wpOp hi (Frame.refl _ _) ⟨.inr (Frame.refl _ _), H⟩
    · have := ready_mono hj hji
      rw [H.1] at this
      cases this
  | succ f ih =>
    intro listed a w hcl hfree hr hy H
    have hiun := (mem_ready.1 hr).1
    refine ⟨fun h => (by rw [h] at hr; cases hr), fun j hj => ?_⟩
    by_cases hji : j = i
    · subst hji; exact hy.wpOp hi (Frame.refl _ _) ⟨.inr (Frame.refl _ _), H⟩
    · have h1 := H.2 j (ready_mono hj hji)
      have hjn := tailT_spec hw hcl hj hiun
      obtain ⟨hjun, oj, hoj, hall⟩ := mem_ready.1 hj
      have hnot : ∀ e ∈ oj.after, Region.binds .any e = true → e.on ≠ i := fun e he hb heq => by
        have h1 := hall e he hb
        rw [heq, getD_both hiun] at h1
        cases h1
      have h2 := wpOp_putIf hoj (hfree j oj hoj hji hjun hnot) (fun cs b => Region.noSelect_spec hsel i oi cs b hi) (fun cs b => Region.noSelect_spec hsel j oj cs b hoj) hQ hy h1
      refine wpOp_mono (fun a' w' h3 => ?_) h2
      obtain ⟨hy', hS, h4⟩ := h3
      have hf : Frame S0 w w' := hS.resolve_left (by omega)
      refine ⟨hS, ih (listed.setIfInBounds j true) a' w' (hcl.step hj) (fun k ok hk hki hun hno => hfree k ok hk hki ?_ hno) (ready_mono hr (Ne.symm hji)) ?_ ?_⟩
      · by_cases hjk : j = k
        · subst hjk; exact hjun
        · rw [getD_set_ne true hjk] at hun; exact hun
      · exact hy'.imp (fun ⟨h5, h6⟩ => ⟨h5, fun x hx => h6 x (hf.trans' hx)⟩) id
      · rw [Array.setIfInBounds_comm _ _ hji]; exact h4

def ordT5 (ops : Array Oper) (n0 : Nat) : List (Nat × Bool) → Array Bool → Bool
  | [], listed => Region.ready .any ops listed == []
  | (i, true) :: r, listed => decide (i < n0) && ((Region.ready .any ops listed).contains i && (Region.free .any ops listed i && (tailT ops n0 i && ordT5 ops n0 r (listed.setIfInBounds i true))))
  | (i, false) :: r, listed => Region.ready .any ops listed == [i] && ordT5 ops n0 r (listed.setIfInBounds i true)

theorem T_of_idxT (hsel : Region.noSelect ops = true) (hQ : ∀ c a w d v, Q (.panic c) (Act.put a d v) w → Q (.panic c) a w) : ∀ (l : List (Nat × Bool)) (listed : Array Bool) (a : Act) (w : World), ClosedL ops listed →
    ordT5 ops n0 l listed = true → wpIdx P ops Q S0 n0 l a w → anyT P ops Q S0 n0 l.length listed a w
  | [], listed, a, w, _, hB, h => ⟨by simpa [ordT5] using hB, h⟩
  | (i, true) :: r, listed, a, w, hcl, hB, h => by
    obtain ⟨o, v, ho, hy, h⟩ := h
    simp only [ordT5, Bool.and_eq_true, decide_eq_true_eq] at hB
    obtain ⟨h1, h2, h3, h4, h5⟩ := hB
    have h2' : i ∈ Region.ready .any ops listed := by simpa using h2
    exact T_firstT ho hsel (fun c a w h => hQ c a w o.dst v h) h1 h4 r.length listed a w hcl (Region.free_spec ho h3) h2' hy (T_of_idxT hsel hQ r _ _ _ (hcl.step h2') h5 h)
  | (i, false) :: r, listed, a, w, hcl, hB, h => by
    simp only [ordT5, Bool.and_eq_true, beq_iff_eq] at hB
    obtain ⟨h1, h2⟩ := hB
    refine ⟨fun h0 => absurd (h1.symm.trans h0) (by simp), fun j hj => ?_⟩
    have hcl' := hcl.step hj
    rw [h1] at hj
    obtain rfl : j = i := by simpa using hj
    exact wpOp_mono (fun a' w' h3 => ⟨h3.1, T_of_idxT hsel hQ r _ a' w' hcl' h2 h3.2⟩) h

theorem wp_region_seqT {id : Nat} {a : Act} {w : World} (S0 : Bs) (n0 : Nat) (l : List (Nat × Bool)) (hm : P.follows .mixedOrders = true) (hB : (Region.noSelect ops && (plainB ops l && (l.length == ops.size && ordT5 ops n0 l (Array.replicate ops.size false)))) = true)
    (hQ : ∀ c a w d v, Q (.panic c) (Act.put a d v) w → Q (.panic c) a w) (h : wpSeq P ops Q S0 (pickB ops n0 l) a w.drew) : (Code.region id ops true).wp P Q a w := by
  simp only [Bool.and_eq_true, beq_iff_eq] at hB
  obtain ⟨h1, h2, h3, h4⟩ := hB
  have h5 := T_of_idxT h1 hQ l (Array.replicate ops.size false) a w.drew (ClosedL.start _) h4 (idx_of_seq l a _ h2 h)
  rw [h3] at h5
  exact wp_region_any hm (any_of_T (n0 := n0) _ _ _ _ h5)
end
end Go.Proofs.YtklcoppfkfenfaaGreatDoor
namespace Go.Proofs.YtklcoppfkfenfaaGreatDoor
set_option maxRecDepth 100000
open Go Go.RowKit

section
variable {P : Program} {ops : Array Oper} {Q : Exit → Act → World → Prop} {n0 : Nat} {S0 : Bs}

def wpSeqH (P : Program) (ops : Array Oper) (Q : Exit → Act → World → Prop) (S0 : Bs) : List (Oper × Nat) → Act → World → Prop
  | [], a, w => Q .normal a w
  | (o, 0) :: r, a, w => ∃ v, YieldsIf P ops (Frame S0 w) o v a ∧ wpSeqH P ops Q S0 r (a.put o.dst v) w
  | (o, 1) :: r, a, w => Region.wanted o (yielded ops a.tmps) = true ∧ o.wp P a w (fun a' w' => Frame S0 w w' ∧ wpSeqH P ops Q S0 r a' w') Q
  | (o, _) :: r, a, w => Region.wanted o (yielded ops a.tmps) = true ∧ o.wp P a w (wpSeqH P ops Q S0 r) Q
def plainH (ops : Array Oper) (l : List (Nat × Bool)) : Bool := l.all fun p => (ops[p.1]?).isSome

theorem idx_of_seqH : ∀ (l : List (Nat × Bool)) (a : Act) (w : World), plainH ops l = true → wpSeqH P ops Q S0 (pickB ops n0 l) a w → wpIdx P ops Q S0 n0 l a w
  | [], _, _, _, h => h
  | (i, b) :: r, a, w, hp, h => by
    simp only [plainH, List.all_cons, Bool.and_eq_true] at hp
    obtain ⟨hp1, hp2⟩ := hp
    cases ho : ops[i]? with
    | none => rw [ho] at hp1; cases hp1
    | some o =>
      cases b with
      | true =>
        simp only [pickB, ho, Option.getD_some, if_true, wpSeqH] at h
        obtain ⟨v, h1, h2⟩ := h
        exact ⟨o, v, ho, h1, idx_of_seqH r _ _ hp2 h2⟩
      | false =>
        simp only [pickB, ho, Option.getD_some, Bool.false_eq_true, if_false] at h
        simp only [wpIdx, wpOp, ho]
        by_cases hi : i < n0
        · rw [if_pos hi] at h
          rw [if_pos h.1]
          exact .inl (Oper.wp_mono (fun a' w' h3 => ⟨.inr h3.1, idx_of_seqH r _ _ hp2 h3.2⟩) h.2)
        · rw [if_neg hi] at h
          rw [if_pos h.1]
          exact .inl (Oper.wp_mono (fun a' w' h3 => ⟨.inl (by omega), idx_of_seqH r _ _ hp2 h3⟩) h.2)

theorem wp_region_seqH {id : Nat} {a : Act} {w : World} (S0 : Bs) (n0 : Nat) (l : List (Nat × Bool)) (hm : P.follows .mixedOrders = true) (hB : (Region.noSelect ops && (plainH ops l && (l.length == ops.size && ordT5 ops n0 l (Array.replicate ops.size false)))) = true)
    (hQ : ∀ c a w d v, Q (.panic c) (Act.put a d v) w → Q (.panic c) a w) (h : wpSeqH P ops Q S0 (pickB ops n0 l) a w.drew) : (Code.region id ops true).wp P Q a w := by
  simp only [Bool.and_eq_true, beq_iff_eq] at hB
  obtain ⟨h1, h2, h3, h4⟩ := hB
  have h5 := T_of_idxT h1 hQ l (Array.replicate ops.size false) a w.drew (ClosedL.start _) h4 (idx_of_seqH l a _ h2 h)
  rw [h3] at h5
  exact wp_region_any hm (any_of_T (n0 := n0) _ _ _ _ h5)

theorem seqH_nil {a : Act} {w : World} (h : Q .normal a w) : wpSeqH P ops Q S0 [] a w := h
theorem seqH_val {o : Oper} {r : List (Oper × Nat)} {a : Act} {w : World} {v : Value} (hw : Region.wanted o (yielded ops a.tmps) = true) (h : ∀ w', Frame S0 w w' → (execOp a.eval o).run P w' = .ok (.value v) w') (hr : wpSeqH P ops Q S0 r (a.put o.dst v) w) : wpSeqH P ops Q S0 ((o, 0) :: r) a w := ⟨v, .inl ⟨hw, h⟩, hr⟩
theorem seqH_skip {o : Oper} {r : List (Oper × Nat)} {a : Act} {w : World} (hw : Region.wanted o (yielded ops a.tmps) = false) (hr : wpSeqH P ops Q S0 r (a.put o.dst undef) w) : wpSeqH P ops Q S0 ((o, 0) :: r) a w := ⟨undef, .inr ⟨hw, rfl⟩, hr⟩
theorem seqH_new {o : Oper} {r : List (Oper × Nat)} {a : Act} {w : World} (hw : Region.wanted o (yielded ops a.tmps) = true) (h : ∀ K : Act → World → Prop, (∀ a' w', Frame S0 w w' ∧ wpSeqH P ops Q S0 r a' w' → K a' w') → o.wp P a w K Q) : wpSeqH P ops Q S0 ((o, 1) :: r) a w := ⟨hw, h _ fun _ _ h => h⟩
theorem seqH_out {o : Oper} {r : List (Oper × Nat)} {a : Act} {w : World} (hw : Region.wanted o (yielded ops a.tmps) = true) (h : ∀ K : Act → World → Prop, (∀ a' w', wpSeqH P ops Q S0 r a' w' → K a' w') → o.wp P a w K Q) : wpSeqH P ops Q S0 ((o, 2) :: r) a w := ⟨hw, h _ fun _ _ h => h⟩
end
end Go.Proofs.YtklcoppfkfenfaaGreatDoor
namespace Go.Proofs.YtklcoppfkfenfaaGreatDoor
set_option maxRecDepth 100000
open Go Go.RowKit

theorem same_value (kind : Int) (n : Nat) (d : List Nat) (K K' : Bs) (v v' : Value) (w : World) (h : Rd K w v d) (h' : Rd K' w v' d) (hk : ∀ k, K k → k < w.heap.size) (hk' : ∀ k, K' k → k < w.heap.size) :
    Calls Tryz.prog 31 #[.agg #[.int .i64 kind, .int .u64 (n : Int), v], .agg #[.int .i64 kind, .int .u64 (n : Int), v']] w fun e w' => e = .returned (.bool true) ∧ Frame no w w' := by
  obtain ⟨a, cap, rfl⟩ : ∃ a c, v = .slice a d.length c := by obtain ⟨⟨_, a, c, h, _⟩, _⟩ := h; exact ⟨a, c, h⟩
  obtain ⟨a', cap', rfl⟩ : ∃ a c, v' = .slice a d.length c := by obtain ⟨⟨_, a, c, h, _⟩, _⟩ := h'; exact ⟨a, c, h⟩
  have hf : Frame no w ((w.alloc (.cells #[.int .i64 kind, .int .u64 (n : Int), .slice a d.length cap] 99)).alloc (.cells #[.int .i64 kind, .int .u64 (n : Int), .slice a' d.length cap'] 99)) := ((Frame.refl _ _).alloc _).alloc _
  have h1 := sameBytes_any K K' _ _ d d _ (h.keep (hf.same fun k hk2 => ⟨hk k hk2, id⟩)) (h'.keep (hf.same fun k hk2 => ⟨hk' k hk2, id⟩))
  rw [beq_self_eq_true] at h1
  have H1 := Lib.hid h1; have HF := Lib.hid hf; clear h1 hf h h' hk hk'
  go_enter Tryz.func31, Tryz.ntmps31
  go_wp2_with fail
  (with_reducible refine H1.out.mono ?_)
  rintro e w2 ⟨rfl, rfl⟩
  go_wp2_with fail
  go_ret
  exact ⟨rfl, HF.out⟩

theorem FieldsAt.elem {K : Bs} {w : World} {v : Value} {fs : List FieldD} (h : FieldsAt K w v fs) :
    ∃ a cap, v = .slice a fs.length cap ∧ fs.length ≤ cap ∧ cap ≤ maxLen ∧ ∀ k (hk : k < fs.length), ∃ b o x cx, a = some ⟨b, o, none⟩ ∧ K b ∧
      w.cell? ⟨b, o + k * 5, none⟩ = some (.int .u32 (fs[k].attr : Int)) ∧ w.cell? ⟨b, o + k * 5 + 1, none⟩ = some (.int .i64 fs[k].cls) ∧ w.cell? ⟨b, o + k * 5 + 2, none⟩ = some (.int .i64 fs[k].kind) ∧
      w.cell? ⟨b, o + k * 5 + 3, none⟩ = some (.int .u64 (fs[k].n : Int)) ∧ w.cell? ⟨b, o + k * 5 + 4, none⟩ = some (.slice x fs[k].data.length cx) ∧ Rd K w (.slice x fs[k].data.length cx) fs[k].data := by
  obtain ⟨ps, rfl, har, hd⟩ := h
  obtain ⟨a, cap, hv, h1, h2, h3⟩ := har.elem (by decide)
  refine ⟨a, cap, by simpa using hv, by simpa using h1, h2, fun k hk => ?_⟩
  have hk' : k < ps.length := by simpa using hk
  obtain ⟨b, o, ha, hb, hc⟩ := h3 k hk'
  have hrd := hd ps[k] (List.getElem_mem hk')
  obtain ⟨x, cx, hx⟩ : ∃ x cx, ps[k].2 = .slice x ps[k].1.data.length cx := by obtain ⟨⟨_, a, c, h, _⟩, _⟩ := hrd; exact ⟨a, c, h⟩
  have e : (ps.map Prod.fst)[k] = ps[k].1 := by simp
  rw [hx] at hrd
  rw [e]
  have c0 := hc 0 _ rfl
  have c4 := hc 4 _ rfl
  rw [hx] at c4
  exact ⟨b, o, x, cx, ha, hb, c0, hc 1 _ rfl, hc 2 _ rfl, hc 3 _ rfl, c4, hrd⟩

/-- entries in memory -/
def EntsAt (K : Bs) (w : World) (v : Value) (es : List EntryD) : Prop :=
  ∃ ps : List (EntryD × Value), ps.map Prod.fst = es ∧ Ar K w 4 v ps entC ∧ ∀ p ∈ ps, FieldsAt K w p.2 p.1.fields
theorem EntsAt.keep {K : Bs} {w w' : World} {v : Value} {l : List EntryD} (h : EntsAt K w v l) (hs : Same K w w') : EntsAt K w' v l := by
  obtain ⟨ps, h1, h2, h3⟩ := h
  exact ⟨ps, h1, h2.keep hs, fun p hp => (h3 p hp).keep hs⟩
theorem EntsAt.elem {K : Bs} {w : World} {v : Value} {es : List EntryD} (h : EntsAt K w v es) :
    ∃ a cap, v = .slice a es.length cap ∧ es.length ≤ cap ∧ cap ≤ maxLen ∧ ∀ k (hk : k < es.length), ∃ b o x cx, a = some ⟨b, o, none⟩ ∧ K b ∧
      w.cell? ⟨b, o + k * 4, none⟩ = some (.int .u32 (es[k].off : Int)) ∧ w.cell? ⟨b, o + k * 4 + 1, none⟩ = some (.int .u32 (es[k].tag : Int)) ∧ w.cell? ⟨b, o + k * 4 + 2, none⟩ = some (.bool es[k].children) ∧
      w.cell? ⟨b, o + k * 4 + 3, none⟩ = some (.slice x es[k].fields.length cx) ∧ FieldsAt K w (.slice x es[k].fields.length cx) es[k].fields := by
  obtain ⟨ps, rfl, har, hd⟩ := h
  obtain ⟨a, cap, hv, h1, h2, h3⟩ := har.elem (by decide)
  refine ⟨a, cap, by simpa using hv, by simpa using h1, h2, fun k hk => ?_⟩
  have hk' : k < ps.length := by simpa using hk
  obtain ⟨b, o, ha, hb, hc⟩ := h3 k hk'
  have hrd := hd ps[k] (List.getElem_mem hk')
  obtain ⟨x, cx, hx, _⟩ := hrd.elem
  have e : (ps.map Prod.fst)[k] = ps[k].1 := by simp
  rw [hx] at hrd
  rw [e]
  have c0 := hc 0 _ rfl
  have c3 := hc 3 _ rfl
  rw [hx] at c3
  exact ⟨b, o, x, cx, ha, hb, c0, hc 1 _ rfl, hc 2 _ rfl, c3, hrd⟩

set_option maxHeartbeats 4000000 in
theorem same_entries (es : List EntryD) (K K' : Bs) (v v' : Value) (w : World) (h : EntsAt K w v es) (h' : EntsAt K' w v' es) (hk : ∀ k, K k → k < w.heap.size) (hk' : ∀ k, K' k → k < w.heap.size) :
    Calls Tryz.prog 12 #[v, v'] w fun e w' => e = .returned (.bool true) ∧ Frame no w w' := by
  obtain ⟨a, cap, rfl, hc1, hc2, hel⟩ := h.elem
  obtain ⟨a', cap', rfl, hc1', hc2', hel'⟩ := h'.elem
  unfold maxLen at hc2 hc2'
  have HEL := Lib.hid hel; have HEL' := Lib.hid hel'; have HK := Lib.hid hk; have HK' := Lib.hid hk'
  clear hel hel' h h' hk hk'
  go_enter Tryz.func12, Tryz.ntmps12
  go_upto_block 0 with fail
  go_cut [5, 6, 7, 8, 9, 17] (fun _ _ _ _ _ _ wx => Frame no w wx)
  case first =>
    go_wp2_with fail
    go_loopw [5, 6, 7, 8, 9, 17] (fun _ _ _ _ _ i wr => ∃ k : Nat, k ≤ es.length ∧ i = .int .i64 k ∧ Frame no w wr) (fun _ _ _ _ _ i _ => es.length - (intOf i).toNat)
    case atStart => exact ⟨0, Nat.zero_le _, rfl, Frame.refl _ _⟩
    case round =>
    obtain ⟨k, hk1, rfl, hf⟩ := hrel
    by_cases hlt : k < es.length
    · obtain ⟨b, o, x, cx, rfl, hb, c0, c1, c2, c3, hF⟩ := HEL.out k hlt
      obtain ⟨b', o', x', cx', rfl, hb', d0, d1, d2, d3, hF'⟩ := HEL'.out k hlt
      replace c0 := hf.cell c0 id; replace c1 := hf.cell c1 id; replace c2 := hf.cell c2 id; replace c3 := hf.cell c3 id
      replace d0 := hf.cell d0 id; replace d1 := hf.cell d1 id; replace d2 := hf.cell d2 id; replace d3 := hf.cell d3 id
      have hF := hF.keep (hf.same fun k hk => ⟨HK.out k hk, id⟩)
      have hF' := hF'.keep (hf.same fun k hk => ⟨HK'.out k hk, id⟩)
      generalize hE : es[k] = E at *
      clear hE
      obtain ⟨_, _, he, hxc, hxm, hx⟩ := hF.elem
      obtain ⟨_, _, he', hxc', hxm', hx'⟩ := hF'.elem
      simp only [Value.slice.injEq, true_and] at he he'
      obtain ⟨rfl, rfl⟩ := he
      obtain ⟨rfl, rfl⟩ := he'
      unfold maxLen at hxm hxm'
      have HX := Lib.hid hx; have HX' := Lib.hid hx'; have HF := Lib.hid hf
      have hsz := hf.size
      clear hF hF' hx hx' hf
      have hwk : wrap64 ((k : Int) + 1) = (k : Int) + 1 := by unfold wrap64; omega
      go_upto_region 6 with fail
      have hf1 : Frame no wr (wr.alloc (.cells #[.int .u32 (E.off : Int), .int .u32 (E.tag : Int), .bool E.children, .slice x E.fields.length cx] 96)) := (Frame.refl _ _).alloc _
      have g0 : (wr.alloc (.cells #[.int .u32 (E.off : Int), .int .u32 (E.tag : Int), .bool E.children, .slice x E.fields.length cx] 96)).cell? ⟨wr.heap.size, 0, none⟩ = some (.int .u32 (E.off : Int)) := cell_new _ _ _ _
      have g1 : (wr.alloc (.cells #[.int .u32 (E.off : Int), .int .u32 (E.tag : Int), .bool E.children, .slice x E.fields.length cx] 96)).cell? ⟨wr.heap.size, 1, none⟩ = some (.int .u32 (E.tag : Int)) := cell_new _ _ _ _
      have g2 : (wr.alloc (.cells #[.int .u32 (E.off : Int), .int .u32 (E.tag : Int), .bool E.children, .slice x E.fields.length cx] 96)).cell? ⟨wr.heap.size, 2, none⟩ = some (.bool E.children) := cell_new _ _ _ _
      have g3 : (wr.alloc (.cells #[.int .u32 (E.off : Int), .int .u32 (E.tag : Int), .bool E.children, .slice x E.fields.length cx] 96)).cell? ⟨wr.heap.size, 3, none⟩ = some (.slice x E.fields.length cx) := cell_new _ _ _ _
      generalize hw1 : wr.alloc (.cells #[.int .u32 (E.off : Int), .int .u32 (E.tag : Int), .bool E.children, .slice x E.fields.length cx] 96) = w1 at *
      generalize hA : wr.heap.size = A at *
      clear hw1 c0 c1 c2 c3
      replace d0 := hf1.cell d0 id; replace d1 := hf1.cell d1 id; replace d2 := hf1.cell d2 id; replace d3 := hf1.cell d3 id
      have HF1 := Lib.hid (HF.out.trans' hf1); have HFR1 := Lib.hid hf1; have HA := Lib.hid hA; clear hf1 hA
      go_upto_region 7 with fail
      have hf2 : Frame no w1 (w1.alloc (.cells #[.int .u32 (E.off : Int), .int .u32 (E.tag : Int), .bool E.children, .slice x' E.fields.length cx'] 96)) := (Frame.refl _ _).alloc _
      have q0 : (w1.alloc (.cells #[.int .u32 (E.off : Int), .int .u32 (E.tag : Int), .bool E.children, .slice x' E.fields.length cx'] 96)).cell? ⟨w1.heap.size, 0, none⟩ = some (.int .u32 (E.off : Int)) := cell_new _ _ _ _
      have q1 : (w1.alloc (.cells #[.int .u32 (E.off : Int), .int .u32 (E.tag : Int), .bool E.children, .slice x' E.fields.length cx'] 96)).cell? ⟨w1.heap.size, 1, none⟩ = some (.int .u32 (E.tag : Int)) := cell_new _ _ _ _
      have q2 : (w1.alloc (.cells #[.int .u32 (E.off : Int), .int .u32 (E.tag : Int), .bool E.children, .slice x' E.fields.length cx'] 96)).cell? ⟨w1.heap.size, 2, none⟩ = some (.bool E.children) := cell_new _ _ _ _
      have q3 : (w1.alloc (.cells #[.int .u32 (E.off : Int), .int .u32 (E.tag : Int), .bool E.children, .slice x' E.fields.length cx'] 96)).cell? ⟨w1.heap.size, 3, none⟩ = some (.slice x' E.fields.length cx') := cell_new _ _ _ _
      generalize hw2 : w1.alloc (.cells #[.int .u32 (E.off : Int), .int .u32 (E.tag : Int), .bool E.children, .slice x' E.fields.length cx'] 96) = w2 at *
      generalize hC : w1.heap.size = C at *
      clear hw2 d0 d1 d2 d3
      replace g0 := hf2.cell g0 id; replace g1 := hf2.cell g1 id; replace g2 := hf2.cell g2 id; replace g3 := hf2.cell g3 id
      have HF2 := Lib.hid (HF1.out.trans' hf2); have HFR := Lib.hid (HFR1.out.trans' hf2); have HC := Lib.hid hC; clear hf2 hC hsz
      by_cases ht : E.tag = 0
      · have t0 : ((E.tag : Int) == 0) = true := by rw [beq_iff_eq]; omega
        have t1 : ((E.tag : Int) != 0) = false := by rw [bne, t0]; rfl
        have HT := Lib.hid ht; clear ht
        go_wp2_with fail
        go_roundw
        case rel => exact ⟨k + 1, by omega, by go_num, HF2.out⟩
        case measure => simp [intOf]; omega
      · have t0 : ((E.tag : Int) == 0) = false := by rw [beq_eq_false_iff_ne]; omega
        have t1 : ((E.tag : Int) != 0) = true := by rw [bne, t0]; rfl
        have HT := Lib.hid ht; clear ht
        go_wp2_with fail
        go_loopw [8, 9, 65] (fun _ _ i wx => ∃ m : Nat, m ≤ E.fields.length ∧ i = .int .i64 m ∧ Frame no w2 wx) (fun _ _ i _ => E.fields.length - (intOf i).toNat)
        case atStart => exact ⟨0, Nat.zero_le _, rfl, Frame.refl _ _⟩
        case round =>
        obtain ⟨m, hm1, rfl, hfm⟩ := hrel
        by_cases hlm : m < E.fields.length
        · obtain ⟨fb, fo, fx, fcx, rfl, hfb, m0, m1, m2, m3, m4, hrd⟩ := HX.out m hlm
          obtain ⟨fb', fo', fx', fcx', rfl, hfb', n0, n1, n2, n3, n4, hrd'⟩ := HX'.out m hlm
          have hfw := HFR.out.trans' hfm
          replace m0 := hfw.cell m0 id; replace m1 := hfw.cell m1 id; replace m2 := hfw.cell m2 id; replace m3 := hfw.cell m3 id; replace m4 := hfw.cell m4 id
          replace n0 := hfw.cell n0 id; replace n1 := hfw.cell n1 id; replace n2 := hfw.cell n2 id; replace n3 := hfw.cell n3 id; replace n4 := hfw.cell n4 id
          replace g3 := hfm.cell g3 id
          replace q3 := hfm.cell q3 id
          have hrd := hrd.keep (hfw.same fun k hk => ⟨Nat.lt_of_lt_of_le (HK.out k hk) HF.out.size, id⟩)
          have hrd' := hrd'.keep (hfw.same fun k hk => ⟨Nat.lt_of_lt_of_le (HK'.out k hk) HF.out.size, id⟩)
          generalize hFD : E.fields[m] = F at *
          have hwm : wrap64 ((m : Int) + 1) = (m : Int) + 1 := by unfold wrap64; omega
          have HFM := Lib.hid hfm
          clear hFD hfm
          go_upto_region 13 with fail
          have hfa : Frame no wr (wr.alloc (.cells #[.int .u32 (F.attr : Int), .int .i64 F.cls, .int .i64 F.kind, .int .u64 (F.n : Int), .slice fx F.data.length fcx] 101)) := (Frame.refl _ _).alloc _
          have p0 : (wr.alloc (.cells #[.int .u32 (F.attr : Int), .int .i64 F.cls, .int .i64 F.kind, .int .u64 (F.n : Int), .slice fx F.data.length fcx] 101)).cell? ⟨wr.heap.size, 0, none⟩ = some (.int .u32 (F.attr : Int)) := cell_new _ _ _ _
          have p1 : (wr.alloc (.cells #[.int .u32 (F.attr : Int), .int .i64 F.cls, .int .i64 F.kind, .int .u64 (F.n : Int), .slice fx F.data.length fcx] 101)).cell? ⟨wr.heap.size, 1, none⟩ = some (.int .i64 F.cls) := cell_new _ _ _ _
          have p2 : (wr.alloc (.cells #[.int .u32 (F.attr : Int), .int .i64 F.cls, .int .i64 F.kind, .int .u64 (F.n : Int), .slice fx F.data.length fcx] 101)).cell? ⟨wr.heap.size, 2, none⟩ = some (.int .i64 F.kind) := cell_new _ _ _ _
          have p3 : (wr.alloc (.cells #[.int .u32 (F.attr : Int), .int .i64 F.cls, .int .i64 F.kind, .int .u64 (F.n : Int), .slice fx F.data.length fcx] 101)).cell? ⟨wr.heap.size, 3, none⟩ = some (.int .u64 (F.n : Int)) := cell_new _ _ _ _
          have p4 : (wr.alloc (.cells #[.int .u32 (F.attr : Int), .int .i64 F.cls, .int .i64 F.kind, .int .u64 (F.n : Int), .slice fx F.data.length fcx] 101)).cell? ⟨wr.heap.size, 4, none⟩ = some (.slice fx F.data.length fcx) := cell_new _ _ _ _
          have hszw : w.heap.size ≤ wr.heap.size := Nat.le_trans HF.out.size hfw.size
          have hal := hfa.size
          generalize hw3 : wr.alloc (.cells #[.int .u32 (F.attr : Int), .int .i64 F.cls, .int .i64 F.kind, .int .u64 (F.n : Int), .slice fx F.data.length fcx] 101) = w3 at *
          generalize hB : wr.heap.size = B at *
          clear hw3 m0 m1 m2 m3 m4
          replace n0 := hfa.cell n0 id; replace n1 := hfa.cell n1 id; replace n2 := hfa.cell n2 id; replace n3 := hfa.cell n3 id; replace n4 := hfa.cell n4 id
          replace g3 := hfa.cell g3 id
          replace q3 := hfa.cell q3 id
          have hsv := Lib.hid (same_value F.kind F.n F.data K K' (.slice fx F.data.length fcx) (.slice fx' F.data.length fcx') w3.drew (hrd.keep (hfa.drew.same fun k hk => ⟨by have := HK.out k hk; omega, id⟩)) (hrd'.keep (hfa.drew.same fun k hk => ⟨by have := HK'.out k hk; omega, id⟩)) (fun k hk => by have := HK.out k hk; simp only [World.size_drew]; omega) (fun k hk => by have := HK'.out k hk; simp only [World.size_drew]; omega))
          have HFA := Lib.hid hfa
          clear hfa hrd hrd' hB hfw
          refine wp_region_seqH no 32 [(0, true), (1, true), (2, true), (3, true), (4, true), (5, true), (6, true), (7, true), (8, true), (9, true), (10, true), (11, true), (12, true), (13, true), (14, true), (15, true), (16, true), (17, true), (18, true), (19, true), (20, true), (21, true), (22, true), (23, true), (24, true), (25, true), (26, true), (27, true), (28, true), (29, false), (30, true), (31, true)] (by kernel_rfl) (by kernel_rfl) (fun _ _ _ d _ h => by cases d <;> exact h) ?_
          simp only [pickB, List.getElem?_toArray, List.getElem?_cons_zero, List.getElem?_cons_succ, Option.getD_some, Bool.false_eq_true, ↓reduceIte, Nat.reduceLT]
          iterate 29
            refine seqH_val (v := ?_) rfl (fun w' hX => ?_) ?_
            rotate_left
            · have x0 := hX.cell p0 id; have x1 := hX.cell p1 id; have x2 := hX.cell p2 id; have x3 := hX.cell p3 id; have x4 := hX.cell p4 id; have x5 := hX.cell n0 id; have x6 := hX.cell n1 id; have x7 := hX.cell n2 id; have x8 := hX.cell n3 id; have x9 := hX.cell n4 id; have x10 := hX.cell q3 id; clear hX; go_simp; try with_reducible rfl
            try simp only [Act.put, List.setIfInBounds_toArray, List.set_cons_zero, List.set_cons_succ]
          refine seqH_new rfl (fun KK hK => ?_)
          go_wp2_with fail
          (with_reducible refine hsv.out.mono ?_)
          rintro e w4 ⟨rfl, hf4⟩
          go_wp2_with fail
          refine ⟨hf4, ?_⟩
          have HF4 := Lib.hid hf4
          iterate 2
            refine seqH_val (v := ?_) rfl (fun w' hX => ?_) ?_
            rotate_left
            · clear hX; go_simp; try with_reducible rfl
            try simp only [Act.put, List.setIfInBounds_toArray, List.set_cons_zero, List.set_cons_succ]
          refine seqH_nil ?_
          go_wp2_with fail
          go_roundw
          case rel => exact ⟨m + 1, by omega, by go_num, (HFM.out.trans' HFA.out).trans ((Frame.refl _ _).drew.trans' HF4.out) fun _ h => h.elim⟩
          case measure => simp [intOf]; omega
        · go_wp2_with fail
          go_roundw
          case rel => exact ⟨k + 1, by omega, by go_num, HF2.out.trans' hfm⟩
          case measure => simp [intOf]; omega
    · go_wp2_with fail
      go_meet
      case rel => exact hf
  case rest =>
  go_wp2_with fail
  go_ret
  exact ⟨rfl, hcut⟩
end Go.Proofs.YtklcoppfkfenfaaGreatDoor
