/-
  A region that draws its order, walked once: operations that yield the same in every larger world are taken first; what writes comes last or is laid in new memory. Walks: the writer's values, form by form. Walks: what tells whether units are right.
-/
import Derived.Test.YtklcoppfkfenfaaGreatDoorFP01
import Derived.Deep.RegionHeld3
import Derived.StillTailTactics
import Derived.Test.YtklcoppfkfenfaaGreatDoorFP05
set_option linter.all false
set_option linter.unusedVariables false
set_option linter.unusedSimpArgs false
namespace Go.Proofs.YtklcoppfkfenfaaGreatDoor
set_option maxRecDepth 100000
open Go Go.RowKit

section
variable {P : Program} {ops : Array Oper} {Q : Exit → Act → World → Prop} {n0 : Nat} {S0 : Bs}

/-- whatever order is picked: each operation ahead of n0 leaves what was there as it was -/
def anyT (P : Program) (ops : Array Oper) (Q : Exit → Act → World → Prop) (S0 : Bs) (n0 : Nat) : Nat → Array Bool → Act → World → Prop
  | 0, listed, a, w => Region.ready .any ops listed = [] ∧ Q .normal a w
  | f + 1, listed, a, w => (Region.ready .any ops listed = [] → Q .normal a w) ∧
      ∀ i ∈ Region.ready .any ops listed, wpOp P ops Q i (fun a' w' => (n0 ≤ i ∨ Frame S0 w w') ∧ anyT P ops Q S0 n0 f (listed.setIfInBounds i true) a' w') a w

theorem any_of_T : ∀ (f : Nat) (listed : Array Bool) (a : Act) (w : World), anyT P ops Q S0 n0 f listed a w → wpAny P .any ops Q f listed a w
  | 0, _, _, _, h => h
  | f + 1, _, _, _, h => ⟨h.1, fun i hi => wpOp_mono (fun a' w' h' => any_of_T f _ a' w' h'.2) (h.2 i hi)⟩

/-- every operation from n0 on waits for i -/
def tailW (ops : Array Oper) (n0 i : Nat) : Bool := (List.range ops.size).all fun j => decide (j < n0) || Region.waitsFor .any ops j i

theorem tailW_spec {i j : Nat} {listed : Array Bool} (h : tailW ops n0 i = true) (hj : j ∈ Region.ready .any ops listed) (hi : listed.getD i true = false) : j < n0 := by
  obtain ⟨_, oj, hoj, hall⟩ := mem_ready.1 hj
  have hlt : j < ops.size := (Array.getElem?_eq_some_iff.1 hoj).1
  have h1 := List.all_eq_true.1 h j (List.mem_range.2 hlt)
  simp only [Bool.or_eq_true, decide_eq_true_eq] at h1
  rcases h1 with h1 | h1
  · exact h1
  · obtain ⟨o', ho', e, he, hb, hon⟩ := Region.waitsFor_spec h1
    have : o' = oj := Option.some.inj (ho'.symm.trans hoj)
    subst this
    have h2 := hall e he hb
    rw [hon, getD_both hi] at h2
    cases h2

/-- what yields in a world and in every larger one may be taken first -/
theorem T_first {i : Nat} {oi : Oper} {v : Value} (hi : ops[i]? = some oi) (hsel : Region.noSelect ops = true) (hQ : ∀ c a w, Q (.panic c) (a.put oi.dst v) w → Q (.panic c) a w) (hin : i < n0) (hw : tailW ops n0 i = true) :
    ∀ (f : Nat) (listed : Array Bool) (a : Act) (w : World),
      (∀ j oj, ops[j]? = some oj → j ≠ i → listed.getD j true = false → (∀ e ∈ oj.after, Region.binds .any e = true → e.on ≠ i) → oi.apart ops oj = true) →
      i ∈ Region.ready .any ops listed → YieldsIf P ops (Frame S0 w) oi v a →
      anyT P ops Q S0 n0 f (listed.setIfInBounds i true) (a.put oi.dst v) w → anyT P ops Q S0 n0 (f + 1) listed a w := by
  intro f
  induction f with
  | zero =>
    intro listed a w _ hr hy H
    refine ⟨fun h => (by rw [h] at hr; cases hr), fun j hj => ?_⟩
    by_cases hji : j = i
    · subst hji; exact hy.wpOp hi (Frame.refl _ _) ⟨.inr (Frame.refl _ _), H⟩
    · have := ready_mono hj hji
      rw [H.1] at this
      cases this
  | succ f ih =>
    intro listed a w hfree hr hy H
    have hiun := (mem_ready.1 hr).1
    refine ⟨fun h => (by rw [h] at hr; cases hr), fun j hj => ?_⟩
    by_cases hji : j = i
    · subst hji; exact hy.wpOp hi (Frame.refl _ _) ⟨.inr (Frame.refl _ _), H⟩
    · have h1 := H.2 j (ready_mono hj hji)
      have hjn := tailW_spec hw hj hiun
      obtain ⟨hjun, oj, hoj, hall⟩ := mem_ready.1 hj
      have hnot : ∀ e ∈ oj.after, Region.binds .any e = true → e.on ≠ i := fun e he hb heq => by
        have h1 := hall e he hb
        rw [heq, getD_both hiun] at h1
        cases h1
      have h2 := wpOp_putIf hoj (hfree j oj hoj hji hjun hnot) (fun cs b => Region.noSelect_spec hsel i oi cs b hi) (fun cs b => Region.noSelect_spec hsel j oj cs b hoj) hQ hy h1
      refine wpOp_mono (fun a' w' h3 => ?_) h2
      obtain ⟨hy', hS, h4⟩ := h3
      have hf : Frame S0 w w' := hS.resolve_left (by omega)
      refine ⟨hS, ih (listed.setIfInBounds j true) a' w' (fun k ok hk hki hun hno => hfree k ok hk hki ?_ hno) (ready_mono hr (Ne.symm hji)) ?_ ?_⟩
      · by_cases hjk : j = k
        · subst hjk; exact hjun
        · rw [getD_set_ne true hjk] at hun; exact hun
      · exact hy'.imp (fun ⟨h5, h6⟩ => ⟨h5, fun x hx => h6 x (hf.trans' hx)⟩) id
      · rw [Array.setIfInBounds_comm _ _ hji]; exact h4

/-- the operations one behind the other: 'true': it is taken first; 'false': nothing else may come up -/
def wpIdx (P : Program) (ops : Array Oper) (Q : Exit → Act → World → Prop) (S0 : Bs) (n0 : Nat) : List (Nat × Bool) → Act → World → Prop
  | [], a, w => Q .normal a w
  | (i, true) :: r, a, w => ∃ o v, ops[i]? = some o ∧ YieldsIf P ops (Frame S0 w) o v a ∧ wpIdx P ops Q S0 n0 r (a.put o.dst v) w
  | (i, false) :: r, a, w => wpOp P ops Q i (fun a' w' => (n0 ≤ i ∨ Frame S0 w w') ∧ wpIdx P ops Q S0 n0 r a' w') a w
def ordB (ops : Array Oper) (n0 : Nat) : List (Nat × Bool) → Array Bool → Bool
  | [], listed => Region.ready .any ops listed == []
  | (i, true) :: r, listed => decide (i < n0) && ((Region.ready .any ops listed).contains i && (Region.free .any ops listed i && (tailW ops n0 i && ordB ops n0 r (listed.setIfInBounds i true))))
  | (i, false) :: r, listed => Region.ready .any ops listed == [i] && ordB ops n0 r (listed.setIfInBounds i true)

theorem T_of_idx (hsel : Region.noSelect ops = true) (hQ : ∀ c a w d v, Q (.panic c) (Act.put a d v) w → Q (.panic c) a w) : ∀ (l : List (Nat × Bool)) (listed : Array Bool) (a : Act) (w : World),
    ordB ops n0 l listed = true → wpIdx P ops Q S0 n0 l a w → anyT P ops Q S0 n0 l.length listed a w
  | [], listed, a, w, hB, h => ⟨by simpa [ordB] using hB, h⟩
  | (i, true) :: r, listed, a, w, hB, h => by
    obtain ⟨o, v, ho, hy, h⟩ := h
    simp only [ordB, Bool.and_eq_true, decide_eq_true_eq] at hB
    obtain ⟨h1, h2, h3, h4, h5⟩ := hB
    exact T_first ho hsel (fun c a w h => hQ c a w o.dst v h) h1 h4 r.length listed a w (Region.free_spec ho h3) (by simpa using h2) hy (T_of_idx hsel hQ r _ _ _ h5 h)
  | (i, false) :: r, listed, a, w, hB, h => by
    simp only [ordB, Bool.and_eq_true, beq_iff_eq] at hB
    obtain ⟨h1, h2⟩ := hB
    refine ⟨fun h0 => absurd (h1.symm.trans h0) (by simp), fun j hj => ?_⟩
    rw [h1] at hj
    obtain rfl : j = i := by simpa using hj
    exact wpOp_mono (fun a' w' h3 => ⟨h3.1, T_of_idx hsel hQ r _ a' w' h2 h3.2⟩) h

/-- the same over the operations themselves -/
def wpSeq (P : Program) (ops : Array Oper) (Q : Exit → Act → World → Prop) (S0 : Bs) : List (Oper × Nat) → Act → World → Prop
  | [], a, w => Q .normal a w
  | (o, 0) :: r, a, w => ∃ v, (∀ w', Frame S0 w w' → (execOp a.eval o).run P w' = .ok (.value v) w') ∧ wpSeq P ops Q S0 r (a.put o.dst v) w
  | (o, 1) :: r, a, w => o.wp P a w (fun a' w' => Frame S0 w w' ∧ wpSeq P ops Q S0 r a' w') Q
  | (o, _) :: r, a, w => o.wp P a w (wpSeq P ops Q S0 r) Q

/-- the list of the operations in an order; 0: taken first, 1: it leaves what was there, 2: it writes, at the end -/
def pickB (ops : Array Oper) (n0 : Nat) : List (Nat × Bool) → List (Oper × Nat)
  | [] => []
  | (i, b) :: r => ((ops[i]?).getD default, if b then 0 else if i < n0 then 1 else 2) :: pickB ops n0 r
def plainB (ops : Array Oper) (l : List (Nat × Bool)) : Bool := l.all fun p => match ops[p.1]? with | some o => o.guard.isNone | none => false

theorem idx_of_seq : ∀ (l : List (Nat × Bool)) (a : Act) (w : World), plainB ops l = true → wpSeq P ops Q S0 (pickB ops n0 l) a w → wpIdx P ops Q S0 n0 l a w
  | [], _, _, _, h => h
  | (i, b) :: r, a, w, hp, h => by
    simp only [plainB, List.all_cons, Bool.and_eq_true] at hp
    obtain ⟨hp1, hp2⟩ := hp
    cases ho : ops[i]? with
    | none => rw [ho] at hp1; cases hp1
    | some o =>
      rw [ho] at hp1
      have hg : o.guard = none := by simpa using hp1
      have hwant : ∀ t, Region.wanted o (yielded ops t) = true := fun t => by simp [Region.wanted, hg]
      cases b with
      | true =>
        simp only [pickB, ho, Option.getD_some, if_true, wpSeq] at h
        obtain ⟨v, h1, h2⟩ := h
        exact ⟨o, v, ho, .inl ⟨hwant _, h1⟩, idx_of_seq r _ _ hp2 h2⟩
      | false =>
        simp only [pickB, ho, Option.getD_some, Bool.false_eq_true, if_false] at h
        simp only [wpIdx, wpOp, ho, hwant, if_true]
        by_cases hi : i < n0
        · rw [if_pos hi] at h
          exact .inl (Oper.wp_mono (fun a' w' h3 => ⟨.inr h3.1, idx_of_seq r _ _ hp2 h3.2⟩) h)
        · rw [if_neg hi] at h
          exact .inl (Oper.wp_mono (fun a' w' h3 => ⟨.inl (by omega), idx_of_seq r _ _ hp2 h3⟩) h)

theorem wp_region_seq {id : Nat} {a : Act} {w : World} (S0 : Bs) (n0 : Nat) (l : List (Nat × Bool)) (hm : P.follows .mixedOrders = true) (hB : (Region.noSelect ops && (plainB ops l && (l.length == ops.size && ordB ops n0 l (Array.replicate ops.size false)))) = true)
    (hQ : ∀ c a w d v, Q (.panic c) (Act.put a d v) w → Q (.panic c) a w) (h : wpSeq P ops Q S0 (pickB ops n0 l) a w.drew) : (Code.region id ops true).wp P Q a w := by
  simp only [Bool.and_eq_true, beq_iff_eq] at hB
  obtain ⟨h1, h2, h3, h4⟩ := hB
  have h5 := T_of_idx h1 hQ l (Array.replicate ops.size false) a w.drew h4 (idx_of_seq l a _ h2 h)
  rw [h3] at h5
  exact wp_region_any hm (any_of_T (n0 := n0) _ _ _ _ h5)

theorem seq_nil {a : Act} {w : World} (h : Q .normal a w) : wpSeq P ops Q S0 [] a w := h
theorem seq_val {o : Oper} {r : List (Oper × Nat)} {a : Act} {w : World} {v : Value} (h : ∀ w', Frame S0 w w' → (execOp a.eval o).run P w' = .ok (.value v) w') (hr : wpSeq P ops Q S0 r (a.put o.dst v) w) : wpSeq P ops Q S0 ((o, 0) :: r) a w := ⟨v, h, hr⟩
theorem seq_new {o : Oper} {r : List (Oper × Nat)} {a : Act} {w : World} (h : ∀ K : Act → World → Prop, (∀ a' w', Frame S0 w w' ∧ wpSeq P ops Q S0 r a' w' → K a' w') → o.wp P a w K Q) : wpSeq P ops Q S0 ((o, 1) :: r) a w := h _ fun _ _ h => h
theorem seq_out {o : Oper} {r : List (Oper × Nat)} {a : Act} {w : World} (h : ∀ K : Act → World → Prop, (∀ a' w', wpSeq P ops Q S0 r a' w' → K a' w') → o.wp P a w K Q) : wpSeq P ops Q S0 ((o, 2) :: r) a w := h _ fun _ _ h => h

end
end Go.Proofs.YtklcoppfkfenfaaGreatDoor
namespace Go.Proofs.YtklcoppfkfenfaaGreatDoor
set_option maxRecDepth 100000
open Go Go.RowKit

/-- a value is handed back, and the writer is as it should be -/
def ValPost (base B : Nat) (w : World) (V : WV) (st : WSt) (r : ValR) (e : Ending) (w' : World) : Prop :=
  ∃ a n c da dn dc V', e = .returned (.tuple #[.slice a n c, .agg #[.int .i64 r.kind, .int .u64 (r.n : Int), .slice da dn dc]]) ∧ WrTo base B w V st w' V' r.st ∧
    Rd (fun k => w.heap.size ≤ k ∧ k < w'.heap.size ∧ ¬ V'.S r.st B k) w' (.slice a n c) r.bytes ∧ Rd V.D w' (.slice da dn dc) r.data

theorem valPost_to {base B : Nat} {w w3 w' : World} {V V' : WV} {st st' : WSt} {bytes data : List Nat} {kind : Int} {n g b : Nat} {a da : Option Addr} {m c dn dc : Nat} {K : Bs} (h : WrTo base B w V st w3 V' st')
    (hg : w.heap.size ≤ g) (hgS : ¬ V'.S st' B g ∧ ¬ V'.D g) (hf : Frame (fun k => k = g) w3 w') (ho : Own w' b (.slice a m c) bytes) (hb : w3.heap.size ≤ b) (hW : Wr w base B V st) (hd : Rd K w (.slice da dn dc) data) (hK : ∀ k, K k → V.D k) :
    ValPost base B w V st { bytes := bytes, kind := kind, n := n, data := data, st := st' } (.returned (.tuple #[.slice a m c, .agg #[.int .i64 kind, .int .u64 (n : Int), .slice da dn dc]])) w' := by
  have h2 := h.step hf fun k hk _ => by subst hk; exact ⟨hg, hgS⟩
  refine ⟨a, m, c, da, dn, dc, V', rfl, h2, ho.rd.mono fun k hk => ?_, (hd.mono hK).keep (h2.frame.same fun k hk => hW.hD k hk)⟩
  have h1 := own_lt ho k hk
  have := h.frame.size
  exact ⟨by omega, h1.2, (h.new (by omega)).1⟩
theorem valPost_pure {base B : Nat} {w w' : World} {V : WV} {st : WSt} {bytes data : List Nat} {kind : Int} {n : Nat} {a da : Option Addr} {m c dn dc : Nat} {K : Bs} (h : Wr w base B V st) (hf : Frame no w w')
    (ho : Own w' w.heap.size (.slice a m c) bytes) (hd : Rd K w (.slice da dn dc) data) (hK : ∀ k, K k → V.D k) :
    ValPost base B w V st { bytes := bytes, kind := kind, n := n, data := data, st := st } (.returned (.tuple #[.slice a m c, .agg #[.int .i64 kind, .int .u64 (n : Int), .slice da dn dc]])) w' :=
  valPost_to (g := w.heap.size) (WrTo.refl h) (Nat.le_refl _) ((WrTo.refl h).new (Nat.le_refl _)) (Frame.of_no hf) ho (Nat.le_refl _) h hd hK
theorem rd_nil (K : Bs) (w : World) : Rd K w (.slice none 0 0) [] := ⟨⟨rfl, none, 0, rfl, Nat.le_refl _, Nat.zero_le _, fun _ => rfl, fun j hj => by simp [bv] at hj⟩, by intro x hx; cases hx⟩

/-- an attribute by value -/
abbrev attrV (a : AttrD) (dv lv : Value) : Array Value := #[.int .u32 (a.attr : Int), .int .u32 (a.form : Int), .int .u64 (a.n : Int), dv, lv]

theorem sgn_wrap (n : Nat) (h : n < 18446744073709551616) : IntKind.i64.wrap (n : Int) = sgn n := by
  rw [IntKind.wrap_i64]; unfold sgn; split <;> omega
theorem sgn_bd (n : Nat) (h : n < 18446744073709551616) : -9223372036854775808 ≤ sgn n ∧ sgn n ≤ 9223372036854775807 := by
  unfold sgn; split <;> omega

end Go.Proofs.YtklcoppfkfenfaaGreatDoor
namespace Go.Proofs.YtklcoppfkfenfaaGreatDoor
set_option maxRecDepth 100000
open Go Go.RowKit

/-- a flag is handed back, nothing changes -/
def Says (w : World) (P : Prop) (e : Ending) (w' : World) : Prop := ∃ b : Bool, e = .returned (.bool b) ∧ Frame no w w' ∧ (b = true → P)

theorem wrap_add (a b c : Int) (h : c = a + b) : wrap64 (wrap64 a + wrap64 b) = IntKind.i64.wrap c := by
  subst h
  rw [IntKind.wrap_i64]
  unfold wrap64
  omega

theorem isPointer_any (a : AttrD) (dv lv : Value) (w : World) (h : a.attr < 4294967296) :
    Calls Tryz.prog 9 #[.agg (attrV a dv lv)] w (Says w True) := by
  unfold attrV
  go_enter Tryz.func9, Tryz.ntmps9
  go_wp2_with (go_at_call 25; (with_reducible refine (pointer_any a.attr _ h).mono ?_); rintro e w' ⟨rfl, rfl⟩)
  go_ret
  exact ⟨_, rfl, (Frame.refl _ _).alloc _, fun _ => trivial⟩

set_option maxHeartbeats 1000000 in
theorem classOf_any (a : AttrD) (dv lv : Value) (v : Int) (w : World) (h : a.attr < 4294967296) (h2 : a.form < 4294967296) :
    Calls Tryz.prog 98 #[.agg (attrV a dv lv), .int .i64 v] w fun e w' => e = .returned (.int .i64 (classF a.attr a.form v)) ∧ Frame no w w' := by
  obtain ⟨attr, form, n, data, list⟩ := a
  dsimp only at *
  unfold attrV
  dsimp only
  generalize hA : addrxF form = ax
  generalize hS : strxF form = sx
  generalize hR : refF form = rf
  generalize hP : pointerF attr = pf
  have HA := Lib.hid hA
  have HS := Lib.hid hS
  have HR := Lib.hid hR
  have HP := Lib.hid hP
  clear hA hS hR hP
  go_enter Tryz.func98, Tryz.ntmps98
  go_wp2_with (first
    | (go_at_call 39; ((with_reducible refine (isAddrx_any form _ h2).mono ?_); rintro e w' ⟨rfl, rfl⟩); rw [HA.out])
    | (go_at_call 21; ((with_reducible refine (isStrx_any form _ h2).mono ?_); rintro e w' ⟨rfl, rfl⟩); rw [HS.out])
    | (go_at_call 114; ((with_reducible refine (isReference_any form _ h2).mono ?_); rintro e w' ⟨rfl, rfl⟩); rw [HR.out])
    | (go_at_call 25; ((with_reducible refine (pointer_any attr _ h).mono ?_); rintro e w' ⟨rfl, rfl⟩); rw [HP.out]))
  all_goals go_ret
  all_goals (refine ⟨ret_int ?_, (Frame.refl _ _).alloc _⟩)
  all_goals (unfold classF; rw [HA.out, HS.out, HR.out, HP.out]; go_light; simp only [beq_iff_eq, beq_eq_false_iff_ne, ne_eq] at *; norm_cast at *; first | (simp [*]; done) | (simp [*]; (repeat' split) <;> first | rfl | omega | simp_all))

set_option maxHeartbeats 1000000 in
theorem within_any (d : Nat) : ∀ (K : Bs) (p : NodeV) (w : World) (_ : NodeAt d K w p) (_ : ∀ k, K k → k < w.heap.size),
    Calls Tryz.prog 22 #[.agg #[.int .u32 (p.1.tag : Int), p.2.1, .bool p.1.opn, p.2.2]] w fun e w' => e = .returned (.int .i64 (IntKind.i64.wrap (nodesF p.1))) ∧ Frame no w w' := by
  induction d with
  | zero => intro _ _ _ h; exact h.elim
  | succ d ih =>
  intro K p w h hk
  obtain ⟨a, cap, ka, kc, he1, he2, hkc, hkm, htag, _, hkids⟩ := h.elem
  have hnl := nodesF_eq p.1
  obtain ⟨nd, av, kv⟩ := p
  dsimp only at *
  subst he1; subst he2
  unfold maxLen at hkm
  have IH := Lib.hid ih; clear ih
  have HKD := Lib.hid hkids; clear hkids
  have HNL := Lib.hid hnl; clear hnl
  go_enter Tryz.func22, Tryz.ntmps22
  go_wp2_with fail
  go_loopw [3, 9] (fun v i wr => ∃ k : Nat, k ≤ nd.kids.length ∧ i = .int .i64 k ∧ v = .int .i64 (IntKind.i64.wrap (1 + nodesL (nd.kids.take k) : Nat)) ∧ Frame no w wr) (fun _ i _ => nd.kids.length - (intOf i).toNat)
  case atStart => exact ⟨0, Nat.zero_le _, rfl, rfl, (Frame.refl _ _).alloc _⟩
  case round =>
  obtain ⟨k, hk', rfl, rfl, hf⟩ := hrel
  have hs4 := hf.size
  by_cases hlt : k < nd.kids.length
  · obtain ⟨b, o, ka1, kn1, kb1, kc1, rfl, hb, g0, g1, g2, g3, hNk⟩ := HKD.out k hlt
    replace g0 := hf.cell g0 id
    replace g1 := hf.cell g1 id
    replace g2 := hf.cell g2 id
    replace g3 := hf.cell g3 id
    have HT := Lib.hid (nodesL_take_succ nd.kids k hlt)
    have hNk' := hNk.keep (hf.same fun k hK => ⟨by have := hk k hK; omega, id⟩)
    clear hNk
    generalize hkd : nd.kids[k] = kd at g0 g1 g2 g3 hNk'
    have HKDk := Lib.hid hkd; clear hkd
    go_wp2_with fail
    have hfa : Frame no wr (wr.alloc (.cells #[.int .u32 (kd.tag : Int), .slice ka1 kd.attrs.length kn1, .bool kd.opn, .slice kb1 kd.kids.length kc1] 28)) := (Frame.refl _ _).alloc _
    (with_reducible refine (IH.out K (kd, .slice ka1 kd.attrs.length kn1, .slice kb1 kd.kids.length kc1) _ (hNk'.keep (hfa.same fun k hK => ⟨by have := hk k hK; omega, id⟩)) (fun k hK => by have := hk k hK; simp; omega)).mono ?_)
    rintro e w5 ⟨rfl, hf5⟩
    go_wp2_with fail
    go_roundw
    case rel =>
      refine ⟨k + 1, by omega, by go_num, ?_, (hf.alloc _).trans hf5 (fun _ h => h.elim)⟩
      rw [HT.out, HKDk.out]
      congr 1
      exact wrap_add _ _ _ (by omega)
    case measure => simp [intOf]; omega
  · have HT := Lib.hid (show nd.kids.take k = nd.kids from List.take_of_length_le (by omega))
    go_wp2_with fail
    go_ret
    refine ⟨?_, hf⟩
    rw [HNL.out]
    show Ending.returned (.int .i64 (IntKind.i64.wrap ((1 + nodesL (nd.kids.take k) : Nat) : Int))) = _
    rw [HT.out]

set_option maxHeartbeats 1000000 in
/-- HasForm with IsPointer -/
theorem hasForm_any (d : Nat) : ∀ (K : Bs) (p : NodeV) (w : World) (_ : NodeAt d K w p) (_ : ∀ k, K k → k < w.heap.size),
    Calls Tryz.prog 8 #[.agg #[.int .u32 (p.1.tag : Int), p.2.1, .bool p.1.opn, p.2.2], .func (.func 9) #[] #[]] w (Says w True) := by
  induction d with
  | zero => intro _ _ _ h; exact h.elim
  | succ d ih =>
  intro K p w h hk
  obtain ⟨a, cap, ka, kc, he1, he2, hkc, hkm, htag, hal, hkids⟩ := h.elem
  obtain ⟨nd, av, kv⟩ := p
  dsimp only at *
  subst he1; subst he2
  obtain ⟨_, _, he, hac, hacm, hel⟩ := hal.elem
  simp only [Value.slice.injEq, true_and] at he
  obtain ⟨rfl, rfl⟩ := he
  unfold maxLen at hkm hacm
  have IH := Lib.hid ih; clear ih
  have HKD := Lib.hid hkids; clear hkids
  have HEL := Lib.hid hel; clear hel hal
  go_enter Tryz.func8, Tryz.ntmps8
  have g3 : (w.alloc (.cells #[.int .u32 (nd.tag : Int), .slice a nd.attrs.length cap, .bool nd.opn, .slice ka nd.kids.length kc] 28)).cell? ⟨w.heap.size, 3, none⟩ = some (.slice ka nd.kids.length kc) := cell_new _ _ _ _
  have hf0 : Frame no w (w.alloc (.cells #[.int .u32 (nd.tag : Int), .slice a nd.attrs.length cap, .bool nd.opn, .slice ka nd.kids.length kc] 28)) := (Frame.refl _ _).alloc _
  go_upto_block 0 with fail
  go_cut [5] (fun _ wx => Frame no (w.alloc (.cells #[.int .u32 (nd.tag : Int), .slice a nd.attrs.length cap, .bool nd.opn, .slice ka nd.kids.length kc] 28)) wx)
  case first =>
    go_wp2_with fail
    go_loopw [6, 12] (fun _ i wr => ∃ k : Nat, k ≤ nd.attrs.length ∧ i = .int .i64 k ∧ Frame no (w.alloc (.cells #[.int .u32 (nd.tag : Int), .slice a nd.attrs.length cap, .bool nd.opn, .slice ka nd.kids.length kc] 28)) wr) (fun _ i _ => nd.attrs.length - (intOf i).toNat)
    case atStart => exact ⟨0, Nat.zero_le _, rfl, Frame.refl _ _⟩
    case round =>
    obtain ⟨k, hk', rfl, hf⟩ := hrel
    by_cases hlt : k < nd.attrs.length
    · obtain ⟨b, o, da, dc, la, lc, rfl, hb, c0, c1, c2, c3, c4, ha1, ha2, ha3, hrd, hit⟩ := HEL.out k hlt
      have hf2 := hf0.trans hf (fun _ h => h.elim)
      replace c0 := hf2.cell c0 id
      replace c1 := hf2.cell c1 id
      replace c2 := hf2.cell c2 id
      replace c3 := hf2.cell c3 id
      replace c4 := hf2.cell c4 id
      clear hrd hit
      generalize hA : nd.attrs[k] = A at *
      clear hA
      go_wp2_with fail
      (with_reducible refine (isPointer_any A _ _ _ ha1).mono ?_)
      rintro e w5 ⟨bb, rfl, hf5, _⟩
      cases bb
      · go_wp2_with fail
        go_roundw
        case rel => exact ⟨k + 1, by omega, by go_num, (hf.alloc _).trans hf5 (fun _ h => h.elim)⟩
        case measure => simp [intOf]; omega
      · go_wp2_with fail
        go_ret
        exact ⟨_, rfl, (hf2.alloc _).trans hf5 (fun _ h => h.elim), fun _ => trivial⟩
    · go_wp2_with fail
      go_meet
      case rel => exact hf
  case rest =>
  have g4 := hcut.cell g3 id
  go_wp2_with fail
  go_loopw [8, 23] (fun _ i wr => ∃ k : Nat, k ≤ nd.kids.length ∧ i = .int .i64 k ∧ Frame no w wr) (fun _ i _ => nd.kids.length - (intOf i).toNat)
  case atStart => exact ⟨0, Nat.zero_le _, rfl, hf0.trans hcut (fun _ h => h.elim)⟩
  case round =>
  obtain ⟨k, hk', rfl, hf⟩ := hrel
  have hs4 := hf.size
  by_cases hlt : k < nd.kids.length
  · obtain ⟨b, o, ka1, kn1, kb1, kc1, rfl, hb, g0, g1, g2, g3, hNk⟩ := HKD.out k hlt
    replace g0 := hf.cell g0 id
    replace g1 := hf.cell g1 id
    replace g2 := hf.cell g2 id
    replace g3 := hf.cell g3 id
    have hNk' := hNk.keep (hf.same fun k hK => ⟨by have := hk k hK; omega, id⟩)
    clear hNk
    generalize hkd : nd.kids[k] = kd at g0 g1 g2 g3 hNk'
    clear hkd
    go_wp2_with fail
    have hfa : Frame no wr (wr.alloc (.cells #[.int .u32 (kd.tag : Int), .slice ka1 kd.attrs.length kn1, .bool kd.opn, .slice kb1 kd.kids.length kc1] 28)) := (Frame.refl _ _).alloc _
    (with_reducible refine (IH.out K (kd, .slice ka1 kd.attrs.length kn1, .slice kb1 kd.kids.length kc1) _ (hNk'.keep (hfa.same fun k hK => ⟨by have := hk k hK; omega, id⟩)) (fun k hK => by have := hk k hK; simp; omega)).mono ?_)
    rintro e w5 ⟨bb, rfl, hf5, _⟩
    cases bb
    · go_wp2_with fail
      go_roundw
      case rel => exact ⟨k + 1, by omega, by go_num, (hf.alloc _).trans hf5 (fun _ h => h.elim)⟩
      case measure => simp [intOf]; omega
    · go_wp2_with fail
      go_ret
      exact ⟨_, rfl, (hf.alloc _).trans hf5 (fun _ h => h.elim), fun _ => trivial⟩
  · go_wp2_with fail
    go_ret
    exact ⟨_, rfl, hf, fun _ => trivial⟩

end Go.Proofs.YtklcoppfkfenfaaGreatDoor
