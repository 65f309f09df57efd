/-
  Plain law: what the writer makes of units of versions ahead of 5 is a row of entries, as the reader takes them.
-/
import Derived.Test.YtklcoppfkfenfaaGreatDoorFP19
import Derived.Test.YtklcoppfkfenfaaGreatDoorFP11
import Derived.Test.YtklcoppfkfenfaaGreatDoorFP23
import Derived.Test.YtklcoppfkfenfaaGreatDoorFP18
set_option linter.all false
set_option linter.unusedVariables false
set_option linter.unusedSimpArgs false
namespace Go.Proofs.YtklcoppfkfenfaaGreatDoor

theorem codeF_spec (l : List (List Nat)) (s : List Nat) (h : hasS l s = true) : 1 ≤ codeF l s ∧ l[codeF l s - 1]? = some s := by
  induction l with
  | nil => simp [hasS] at h
  | cons x l ih =>
    simp only [codeF]
    by_cases hx : x = s
    · subst hx; simp
    · have h' : hasS l s = true := by
        unfold hasS at h ⊢
        simp only [List.contains_eq_mem, decide_eq_true_eq, List.mem_cons] at h ⊢
        exact h.resolve_left fun e => hx e.symm
      obtain ⟨h1, h2⟩ := ih h'
      rw [if_neg hx, if_neg (by omega)]
      refine ⟨by omega, ?_⟩
      rw [show codeF l s + 1 - 1 = (codeF l s - 1) + 1 by omega, List.getElem?_cons_succ, h2]

mutual
theorem AllN.imp {P Q : NodeD → Prop} (h : ∀ n, P n → Q n) : (nd : NodeD) → AllN P nd → AllN Q nd
  | .mk _ _ _ kids, hp => ⟨h _ hp.1, AllL.imp h kids hp.2⟩
theorem AllL.imp {P Q : NodeD → Prop} (h : ∀ n, P n → Q n) : (l : List NodeD) → AllL P l → AllL Q l
  | [], _ => trivial
  | k :: ks, hp => ⟨AllN.imp h k hp.1, AllL.imp h ks hp.2⟩
end
mutual
theorem AllN.both {P Q : NodeD → Prop} : (nd : NodeD) → AllN P nd → AllN Q nd → AllN (fun n => P n ∧ Q n) nd
  | .mk _ _ _ kids, hp, hq => ⟨⟨hp.1, hq.1⟩, AllL.both kids hp.2 hq.2⟩
theorem AllL.both {P Q : NodeD → Prop} : (l : List NodeD) → AllL P l → AllL Q l → AllL (fun n => P n ∧ Q n) l
  | [], _, _ => trivial
  | k :: ks, hp, hq => ⟨AllN.both k hp.1 hq.1, AllL.both ks hp.2 hq.2⟩
end

theorem hasS_addShape (s t : List Nat) (l : List (List Nat)) (h : hasS l t = true ∨ t = s) : hasS (addShape s l) t = true := by
  unfold addShape
  split
  · rename_i hs; rcases h with h | rfl
    · exact h
    · exact hs
  · unfold hasS at *
    simp only [List.contains_eq_mem, decide_eq_true_eq, List.mem_append, List.mem_singleton] at *
    exact h
mutual
theorem shapesF_keep : (nd : NodeD) → (l : List (List Nat)) → (s : List Nat) → hasS l s = true → hasS (shapesF nd l) s = true
  | .mk t al o kids, l, s, h => by rw [shapesF]; exact shapesL_keep kids _ s (hasS_addShape _ _ _ (.inl h))
theorem shapesL_keep : (ks : List NodeD) → (l : List (List Nat)) → (s : List Nat) → hasS l s = true → hasS (shapesL ks l) s = true
  | [], l, s, h => by rw [shapesL]; exact h
  | k :: ks, l, s, h => by rw [shapesL]; exact shapesL_keep ks _ s (shapesF_keep k l s h)
end
mutual
theorem shapesF_has : (nd : NodeD) → (l : List (List Nat)) → AllN (fun n => hasS (shapesF nd l) (shapeB n) = true) nd
  | .mk t al o kids, l => by
    rw [shapesF]
    exact ⟨shapesL_keep kids _ _ (hasS_addShape _ _ _ (.inr rfl)), shapesL_has kids _⟩
theorem shapesL_has : (ks : List NodeD) → (l : List (List Nat)) → AllL (fun n => hasS (shapesL ks l) (shapeB n) = true) ks
  | [], l => trivial
  | k :: ks, l => by
    rw [shapesL]
    exact ⟨AllN.imp (fun n h => shapesL_keep ks _ _ h) k (shapesF_has k l), shapesL_has ks _⟩
end

/-- these shapes are those of abbreviations -/
def AbsOk (v : Int) (l : List (List Nat)) (abs : List AbD) : Prop := l = abs.map abB ∧ ∀ ab ∈ abs, ∃ nd, NodeP v nd ∧ ab = abOf nd
mutual
theorem shapesF_abs (v : Int) : (nd : NodeD) → (l : List (List Nat)) → (abs : List AbD) → AllN (NodeP v) nd → AbsOk v l abs → ∃ abs', AbsOk v (shapesF nd l) abs' ∧ abs'.length ≤ abs.length + nodesF nd
  | .mk t al o kids, l, abs, hp, h => by
    rw [shapesF, nodesF]
    by_cases hs : hasS l (shapeB (.mk t al o kids)) = true
    · rw [show addShape (shapeB (.mk t al o kids)) l = l by unfold addShape; rw [if_pos hs]]
      obtain ⟨a', h1, h2⟩ := shapesL_abs v kids l abs hp.2 h
      exact ⟨a', h1, by omega⟩
    · rw [show addShape (shapeB (.mk t al o kids)) l = l ++ [shapeB (.mk t al o kids)] by unfold addShape; rw [if_neg hs]]
      obtain ⟨a', h1, h2⟩ := shapesL_abs v kids (l ++ [shapeB (.mk t al o kids)]) (abs ++ [abOf (.mk t al o kids)]) hp.2 ⟨by rw [h.1, List.map_append, shapeB_eq]; rfl, fun ab hab => by
        rcases List.mem_append.1 hab with hab | hab
        · exact h.2 ab hab
        · exact ⟨_, hp.1, by simpa using hab⟩⟩
      exact ⟨a', h1, by simp only [List.length_append, List.length_cons, List.length_nil] at h2; omega⟩
theorem shapesL_abs (v : Int) : (ks : List NodeD) → (l : List (List Nat)) → (abs : List AbD) → AllL (NodeP v) ks → AbsOk v l abs → ∃ abs', AbsOk v (shapesL ks l) abs' ∧ abs'.length ≤ abs.length + nodesL ks
  | [], l, abs, _, h => ⟨abs, by rw [shapesL]; exact h, by omega⟩
  | k :: ks, l, abs, hp, h => by
    rw [shapesL, nodesL]
    obtain ⟨a1, h1, h2⟩ := shapesF_abs v k l abs hp.1 h
    obtain ⟨a2, h3, h4⟩ := shapesL_abs v ks _ a1 hp.2 h1
    exact ⟨a2, h3, by omega⟩
end
theorem AttrP.forms {v : Int} {a : AttrD} (h : AttrP v a) (hv : v < 5) : a.attr ≠ 0 ∧ AttrOkP a.attr ∧ FormOk a.form ∧ a.form ≠ 27 ∧ a.form ≠ 35 ∧ a.attr ≠ 85 ∧ a.attr ≠ 1 := by
  have h := h.2.2.2 hv
  have ha : a.attr = 3 ∨ a.attr = 37 ∨ a.attr = 27 ∨ a.attr = 17 ∨ a.attr = 18 ∨ a.attr = 28 ∨ a.attr = 16 ∨ a.attr = 67 := by omega
  refine ⟨by omega, ?_, by unfold FormOk; omega, by omega, by omega, by omega, by omega⟩
  generalize a.attr = x at *
  rcases ha with rfl | rfl | rfl | rfl | rfl | rfl | rfl | rfl <;> exact ⟨by decide, by decide⟩
theorem NodeP.abOk {v : Int} {nd : NodeD} (h : NodeP v nd) (hv : v < 5) : AbOk (abOf nd) ∧ (∀ p ∈ (abOf nd).fields, p.1 ≠ 0) ∧ (∀ p ∈ (abOf nd).fields, (p.2 ≠ 27 ∧ p.2 ≠ 35 ∧ p.2 ≠ 22) ∧ p.1 ≠ 1) ∧ (abOf nd).fields.length ≤ 1000 := by
  have hf : ∀ p ∈ (abOf nd).fields, p.1 ≠ 0 ∧ AttrOkP p.1 ∧ FormOk p.2 ∧ p.2 ≠ 27 ∧ p.2 ≠ 35 ∧ p.1 ≠ 1 := by
    intro p hp
    simp only [abOf, List.mem_map] at hp
    obtain ⟨a, ha, rfl⟩ := hp
    have := (h.1 a ha).forms hv
    exact ⟨this.1, this.2.1, this.2.2.1, this.2.2.2.1, this.2.2.2.2.1, this.2.2.2.2.2.2⟩
  have hl : (abOf nd).fields.length ≤ 8 := by simp only [abOf, List.length_map]; exact h.2.2.2
  refine ⟨⟨by have := h.2.2.1; simp only [abOf]; omega, by omega, fun p hp => ⟨(hf p hp).1, (hf p hp).2.1, (hf p hp).2.2.1⟩⟩, fun p hp => (hf p hp).1, fun p hp => ⟨⟨(hf p hp).2.2.2.1, (hf p hp).2.2.2.2.1, ?_⟩, (hf p hp).2.2.2.2.2⟩, by omega⟩
  have := (hf p hp).2.2.1
  unfold FormOk at this
  omega

/-- what is read of texts stays where it is -/
theorem valueF_str (v : Int) (wide : Bool) (ad : Nat) (a : AttrD) (st : WSt) : st.str <+: (valueF v wide ad a st).st.str := by
  unfold valueF rangesF
  simp only
  (repeat' split) <;> first | exact List.prefix_refl _ | exact List.prefix_append _ _
theorem attrsF_str (v : Int) (wide : Bool) (ad : Nat) : ∀ (al : List AttrD) (p : WSt × List FieldD), p.1.str <+: (attrsF v wide ad al p).1.str
  | [], p => by simp [attrsF]
  | a :: al, p => by
    rw [attrsF]
    exact (valueF_str v wide ad a p.1).trans (attrsF_str v wide ad al ({ (valueF v wide ad a p.1).st with info := p.1.info ++ (valueF v wide ad a p.1).bytes }, p.2 ++ [{ attr := a.attr, cls := classF a.attr a.form v, kind := (valueF v wide ad a p.1).kind, n := (valueF v wide ad a p.1).n, data := (valueF v wide ad a p.1).data }]))
theorem headF_str (v : Int) (wide : Bool) (ad : Nat) (l : List (List Nat)) (nd : NodeD) (st : WSt) : st.str <+: (headF v wide ad l nd st).str := by
  unfold headF
  exact attrsF_str v wide ad nd.attrs ({ st with offsets := st.offsets ++ [st.info.length % 4294967296], info := st.info ++ uleb (codeF l (shapeB nd)) }, [])
theorem tailF_str (nd : NodeD) (st : WSt) : (tailF nd st).str = st.str := by unfold tailF; split <;> rfl
mutual
theorem nodeF_str (v : Int) (wide : Bool) (ad : Nat) (l : List (List Nat)) : (nd : NodeD) → (st : WSt) → st.str <+: (nodeF v wide ad l nd st).str
  | .mk t al o kids, st => by
    rw [nodeF, tailF_str]
    exact (headF_str v wide ad l _ st).trans (kidsF_str v wide ad l kids _)
theorem kidsF_str (v : Int) (wide : Bool) (ad : Nat) (l : List (List Nat)) : (ks : List NodeD) → (st : WSt) → st.str <+: (kidsF v wide ad l ks st).str
  | [], st => by simp [kidsF]
  | k :: ks, st => by rw [kidsF]; exact (nodeF_str v wide ad l k st).trans (kidsF_str v wide ad l ks _)
end

/-- what is read as a value's unit -/
structure EnvOk (E : EnvD) (v : Int) (wide : Bool) (ad : Nat) (big : Bool) : Prop where
  big : E.big = big
  wide : E.wide = wide
  asize : E.asize = ad
  version : (E.version : Int) = v
theorem cutF_lt (n size : Nat) : cutF n size < 2 ^ (8 * size) := Nat.mod_lt _ (Nat.pow_pos (by decide))
theorem valueF_ok (E : EnvD) (v : Int) (wide : Bool) (ad : Nat) (a : AttrD) (st : WSt) (hE : EnvOk E v wide ad st.big) (hv : v < 5) (ha : AttrP v a) (hb : AttrB a) (hd : ∀ x ∈ a.data, x < 256) (hl : st.str.length < 4294967296)
    (hs : (valueF v wide ad a st).st.str <+: E.str) : ValOk E a.form (valueF v wide ad a st).bytes (valueF v wide ad a st).kind (valueF v wide ad a st).n (valueF v wide ad a st).data := by
  have hf := ha.forms hv
  have hr : isRangesF a = false := by unfold isRangesF; simp [hf.2.2.2.2.2.1]
  have h0 : ∀ x ∈ a.data, x ≠ 0 ∧ x < 256 := fun x hx => ⟨ha.2.2.1 x hx, hd x hx⟩
  obtain ⟨_, _, hn, _⟩ := hb
  obtain ⟨attr, form, n, data, list⟩ := a
  obtain ⟨e1, e2, e3, e4⟩ := hE
  unfold valueF at hs ⊢
  simp only [hr, Bool.false_eq_true, ↓reduceIte] at hs ⊢
  simp only at hf hn h0
  have hfo := hf.2.2.1
  have h27 := hf.2.2.2.1
  have h35 := hf.2.2.2.2.1
  clear ha hr hf
  unfold FormOk at hfo
  rw [← e1]
  rcases hfo with rfl | rfl | rfl | rfl | rfl | rfl | rfl | rfl | rfl | rfl | rfl | rfl
  · have hz : fixedF v wide ↑ad 1 = ad := by simp [fixedF]
    simp only [hz, Int.toNat_natCast]
    rw [← e3]
    simp only [Nat.reduceEqDiff, ↓reduceIte]
    exact ValOk.addr _ (cutF_lt _ _)
  · exact ValOk.data2 _ (cutF_lt n 2)
  · exact ValOk.data4 _ (cutF_lt n 4)
  · exact ValOk.data8 _ (cutF_lt n 8)
  · exact ValOk.text _ h0
  · exact ValOk.data1 _ (cutF_lt n 1)
  · exact ValOk.sdata _ hn
  · simp only [Nat.reduceEqDiff, ↓reduceIte] at hs ⊢
    have hz : (fixedF v wide ↑ad 14).toNat = wordF E.wide := by rw [e2]; simp [fixedF]
    rw [hz]
    obtain ⟨t, ht⟩ := hs
    refine ValOk.strp _ _ t h0 hl ?_
    rw [← ht, List.append_assoc, List.drop_left]
    simp
  · exact ValOk.udata _ hn
  · have hz : (fixedF v wide ↑ad 23).toNat = wordF E.wide := by rw [e2]; simp [fixedF]
    simp only [Nat.reduceEqDiff, ↓reduceIte]
    rw [hz]
    exact ValOk.sec _ (cutF_lt _ _)
  · exact absurd rfl h27
  · exact absurd rfl h35
theorem attrsF_ok (E : EnvD) (v : Int) (wide : Bool) (ad : Nat) (hv : v < 5) (had : ad ≤ 8) : ∀ (al : List AttrD) (p : WSt × List FieldD) (N : Nat), EnvOk E v wide ad p.1.big → (∀ a ∈ al, AttrP v a) → (∀ a ∈ al, AttrB a) → (∀ a ∈ al, ∀ x ∈ a.data, x < 256) →
    Small p.1 N → N + growAs al ≤ 1000000000 → (attrsF v wide ad al p).1.str <+: E.str →
    ∃ vs fs, (attrsF v wide ad al p).1.info = p.1.info ++ vs.flatten ∧ (attrsF v wide ad al p).2 = p.2 ++ fs ∧ (attrsF v wide ad al p).1.due = p.1.due ∧ FieldsOk E (al.map fun a => (a.attr, a.form)) vs fs
  | [], p, N, _, _, _, _, _, _, _ => ⟨[], [], by simp [attrsF], by simp [attrsF], by simp [attrsF], trivial⟩
  | a :: al, p, N, hE, hp, hb, hd, hS, hN, hs => by
    rw [growAs_cons] at hN
    have h1 := valueF_small v wide ad a p.1 N had (hb a (by simp)) hS (by omega)
    have hk := (valueF_keeps v wide ad a p.1).1
    rw [attrsF] at hs ⊢
    have hpre := attrsF_str v wide ad al ({ (valueF v wide ad a p.1).st with info := p.1.info ++ (valueF v wide ad a p.1).bytes }, p.2 ++ [{ attr := a.attr, cls := classF a.attr a.form v, kind := (valueF v wide ad a p.1).kind, n := (valueF v wide ad a p.1).n, data := (valueF v wide ad a p.1).data }])
    have hl : p.1.str.length < 4294967296 := by have := hS.str; omega
    have hok := valueF_ok E v wide ad a p.1 hE hv (hp a (by simp)) (hb a (by simp)) (hd a (by simp)) hl (List.IsPrefix.trans hpre hs)
    obtain ⟨vs, fs, g1, g2, g3, g4⟩ := attrsF_ok E v wide ad hv had al ({ (valueF v wide ad a p.1).st with info := p.1.info ++ (valueF v wide ad a p.1).bytes }, p.2 ++ [{ attr := a.attr, cls := classF a.attr a.form v, kind := (valueF v wide ad a p.1).kind, n := (valueF v wide ad a p.1).n, data := (valueF v wide ad a p.1).data }]) (N + growA a)
      ⟨hE.big.trans hk.big.symm, hE.wide, hE.asize, hE.version⟩ (fun x hx => hp x (by simp [hx])) (fun x hx => hb x (by simp [hx])) (fun x hx => hd x (by simp [hx]))
      (by have h2 := h1.2.1; refine ⟨h2.abv, h2.ranges, h2.str, ?_, h2.rngs, h2.strs, h2.addrs, h2.offsets, h2.units, h2.places, h2.due, h2.lists, h2.flat⟩; have := hS.info; simp only [List.length_append]; omega)
      (by omega) hs
    refine ⟨(valueF v wide ad a p.1).bytes :: vs, { attr := a.attr, cls := classF a.attr a.form v, kind := (valueF v wide ad a p.1).kind, n := (valueF v wide ad a p.1).n, data := (valueF v wide ad a p.1).data } :: fs, ?_, ?_, ?_, ?_⟩
    · rw [g1]; simp
    · rw [g2]; simp
    · rw [g3]; exact h1.2.2.2.1
    · exact ⟨⟨rfl, by simp only; rw [hE.version], hok⟩, g4⟩

/-- a node that the writer takes -/
def NodeW (v : Int) (l : List (List Nat)) (n : NodeD) : Prop := NodeP v n ∧ (∀ a ∈ n.attrs, AttrB a) ∧ (∀ a ∈ n.attrs, ∀ x ∈ a.data, x < 256) ∧ hasS l (shapeB n) = true
theorem abs_get {v : Int} {l : List (List Nat)} {abs : List AbD} (h : AbsOk v l abs) (hv : v < 5) {nd : NodeD} (hn : NodeP v nd) (hs : hasS l (shapeB nd) = true) : 1 ≤ codeF l (shapeB nd) ∧ abs[codeF l (shapeB nd) - 1]? = some (abOf nd) := by
  obtain ⟨h1, h2⟩ := codeF_spec l (shapeB nd) hs
  refine ⟨h1, ?_⟩
  generalize codeF l (shapeB nd) - 1 = k at *
  rw [h.1, List.getElem?_map] at h2
  cases hk : abs[k]? with
  | none => rw [hk] at h2; cases h2
  | some ab =>
    rw [hk] at h2
    simp only [Option.map_some, Option.some.injEq] at h2
    obtain ⟨nd', hn', rfl⟩ := h.2 ab (List.mem_of_getElem? hk)
    rw [shapeB_eq] at h2
    exact congrArg some (abB_inj _ _ (hn'.abOk hv).2.1 (hn.abOk hv).2.1 h2)
theorem headF_ok (E : EnvD) (v : Int) (wide : Bool) (ad : Nat) (hv : v < 5) (had : ad ≤ 8) (l : List (List Nat)) (abs : List AbD) (hab : AbsOk v l abs) (hll : l.length < 4294967296) (nd : NodeD) (st : WSt) (N : Nat) (hE : EnvOk E v wide ad st.big) (hw : NodeW v l nd)
    (hS : Small st N) (hN : N + (12 + growAs nd.attrs) ≤ 1000000000) (hs : (headF v wide ad l nd st).str <+: E.str) :
    ∃ p, (headF v wide ad l nd st).info = st.info ++ p.bytes ∧ (headF v wide ad l nd st).due = st.due ++ [p.e] ∧ PieceOk E abs st.info.length p ∧ p.code < 4294967296 := by
  have hc := codeF_le l (shapeB nd)
  have hu := uleb_len64 (codeF l (shapeB nd)) (by omega)
  have h1 : Small { st with offsets := st.offsets ++ [st.info.length % 4294967296], info := st.info ++ uleb (codeF l (shapeB nd)) } (N + 10) := by
    have hm := hS.mono (M := N + 10) (by omega)
    refine ⟨hm.abv, hm.ranges, hm.str, ?_, hm.rngs, hm.strs, hm.addrs, ?_, hm.units, hm.places, hm.due, hm.lists, hm.flat⟩
    · have := hS.info; simp only [List.length_append]; omega
    · have := hS.offsets; simp only [List.length_append, List.length_cons, List.length_nil]; omega
  unfold headF at hs ⊢
  simp only at hs ⊢
  obtain ⟨vs, fs, g1, g2, g3, g4⟩ := attrsF_ok E v wide ad hv had nd.attrs ({ st with offsets := st.offsets ++ [st.info.length % 4294967296], info := st.info ++ uleb (codeF l (shapeB nd)) }, []) (N + 10) hE hw.1.1 hw.2.1 hw.2.2.1 h1 (by omega) hs
  obtain ⟨k1, k2⟩ := abs_get hab hv hw.1 hw.2.2.2
  have hil : st.info.length % 4294967296 = st.info.length := Nat.mod_eq_of_lt (by have := hS.info; omega)
  refine ⟨{ code := codeF l (shapeB nd), vals := vs, e := { off := st.info.length % 4294967296, tag := nd.tag, children := childF nd, fields := fs } }, ?_, ?_, .inr ⟨abOf nd, k1, k2, hil, rfl, ?_, rfl, g4⟩, by simp only; omega⟩
  · rw [g1]; simp [PieceD.bytes]
  · rw [g3, g2]; simp
  · have := hw.1.2.1; simp only [abOf]; omega
/-- entries that the writer has made -/
def Pieces (E : EnvD) (abs : List AbD) (st st' : WSt) : Prop :=
  ∃ ps, st'.info = st.info ++ piecesB ps ∧ st'.due = st.due ++ ps.map PieceD.e ∧ PiecesOk E abs st.info.length ps ∧ (∀ p ∈ ps, p.code < 4294967296)
theorem Pieces.refl (E : EnvD) (abs : List AbD) (st : WSt) : Pieces E abs st st := ⟨[], by simp [piecesB], by simp, trivial, by simp⟩
theorem Pieces.trans {E : EnvD} {abs : List AbD} {a b c : WSt} (h : Pieces E abs a b) (k : Pieces E abs b c) : Pieces E abs a c := by
  obtain ⟨p, h1, h2, h3, h4⟩ := h
  obtain ⟨q, k1, k2, k3, k4⟩ := k
  refine ⟨p ++ q, by rw [k1, h1, piecesB_append, List.append_assoc], by rw [k2, h2, List.map_append, List.append_assoc], h3.append ?_, fun x hx => (List.mem_append.1 hx).elim (h4 x) (k4 x)⟩
  rw [h1, List.length_append] at k3
  exact k3
theorem tailF_pieces (E : EnvD) (abs : List AbD) (nd : NodeD) (st : WSt) : Pieces E abs st (tailF nd st) := by
  unfold tailF
  split
  · refine ⟨[endP], ?_, rfl, ⟨.inl rfl, trivial⟩, by simp [endP]⟩
    simp [piecesB, PieceD.bytes, endP, uleb_lt 0 (by decide)]
  · exact Pieces.refl _ _ _
theorem nodeF_big (v : Int) (wide : Bool) (ad : Nat) (l : List (List Nat)) (nd : NodeD) (st : WSt) : (nodeF v wide ad l nd st).big = st.big := (nodeF_keeps v wide ad l nd st).big
mutual
theorem nodeF_ok (E : EnvD) (v : Int) (wide : Bool) (ad : Nat) (hv : v < 5) (had : ad ≤ 8) (l : List (List Nat)) (abs : List AbD) (hab : AbsOk v l abs) (hll : l.length < 4294967296) : (nd : NodeD) → (st : WSt) → (N : Nat) → EnvOk E v wide ad st.big → AllN (NodeW v l) nd → Small st N → N + costF nd ≤ 1000000000 →
    (nodeF v wide ad l nd st).str <+: E.str → Pieces E abs st (nodeF v wide ad l nd st)
  | .mk t al o kids, st, N, hE, hw, hS, hN, hs => by
    rw [costF] at hN
    rw [nodeF] at hs ⊢
    rw [tailF_str] at hs
    have h1 := headF_small v wide ad had l (.mk t al o kids) st N (by omega) hw.1.2.1 hS (by simp only [NodeD.attrs]; omega)
    simp only [NodeD.attrs] at h1
    have hk := headF_keeps v wide ad l (.mk t al o kids) st
    obtain ⟨p, g1, g2, g3, g4⟩ := headF_ok E v wide ad hv had l abs hab hll (.mk t al o kids) st N hE hw.1 hS (by simp only [NodeD.attrs]; omega) ((kidsF_str v wide ad l kids _).trans hs)
    have g5 := kidsF_ok E v wide ad hv had l abs hab hll kids _ _ ⟨hE.big.trans hk.big.symm, hE.wide, hE.asize, hE.version⟩ hw.2 h1 (by omega) hs
    have g6 : Pieces E abs st (headF v wide ad l (.mk t al o kids) st) := ⟨[p], by rw [g1]; simp [piecesB], by rw [g2]; rfl, ⟨g3, trivial⟩, by simpa using g4⟩
    exact (g6.trans g5).trans (tailF_pieces _ _ _ _)
theorem kidsF_ok (E : EnvD) (v : Int) (wide : Bool) (ad : Nat) (hv : v < 5) (had : ad ≤ 8) (l : List (List Nat)) (abs : List AbD) (hab : AbsOk v l abs) (hll : l.length < 4294967296) : (ks : List NodeD) → (st : WSt) → (N : Nat) → EnvOk E v wide ad st.big → AllL (NodeW v l) ks → Small st N → N + costL ks ≤ 1000000000 →
    (kidsF v wide ad l ks st).str <+: E.str → Pieces E abs st (kidsF v wide ad l ks st)
  | [], st, N, _, _, _, _, _ => by rw [kidsF]; exact Pieces.refl _ _ _
  | k :: ks, st, N, hE, hw, hS, hN, hs => by
    rw [costL] at hN
    rw [kidsF] at hs ⊢
    have h1 := nodeF_small v wide ad had l (by omega) k st N (AllN.imp (fun _ h => h.2.1) k hw.1) hS (by omega)
    have g1 := nodeF_ok E v wide ad hv had l abs hab hll k st N hE hw.1 hS (by omega) ((kidsF_str v wide ad l ks _).trans hs)
    exact g1.trans (kidsF_ok E v wide ad hv had l abs hab hll ks _ _ ⟨hE.big.trans (nodeF_big v wide ad l k st).symm, hE.wide, hE.asize, hE.version⟩ hw.2 h1 (by omega) hs)
end

/-- no texts, places, lists in tables -/
def NoTabs (st : WSt) : Prop := st.places = [] ∧ st.lists = []
theorem valueF_notabs (v : Int) (wide : Bool) (ad : Nat) (a : AttrD) (st : WSt) (hv : v < 5) (ha : AttrP v a) (h : NoTabs st) : NoTabs (valueF v wide ad a st).st := by
  have hf := ha.forms hv
  unfold valueF
  have hr : isRangesF a = false := by unfold isRangesF; simp [hf.2.2.2.2.2.1]
  simp only [hr, Bool.false_eq_true, ↓reduceIte, hf.2.2.2.1]
  (repeat' split) <;> exact h
theorem attrsF_notabs (v : Int) (wide : Bool) (ad : Nat) (hv : v < 5) : ∀ (al : List AttrD) (p : WSt × List FieldD), (∀ a ∈ al, AttrP v a) → NoTabs p.1 → NoTabs (attrsF v wide ad al p).1
  | [], p, _, h => by simpa [attrsF] using h
  | a :: al, p, ha, h => by
    rw [attrsF]
    exact attrsF_notabs v wide ad hv al _ (fun x hx => ha x (by simp [hx])) (valueF_notabs v wide ad a p.1 hv (ha a (by simp)) h)
mutual
theorem nodeF_notabs (v : Int) (wide : Bool) (ad : Nat) (hv : v < 5) (l : List (List Nat)) : (nd : NodeD) → (st : WSt) → AllN (NodeP v) nd → NoTabs st → NoTabs (nodeF v wide ad l nd st)
  | .mk t al o kids, st, hp, h => by
    rw [nodeF]
    have h1 : NoTabs (headF v wide ad l (.mk t al o kids) st) := attrsF_notabs v wide ad hv al ({ st with offsets := st.offsets ++ [st.info.length % 4294967296], info := st.info ++ uleb (codeF l (shapeB (.mk t al o kids))) }, []) hp.1.1 h
    have h2 := kidsF_notabs v wide ad hv l kids _ hp.2 h1
    unfold tailF; split <;> exact h2
theorem kidsF_notabs (v : Int) (wide : Bool) (ad : Nat) (hv : v < 5) (l : List (List Nat)) : (ks : List NodeD) → (st : WSt) → AllL (NodeP v) ks → NoTabs st → NoTabs (kidsF v wide ad l ks st)
  | [], st, _, h => by rw [kidsF]; exact h
  | k :: ks, st, hp, h => by rw [kidsF]; exact kidsF_notabs v wide ad hv l ks _ hp.2 (nodeF_notabs v wide ad hv l k st hp.1 h)
end

theorem nodeF_grow (v : Int) (wide : Bool) (ad : Nat) (l : List (List Nat)) (nd : NodeD) (st : WSt) : st.info.length < (nodeF v wide ad l nd st).info.length := by
  cases nd with
  | mk t al o kids =>
  rw [nodeF]
  obtain ⟨t1, h1⟩ := (attrsF_keeps v wide ad al ({ st with offsets := st.offsets ++ [st.info.length % 4294967296], info := st.info ++ uleb (codeF l (shapeB (.mk t al o kids))) }, [])).info
  obtain ⟨t2, h2⟩ := (kidsF_keeps v wide ad l kids (headF v wide ad l (.mk t al o kids) st)).info
  obtain ⟨t3, h3⟩ := (tailF_keeps (.mk t al o kids) (kidsF v wide ad l kids (headF v wide ad l (.mk t al o kids) st))).info
  have h1' : (headF v wide ad l (.mk t al o kids) st).info = st.info ++ uleb (codeF l (shapeB (.mk t al o kids))) ++ t1 := h1
  have := uleb_pos (codeF l (shapeB (.mk t al o kids)))
  rw [h3, h2, h1']
  simp only [List.length_append]
  omega
theorem prefix_len {a b : List Nat} (h : a <+: b) : a.length ≤ b.length := h.length_le
mutual
theorem nodesF_cost (v : Int) : (nd : NodeD) → AllN (NodeP v) nd → costF nd ≤ 2436 * nodesF nd
  | .mk t al o kids, h => by
    have h2 := nodesL_cost v kids h.2
    have h3 : growAs al ≤ 302 * al.length := by
      have : ∀ l : List AttrD, (∀ a ∈ l, AttrP v a) → growAs l ≤ 302 * l.length := by
        intro l
        induction l with
        | nil => intro _; simp [growAs]
        | cons a l ih =>
          intro hl
          have h1 := hl a (by simp)
          have h2 := ih fun x hx => hl x (by simp [hx])
          rw [growAs_cons, List.length_cons]
          unfold growA
          have := h1.1; have := h1.2.1
          omega
      exact this al h.1.1
    have h4 := h.1.2.2.2
    simp only [NodeD.attrs] at h4
    rw [costF, nodesF]
    omega
theorem nodesL_cost (v : Int) : (ks : List NodeD) → AllL (NodeP v) ks → costL ks ≤ 2436 * nodesL ks
  | [], _ => by simp [costL, nodesL]
  | k :: ks, h => by
    have h1 := nodesF_cost v k h.1
    have h2 := nodesL_cost v ks h.2
    rw [costL, nodesL]; omega
end
theorem pairsB_len : ∀ (l : List (Nat × Nat)), (∀ p ∈ l, p.1 < 18446744073709551616 ∧ p.2 < 18446744073709551616) → (pairsB l).length ≤ 20 * l.length
  | [], _ => by simp [pairsB]
  | p :: l, h => by
    have h1 := uleb_len64 p.1 (h p (by simp)).1
    have h2 := uleb_len64 p.2 (h p (by simp)).2
    have h3 := pairsB_len l fun x hx => h x (by simp [hx])
    simp only [pairsB, List.flatMap_cons, List.length_append, List.length_cons] at h3 ⊢
    omega
theorem tabB_len : ∀ (abs : List AbD) (k : Nat), (∀ ab ∈ abs, AbOk ab ∧ ab.fields.length ≤ 8) → k + abs.length < 18446744073709551616 → (tabB abs k).length ≤ 200 * abs.length
  | [], _, _, _ => by simp [tabB]
  | a :: l, k, h, hk => by
    simp only [List.length_cons] at hk
    have h0 := h a (by simp)
    have h1 := uleb_len64 k (by omega)
    have h2 := uleb_len64 a.tag (by have := h0.1.1; omega)
    have h3 := pairsB_len a.fields fun p hp => ⟨by have := (h0.1.2.2 p hp).2.1.1; omega, by have := ((h0.1.2.2 p hp).2.2).lt; omega⟩
    have h4 := tabB_len l (k + 1) (fun x hx => h x (by simp [hx])) (by omega)
    have h5 := h0.2
    simp only [tabB, abB, List.length_append, List.length_cons, List.length_nil] at h4 ⊢
    omega
theorem absOk_len {v : Int} {l : List (List Nat)} {abs : List AbD} (h : AbsOk v l abs) (hv : v < 5) : ∀ ab ∈ abs, AbOk ab ∧ ab.fields.length ≤ 8 := by
  intro ab hab
  obtain ⟨nd, hn, rfl⟩ := h.2 ab hab
  exact ⟨(hn.abOk hv).1, by simp only [abOf, List.length_map]; exact hn.2.2.2⟩

/-- what the writer takes of a node beside its form -/
def NodeQ (n : NodeD) : Prop := ∀ a ∈ n.attrs, AttrB a ∧ ∀ x ∈ a.data, x < 256
theorem unit_abs (u : UnitD) (hp : AllN (NodeP u.version) u.root) (hv : u.version < 5) (hn : nodesF u.root ≤ 1000) : ∃ abs, AbsOk u.version (shapesF u.root []) abs ∧ abs.length ≤ nodesF u.root ∧ (abbrevB (shapesF u.root []) 1) = tabB abs 1 ∧ (tabB abs 1).length ≤ 200000 := by
  obtain ⟨abs, h1, h2⟩ := shapesF_abs u.version u.root [] [] hp ⟨rfl, fun x hx => by cases hx⟩
  simp only [List.length_nil, Nat.zero_add] at h2
  refine ⟨abs, h1, h2, by rw [h1.1]; exact abbrevB_tab _ _, ?_⟩
  have := tabB_len abs 1 (absOk_len h1 hv) (by omega)
  omega
theorem unitF_small (u : UnitD) (st : WSt) (N : Nat) (hu : UnitP u) (hv : u.version < 5) (hq : AllN NodeQ u.root) (hn : nodesF u.root ≤ 1000) (h : Small st N) (hN : N ≤ 100000000) (hnt : NoTabs st) :
    Small (unitF u st) (N + 4000000) ∧ NoTabs (unitF u st) ∧ Small (unitS4 u st) (N + 4000000) ∧ NoTabs (unitS4 u st) := by
  obtain ⟨h1, h2, h3, h4, h5, h6⟩ := hu
  obtain ⟨abs, ha1, ha2, ha3, ha4⟩ := unit_abs u h6 hv hn
  have hc := nodesF_cost u.version u.root h6
  have hs2 := unitS2_small u st N h (by rw [ha3]; omega)
  have hbU : basedU u st = u := by unfold basedU; rw [if_pos hv]
  have hbS : basedS u st = st := by unfold basedS; rw [if_pos hv]
  have hll := shapesF_len u.root []
  simp only [List.length_nil, Nat.zero_add] at hll
  have hs3 : Small (unitS3 u st) (N + 1000100 + costF u.root) := nodeF_small u.version u.wide u.address.toNat (by omega) (shapesF u.root []) (by omega) u.root (unitS2 u st) _ (AllN_mono (fun n h a ha => (h a ha).1) _ hq) hs2 (by omega)
  have hs4 := unitS4_small u st _ hs3
  have hn3 : NoTabs (unitS3 u st) := nodeF_notabs u.version u.wide u.address.toNat hv (shapesF u.root []) u.root (unitS2 u st) h6 hnt
  have hn4 : NoTabs (unitS4 u st) := hn3
  have he : unitF u st = { unitS4 u st with places := [], lists := [] } := by
    rw [unitF_eq, hbU, hbS]
    unfold tablesF
    simp only [hn4.1, hn4.2, List.length_nil, Nat.lt_irrefl, ↓reduceIte]
  have hs5 := hs4.mono (M := N + 4000000) (by omega)
  refine ⟨?_, ?_, hs5, hn4⟩
  · rw [he]; exact ⟨hs5.abv, hs5.ranges, hs5.str, hs5.info, hs5.rngs, hs5.strs, hs5.addrs, hs5.offsets, hs5.units, by simp, hs5.due, by simp, by simp⟩
  · rw [he]; exact ⟨rfl, rfl⟩
theorem unitF_ok (abv str : List Nat) (u : UnitD) (st : WSt) (N : Nat) (hu : UnitP u) (hv : u.version < 5) (hq : AllN NodeQ u.root) (hn : nodesF u.root ≤ 1000) (h : Small st N) (hN : N ≤ 100000000) (hnt : NoTabs st)
    (ha : (unitF u st).abv <+: abv) (hs : (unitF u st).str <+: str) :
    ∃ r, (unitF u st).info = st.info ++ r.bytes st.big ∧ (unitF u st).due = st.due ++ r.ps.map PieceD.e ∧ UROk st.big abv str st.info.length r ∧ r.aoff = st.abv.length ∧ st.abv.length < (unitF u st).abv.length ∧ (unitF u st).big = st.big ∧ st.abv <+: (unitF u st).abv ∧ st.str <+: (unitF u st).str := by
  obtain ⟨h1, h2, h3, h4, h5, h6⟩ := hu
  obtain ⟨abs, ha1, ha2, ha3, ha4⟩ := unit_abs u h6 hv hn
  have hc := nodesF_cost u.version u.root h6
  have hs2 := unitS2_small u st N h (by rw [ha3]; omega)
  have hbU : basedU u st = u := by unfold basedU; rw [if_pos hv]
  have hbS : basedS u st = st := by unfold basedS; rw [if_pos hv]
  have hll := shapesF_len u.root []
  simp only [List.length_nil, Nat.zero_add] at hll
  have hn3 : NoTabs (unitS3 u st) := nodeF_notabs u.version u.wide u.address.toNat hv (shapesF u.root []) u.root (unitS2 u st) h6 hnt
  have hn4 : NoTabs (unitS4 u st) := hn3
  have he : unitF u st = { unitS4 u st with places := [], lists := [] } := by
    rw [unitF_eq, hbU, hbS]
    unfold tablesF
    simp only [hn4.1, hn4.2, List.length_nil, Nat.lt_irrefl, ↓reduceIte]
  have hkeep := nodeF_keeps u.version u.wide u.address.toNat (shapesF u.root []) u.root (unitS2 u st)
  have hstr : (unitS2 u st).str <+: (unitS3 u st).str := nodeF_str u.version u.wide u.address.toNat (shapesF u.root []) u.root (unitS2 u st)
  have hvn : ((u.version.toNat : Nat) : Int) = u.version := by omega
  have had : u.address.toNat = 4 ∨ u.address.toNat = 8 := by omega
  have hhd : headB u st = num u.version.toNat 2 st.big ++ (num st.abv.length (wordF u.wide) st.big ++ [u.address.toNat]) := by
    unfold headB; rw [if_neg (by omega), Nat.mod_eq_of_lt (by omega)]
  have hE : ∀ ps, EnvOk (URD.env st.big str { version := u.version.toNat, wide := u.wide, asize := u.address.toNat, aoff := st.abv.length, abs := abs, ps := ps }) u.version u.wide u.address.toNat (unitS2 u st).big := fun ps => ⟨rfl, rfl, rfl, hvn⟩
  have hw : AllN (NodeW u.version (shapesF u.root [])) u.root := AllN.imp (fun n h => ⟨h.1.1, fun a ha => (h.1.2 a ha).1, fun a ha => (h.1.2 a ha).2, h.2⟩) _ (AllN.both _ (AllN.both _ h6 hq) (shapesF_has u.root []))
  have hs' : (unitS3 u st).str <+: str := by rw [he] at hs; exact hs
  obtain ⟨ps, g1, g2, g3, g4⟩ := nodeF_ok (URD.env st.big str { version := u.version.toNat, wide := u.wide, asize := u.address.toNat, aoff := st.abv.length, abs := abs, ps := [] }) u.version u.wide u.address.toNat hv (by omega) (shapesF u.root []) abs ha1 (by omega) u.root (unitS2 u st) _ (hE []) hw hs2 (by omega) hs'
  have hi3 : (unitS3 u st).info = st.info ++ (lenB 0 u.wide st.big ++ headB u st) ++ piecesB ps := g1
  have hdrop : (unitS3 u st).info.drop (st.info.length + (lenB 0 u.wide st.big).length) = headB u st ++ piecesB ps := by
    rw [hi3, ← List.append_assoc st.info, List.append_assoc, ← List.length_append, List.drop_left]
  have hnz : ps ≠ [] := by
    intro e
    subst e
    have h1 := nodeF_grow u.version u.wide u.address.toNat (shapesF u.root []) u.root (unitS2 u st)
    rw [g1] at h1
    simp [piecesB] at h1
  refine ⟨{ version := u.version.toNat, wide := u.wide, asize := u.address.toNat, aoff := st.abv.length, abs := abs, ps := ps }, ?_, ?_, ?_, rfl, ?_, ?_, ?_, ?_⟩
  · rw [he]
    show (unitS4 u st).info = _
    unfold unitS4
    simp only
    rw [hdrop, hhd]
    simp only [URD.bytes, URD.body, List.append_assoc]
  · rw [he]; exact g2
  · refine ⟨by simp only; omega, had, ?_, fun ab hab => ?_, by simp only; omega, ?_, g4, hnz⟩
    · rw [he] at ha
      have e : (unitS4 u st).abv = st.abv ++ (tabB abs 1 ++ [0]) := by
        show (unitS3 u st).abv = _
        rw [show (unitS3 u st).abv = (unitS2 u st).abv from hkeep.abv, ← ha3]; rfl
      obtain ⟨t, ht⟩ := ha
      simp only at ht
      rw [e] at ht
      exact ⟨st.abv, t, by rw [← ht]; simp, rfl⟩
    · obtain ⟨nd, hnd, rfl⟩ := ha1.2 ab hab
      exact ⟨(hnd.abOk hv).1, (hnd.abOk hv).2.2.1, (hnd.abOk hv).2.2.2⟩
    · have el : (unitS2 u st).info.length = st.info.length + URD.hd { version := u.version.toNat, wide := u.wide, asize := u.address.toNat, aoff := st.abv.length, abs := abs, ps := ps } := by
        show (st.info ++ (lenB 0 u.wide st.big ++ headB u st)).length = _
        rw [hhd]
        simp only [URD.hd, List.length_append, lenB_length, num_length, List.length_cons, List.length_nil]
      rw [el] at g3
      exact g3
  · rw [he]
    show _ < (unitS3 u st).abv.length
    rw [show (unitS3 u st).abv = (unitS2 u st).abv from hkeep.abv]
    simp [unitS2]
  · rw [he]; exact hkeep.big
  · rw [he]
    show _ <+: (unitS3 u st).abv
    rw [show (unitS3 u st).abv = (unitS2 u st).abv from hkeep.abv]
    exact List.prefix_append _ _
  · rw [he]; exact hstr

/-- all units -/
theorem allF_ok (abv str : List Nat) : ∀ (us : List UnitD) (st : WSt) (N : Nat), (∀ u ∈ us, UnitP u ∧ u.version < 5 ∧ AllN NodeQ u.root ∧ nodesF u.root ≤ 1000) → Small st N → N + 4000000 * us.length ≤ 100000000 → NoTabs st → (allF us st).abv <+: abv → (allF us st).str <+: str →
    ∃ rs, (allF us st).info = st.info ++ rs.flatMap (URD.bytes st.big) ∧ (allF us st).due = st.due ++ rs.flatMap (fun r => r.ps.map PieceD.e) ∧ URsOk st.big abv str st.info.length rs ∧ rs.length = us.length ∧ rs.Pairwise (fun a b => a.aoff < b.aoff) ∧ (∀ r ∈ rs, st.abv.length ≤ r.aoff) ∧
      Small (allF us st) (N + 4000000 * us.length) ∧ NoTabs (allF us st) ∧ st.abv <+: (allF us st).abv ∧ st.str <+: (allF us st).str
  | [], st, N, _, hS, _, hnt, _, _ => ⟨[], by simp [allF], by simp [allF], trivial, rfl, List.Pairwise.nil, by simp, by simpa [allF] using hS, hnt, List.prefix_refl _, List.prefix_refl _⟩
  | u :: us, st, N, hu, hS, hN, hnt, ha, hs => by
    simp only [List.length_cons] at hN ⊢
    obtain ⟨u1, u2, u3, u4⟩ := hu u (by simp)
    have e : allF (u :: us) st = allF us (unitF u st) := rfl
    rw [e] at ha hs ⊢
    have hsm := unitF_small u st N u1 u2 u3 u4 hS (by omega) hnt
    -- what the later units leave
    have hpre : (unitF u st).abv <+: (allF us (unitF u st)).abv ∧ (unitF u st).str <+: (allF us (unitF u st)).str := by
      obtain ⟨_, _, _, _, _, _, _, _, _, p1, p2⟩ := allF_ok (allF us (unitF u st)).abv (allF us (unitF u st)).str us (unitF u st) (N + 4000000) (fun x hx => hu x (by simp [hx])) hsm.1 (by omega) hsm.2.1 (List.prefix_refl _) (List.prefix_refl _)
      exact ⟨p1, p2⟩
    obtain ⟨r, r1, r2, r3, r4, r5, r6, r7, r8⟩ := unitF_ok abv str u st N u1 u2 u3 u4 hS (by omega) hnt (hpre.1.trans ha) (hpre.2.trans hs)
    obtain ⟨rs, q1, q2, q3, q4, q5, q6, q7, q8, q9, q10⟩ := allF_ok abv str us (unitF u st) (N + 4000000) (fun x hx => hu x (by simp [hx])) hsm.1 (by omega) hsm.2.1 ha hs
    rw [r6] at q1 q3
    refine ⟨r :: rs, ?_, ?_, ⟨r3, ?_⟩, by simp [q4], List.pairwise_cons.2 ⟨fun x hx => ?_, q5⟩, fun x hx => ?_, ?_, q8, r7.trans q9, r8.trans q10⟩
    · rw [q1, r1]; simp
    · rw [q2, r2]; simp
    · rw [r1, List.length_append] at q3; exact q3
    · have := q6 x hx; omega
    · rcases List.mem_cons.1 hx with rfl | hx
      · omega
      · have := q6 x hx; omega
    · have e2 : N + 4000000 + 4000000 * us.length = N + 4000000 * (us.length + 1) := by omega
      rw [e2] at q7; exact q7
end Go.Proofs.YtklcoppfkfenfaaGreatDoor
