/-
  A region that draws its order, as in RG, with the rest of it behind a structure: for great frames. Words for a walk over a great frame of which only some slots are known: the rest stays out of sight.
-/
import Derived.Test.YtklcoppfkfenfaaGreatDoorFP06
import Derived.Test.YtklcoppfkfenfaaGreatDoorFP27
set_option linter.all false
set_option linter.unusedVariables false
set_option linter.unusedSimpArgs false
namespace Go.Proofs.YtklcoppfkfenfaaGreatDoor
set_option maxRecDepth 100000
open Go Go.RowKit

structure WpS (P : Program) (ops : Array Oper) (Q : Exit → Act → World → Prop) (S0 : Bs) (l : List (Oper × Nat)) (a : Act) (w : World) : Prop where
  out : wpSeq P ops Q S0 l a w
section
variable {P : Program} {ops : Array Oper} {Q : Exit → Act → World → Prop} {n0 : Nat} {S0 : Bs}
theorem wp_region_S {id : Nat} {a : Act} {w : World} (S0 : Bs) (n0 : Nat) (l : List (Nat × Bool)) (hm : P.follows .mixedOrders = true) (hB : (Region.noSelect ops && (plainB ops l && (l.length == ops.size && ordB ops n0 l (Array.replicate ops.size false)))) = true)
    (hQ : ∀ c a w d v, Q (.panic c) (Act.put a d v) w → Q (.panic c) a w) (h : WpS P ops Q S0 (pickB ops n0 l) a w.drew) : (Code.region id ops true).wp P Q a w :=
  wp_region_seq S0 n0 l hm hB hQ h.out
theorem seqS_nil {a : Act} {w : World} (h : Q .normal a w) : WpS P ops Q S0 [] a w := ⟨h⟩
theorem seqS_val {o : Oper} {r : List (Oper × Nat)} {a : Act} {w : World} {v : Value} (h : ∀ w', Frame S0 w w' → (execOp a.eval o).run P w' = .ok (.value v) w') (hr : WpS P ops Q S0 r (a.put o.dst v) w) : WpS P ops Q S0 ((o, 0) :: r) a w := ⟨⟨v, h, hr.out⟩⟩
theorem seqS_new {o : Oper} {r : List (Oper × Nat)} {a : Act} {w : World} (h : ∀ K : Act → World → Prop, (∀ a' w', Frame S0 w w' ∧ WpS P ops Q S0 r a' w' → K a' w') → o.wp P a w K Q) : WpS P ops Q S0 ((o, 1) :: r) a w := ⟨h _ fun _ _ h => ⟨h.1, h.2.out⟩⟩
theorem seqS_out {o : Oper} {r : List (Oper × Nat)} {a : Act} {w : World} (h : ∀ K : Act → World → Prop, (∀ a' w', WpS P ops Q S0 r a' w' → K a' w') → o.wp P a w K Q) : WpS P ops Q S0 ((o, 2) :: r) a w := ⟨h _ fun _ _ h => h.out⟩
end
end Go.Proofs.YtklcoppfkfenfaaGreatDoor
namespace Go.Proofs.YtklcoppfkfenfaaGreatDoor
set_option maxRecDepth 100000
open Go Go.RowKit

/-- the slots ks hold the values vs; there are n slots, and nothing is deferred -/
structure St (n : Nat) (ks : List Nat) (vs : List Value) (a : Act) : Prop where
  size : a.tmps.size = n
  defers : a.defers = []
  val : ∀ (i t : Nat) (v : Value), ks[i]? = some t → vs[i]? = some v → a.tmps[t]? = some v
theorem St.get {n : Nat} {ks : List Nat} {vs : List Value} {a : Act} (h : St n ks vs a) (i t : Nat) (v : Value) (h1 : ks[i]? = some t) (h2 : vs[i]? = some v) : a.tmps[t]? = some v := h.val i t v h1 h2
theorem St.set {n : Nat} {ks : List Nat} {vs : List Value} {a : Act} (h : St n ks vs a) (t : Nat) (v : Value) (ht : t ∉ ks) : St n ks vs ⟨a.tmps.setIfInBounds t v, a.defers⟩ := by
  refine ⟨by simp [h.size], h.defers, fun i t' v' h1 h2 => ?_⟩
  have hne : t' ≠ t := fun e => ht (e ▸ List.mem_of_getElem? h1)
  simp only
  rw [Array.getElem?_setIfInBounds_ne (Ne.symm hne)]
  exact h.val i t' v' h1 h2
theorem St.setV {n : Nat} {ks : List Nat} {vs : List Value} {T : Array Value} {d : List Deferred} (h : St n ks vs ⟨T, d⟩) (t : Nat) (v : Value) (ht : t ∉ ks) : St n ks vs ⟨T.setIfInBounds t v, d⟩ := h.set t v ht
theorem St.mk' {n : Nat} {ks : List Nat} {vs : List Value} {a : Act} (h : St n ks vs a) : St n ks vs ⟨a.tmps, a.defers⟩ := h
/-- one slot more is known -/
theorem St.more {n : Nat} {ks : List Nat} {vs : List Value} {a : Act} (h : St n ks vs a) {t : Nat} {v : Value} (hv : a.tmps[t]? = some v) : St n (t :: ks) (v :: vs) a := by
  refine ⟨h.size, h.defers, fun i t' v' h1 h2 => ?_⟩
  cases i with
  | zero => simp at h1 h2; subst h1; subst h2; exact hv
  | succ i => exact h.val i t' v' (by simpa using h1) (by simpa using h2)
theorem St.tail {n t : Nat} {ks : List Nat} {v : Value} {vs : List Value} {a : Act} (h : St n (t :: ks) (v :: vs) a) : St n ks vs a :=
  ⟨h.size, h.defers, fun i t' v' h1 h2 => h.val (i + 1) t' v' (by simpa using h1) (by simpa using h2)⟩
theorem eval_tmp {a : Act} {t : Nat} {v : Value} (h : a.tmps[t]? = some v) : a.eval (.tmp t) = v := by
  simp [Act.eval, h]

section
variable {Q : Exit → Act → World → Prop} {w : World} {n : Nat} {ks : List Nat} {vs : List Value} {a : Act}

/-- a test of a switch -/
theorem sw_test {id s d1 d2 t1 t2 : Nat} {p1 p2 : String} {af1 af2 : Array Edge} {x k : Int} {ty : TypeId} (hst : St n ks vs a) (hx : a.tmps[s]? = some (.int .u32 x)) (h1 : d1 < n) (h2 : d2 < n) (k1 : d1 ∉ ks) (k2 : d2 ∉ ks)
    (b : Bool) (hb : (x == k) = b) (H : ∀ a', St n ks vs a' → a'.tmps[d2]? = some (.bool b) → Q .normal a' w) :
    (Code.region id #[⟨some d1, .binOp .eql ty (.tmp s) (.const (.int .u32 k)) ty, t1, p1, af1, none⟩, ⟨some d2, .assign (.tmp d1), t2, p2, af2, none⟩] false).wp Tryz.prog Q a w := by
  have hsz := hst.size
  have g1 : d1 < a.tmps.size := by omega
  have g2 : d2 < a.tmps.size := by omega
  have HST := Lib.hid hst; have HH := Lib.hid H; clear hst H hsz
  go_wp2_with fail
  exact HH.out _ ((HST.out.set d1 _ k1).set d2 _ k2) (by simp [g2])
theorem sw_no {id s d1 d2 t1 t2 : Nat} {p1 p2 : String} {af1 af2 : Array Edge} {x k : Int} {ty : TypeId} {A B : Code} (hst : St n ks vs a) (hx : a.tmps[s]? = some (.int .u32 x)) (h1 : d1 < n) (h2 : d2 < n) (k1 : d1 ∉ ks) (k2 : d2 ∉ ks)
    (hb : (x == k) = false) (H : ∀ a', St n ks vs a' → B.wp Tryz.prog Q a' w) :
    ((Code.region id #[⟨some d1, .binOp .eql ty (.tmp s) (.const (.int .u32 k)) ty, t1, p1, af1, none⟩, ⟨some d2, .assign (.tmp d1), t2, p2, af2, none⟩] false).seq (.cond (.tmp d2) A B)).wp Tryz.prog Q a w :=
  wp_seq (sw_test hst hx h1 h2 k1 k2 false hb fun a' h hv => wp_cond_false (eval_tmp hv) (H a' h))
theorem sw_yes {id s d1 d2 t1 t2 : Nat} {p1 p2 : String} {af1 af2 : Array Edge} {x k : Int} {ty : TypeId} {A B : Code} (hst : St n ks vs a) (hx : a.tmps[s]? = some (.int .u32 x)) (h1 : d1 < n) (h2 : d2 < n) (k1 : d1 ∉ ks) (k2 : d2 ∉ ks)
    (hb : (x == k) = true) (H : ∀ a', St n ks vs a' → A.wp Tryz.prog Q a' w) :
    ((Code.region id #[⟨some d1, .binOp .eql ty (.tmp s) (.const (.int .u32 k)) ty, t1, p1, af1, none⟩, ⟨some d2, .assign (.tmp d1), t2, p2, af2, none⟩] false).seq (.cond (.tmp d2) A B)).wp Tryz.prog Q a w :=
  wp_seq (sw_test hst hx h1 h2 k1 k2 true hb fun a' h hv => wp_cond_true (eval_tmp hv) (H a' h))
theorem mu_no {id s d1 d2 t1 t2 : Nat} {p1 p2 : String} {af1 af2 : Array Edge} {x k : Int} {ty : TypeId} {M : Code} (hst : St n ks vs a) (hx : a.tmps[s]? = some (.int .u32 x)) (h1 : d1 < n) (h2 : d2 < n) (k1 : d1 ∉ ks) (k2 : d2 ∉ ks)
    (hb : (x == k) = false) (H : ∀ a', St n ks vs a' → M.wp Tryz.prog Q a' w) :
    ((Code.region id #[⟨some d1, .binOp .eql ty (.tmp s) (.const (.int .u32 k)) ty, t1, p1, af1, none⟩, ⟨some d2, .assign (.tmp d1), t2, p2, af2, none⟩] false).seq (.cond (.tmp d2) .skip M)).wp Tryz.prog Q a w :=
  sw_no hst hx h1 h2 k1 k2 hb H
theorem mu_yes {id s d1 d2 t1 t2 : Nat} {p1 p2 : String} {af1 af2 : Array Edge} {x k : Int} {ty : TypeId} {M : Code} (hst : St n ks vs a) (hx : a.tmps[s]? = some (.int .u32 x)) (h1 : d1 < n) (h2 : d2 < n) (k1 : d1 ∉ ks) (k2 : d2 ∉ ks)
    (hb : (x == k) = true) (H : ∀ a', St n ks vs a' → a'.tmps[d2]? = some (.bool true) → Q .normal a' w) :
    ((Code.region id #[⟨some d1, .binOp .eql ty (.tmp s) (.const (.int .u32 k)) ty, t1, p1, af1, none⟩, ⟨some d2, .assign (.tmp d1), t2, p2, af2, none⟩] false).seq (.cond (.tmp d2) .skip M)).wp Tryz.prog Q a w :=
  wp_seq (sw_test hst hx h1 h2 k1 k2 true hb fun a' h hv => wp_cond_true (eval_tmp hv) (wp_skip (H a' h hv)))
end

theorem wp_abs {c : Code} {Q : Exit → Act → World → Prop} {a : Act} {w : World} {R : Act → Prop} (ha : R a) (H : ∀ a', R a' → c.wp Tryz.prog Q a' w) : c.wp Tryz.prog Q a w := H a ha
theorem set7 {w : World} {X : Nat} {T : TypeId} {a0 a1 a2 a3 a4 a5 a6 : Value} (h : w.heap[X]? = some (.cells #[a0, a1, a2, a3, a4, a5, a6] T)) (v0 v1 v2 v3 v4 v5 v6 : Value) :
    (((((((w.setCell ⟨X, 0, none⟩ v0).setCell ⟨X, 1, none⟩ v1).setCell ⟨X, 2, none⟩ v2).setCell ⟨X, 3, none⟩ v3).setCell ⟨X, 4, none⟩ v4).setCell ⟨X, 5, none⟩ v5).setCell ⟨X, 6, none⟩ v6).heap[X]? = some (.cells #[v0, v1, v2, v3, v4, v5, v6] T) ∧
    Frame (fun k => k = X) w (((((((w.setCell ⟨X, 0, none⟩ v0).setCell ⟨X, 1, none⟩ v1).setCell ⟨X, 2, none⟩ v2).setCell ⟨X, 3, none⟩ v3).setCell ⟨X, 4, none⟩ v4).setCell ⟨X, 5, none⟩ v5).setCell ⟨X, 6, none⟩ v6) := by
  have h0 := heap_setCell_row h (i := 0) v0
  have h1 := heap_setCell_row h0 (i := 1) v1
  have h2 := heap_setCell_row h1 (i := 2) v2
  have h3 := heap_setCell_row h2 (i := 3) v3
  have h4 := heap_setCell_row h3 (i := 4) v4
  have h5 := heap_setCell_row h4 (i := 5) v5
  have h6 := heap_setCell_row h5 (i := 6) v6
  have f0 := Frame.set (b := X) (i := 0) (Frame.refl (fun k => k = X) w) (.inl rfl) v0
  have f1 := Frame.set (b := X) (i := 1) f0 (.inl rfl) v1
  have f2 := Frame.set (b := X) (i := 2) f1 (.inl rfl) v2
  have f3 := Frame.set (b := X) (i := 3) f2 (.inl rfl) v3
  have f4 := Frame.set (b := X) (i := 4) f3 (.inl rfl) v4
  have f5 := Frame.set (b := X) (i := 5) f4 (.inl rfl) v5
  have f6 := Frame.set (b := X) (i := 6) f5 (.inl rfl) v6
  exact ⟨by rw [h6]; rfl, f6⟩
/-- a piece of code, by a path -/
def goC : List Nat → Code → Code
  | [], c => c
  | 0 :: p, .seq a _ => goC p a
  | _ :: p, .seq _ b => goC p b
  | 0 :: p, .cond _ a _ => goC p a
  | _ :: p, .cond _ _ b => goC p b
  | _ :: p, .block _ c => goC p c
  | _ :: p, .loop c => goC p c
  | _ :: _, c => c
/-- the body of the reader's entry -/
noncomputable def c47 : Code := (Tryz.f47.body).getD .skip
/-- the switch over the forms of a value -/
noncomputable def cSw : Code := goC [1,1,1,1,1,1,1,1,1,1,0,1,0,0,1,1,0,0,1,1,1,1,1,1,0,1] c47
/-- the slots that are known in the loop over an entry's attributes -/
def K47 : List Nat := [3, 148, 18, 17, 14, 12, 2, 9, 8, 7, 90, 91]
/-- a value as the package hands it out -/
def ifv (kind : Int) (n : Nat) (d : List Nat) : Value := if kind = 1 then .iface 2 (.int .i64 (sgn n)) else if kind = 2 then .iface 29 (.int .u64 (n : Int)) else .iface 9 (.string (strB d))
/-- the switch reads a value of a form -/
abbrev SwC (form : Nat) (B pb : Nat) (K : Bs) (c : BufK) (off : Nat) (l : List Nat) (v : Value) (w : World) (P : World → Prop) : Prop :=
  ∀ (vs : List Value) (a : Act) (Q : Exit → Act → World → Prop), (∀ c a w d v, Q (.panic c) (Act.put a d v) w → Q (.panic c) a w) → St 677 K47 (.pointer (some ⟨pb, 0, none⟩) :: .int .u32 (form : Int) :: .int .u32 (form : Int) :: vs) a →
    (∀ a' w', St 677 K47 (.pointer (some ⟨pb, 0, none⟩) :: .int .u32 (form : Int) :: .int .u32 (form : Int) :: vs) a' → a'.tmps[19]? = some v → Buf w' B K c off l → Frame (fun k => k = B) w w' → P w' → Q .normal a' w') → cSw.wp Tryz.prog Q a w
end Go.Proofs.YtklcoppfkfenfaaGreatDoor
