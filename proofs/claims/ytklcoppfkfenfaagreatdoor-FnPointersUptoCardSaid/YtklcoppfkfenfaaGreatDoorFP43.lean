/-
  The arguments as they are read: bytes, items, attributes, nodes, units.
-/
import Derived.Test.YtklcoppfkfenfaaGreatDoorFP42
set_option linter.all false
set_option linter.unusedVariables false
set_option linter.unusedSimpArgs false
namespace Go.Proofs.YtklcoppfkfenfaaGreatDoor
set_option maxRecDepth 100000
open Go Go.RowKit

/-- the fields of a struct: types and places -/
noncomputable def fieldT (t : TypeId) : List (TypeId × Nat) := match Tryz.prog.underlying t with
  | some (.struct fs) => fs.toList.map fun f => (f.type, f.offset)
  | _ => []
theorem fields52 : fieldT 28 = [(24, 0), (25, 1), (4, 2), (26, 3)] := by kernel_rfl
theorem fields31 : fieldT 31 = [(3, 0), (4, 1), (3, 2), (4, 3), (28, 4), (4, 8), (29, 9), (3, 10)] := by kernel_rfl
theorem fields73 : fieldT 73 = [(24, 0), (24, 1), (29, 2), (34, 3), (51, 4)] := by kernel_rfl
theorem cells_28 : Tryz.prog.cellsOf 28 = 4 := by kernel_rfl
theorem cells_31 : Tryz.prog.cellsOf 31 = 11 := by kernel_rfl
theorem cells_73 : Tryz.prog.cellsOf 73 = 5 := by kernel_rfl
theorem cells_5 : Tryz.prog.cellsOf 5 = 1 := by kernel_rfl
theorem cells_24 : Tryz.prog.cellsOf 24 = 1 := by kernel_rfl
theorem cells_25 : Tryz.prog.cellsOf 25 = 1 := by kernel_rfl
theorem cells_26 : Tryz.prog.cellsOf 26 = 1 := by kernel_rfl
theorem cells_29 : Tryz.prog.cellsOf 29 = 1 := by kernel_rfl
theorem cells_34 : Tryz.prog.cellsOf 34 = 1 := by kernel_rfl
theorem cells_51 : Tryz.prog.cellsOf 51 = 1 := by kernel_rfl
theorem cells_3 : Tryz.prog.cellsOf 3 = 1 := by kernel_rfl
theorem cells_4 : Tryz.prog.cellsOf 4 = 1 := by kernel_rfl
theorem und_5 : Tryz.prog.underlying 5 = some (.int .u8) := by kernel_rfl
theorem und_24 : Tryz.prog.underlying 24 = some (.int .u32) := by kernel_rfl
theorem und_29 : Tryz.prog.underlying 29 = some (.int .u64) := by kernel_rfl
theorem und_3 : Tryz.prog.underlying 3 = some (.int .i64) := by kernel_rfl
theorem und_4 : Tryz.prog.underlying 4 = some .bool := by kernel_rfl
theorem und_34 : Tryz.prog.underlying 34 = some (.slice 5) := by kernel_rfl
theorem und_25 : Tryz.prog.underlying 25 = some (.slice 73) := by kernel_rfl
theorem und_26 : Tryz.prog.underlying 26 = some (.slice 28) := by kernel_rfl
theorem und_22 : Tryz.prog.underlying 22 = some (.slice 31) := by kernel_rfl
/-- the type of an item -/
noncomputable def itemT : TypeId := match Tryz.prog.underlying 51 with | some (.slice e) => e | _ => 0
theorem und_51 : Tryz.prog.underlying 51 = some (.slice 116) := by kernel_rfl
theorem fields116 : fieldT 116 = [(2, 0), (29, 1), (29, 2)] := by kernel_rfl
theorem cells_116 : Tryz.prog.cellsOf 116 = 3 := by kernel_rfl

section
variable {H : Type} {enc : TypeId × Value → H} {w : World} {spare : Nat → Bool} {held : Bool}

theorem struct_trod {t : TypeId} {L : List (TypeId × Nat)} {fuel : Nat} {cs : List Value} {x : DataW H × List MemPlace} (hL : fieldT t = L) (hne : L ≠ []) (h : trodT enc w spare held fuel t cs = some x) :
    ∃ (n : Nat) (ys : List (DataW H × List MemPlace)), fuel = n + 1 ∧ ys.length = L.length ∧ x.1 = .agg (ys.map (·.1)) ∧
      ∀ i ty off, L[i]? = some (ty, off) → ∃ hi : i < ys.length, trodT enc w spare held n ty ((cs.drop off).take (Tryz.prog.cellsOf ty)) = some ys[i] := by
  unfold fieldT at hL
  split at hL
  · rename_i fs hu
    obtain ⟨xs, n, h1, h2, _, h4, h5⟩ := DataW.trod_struct hu h
    have hlen : xs.length = L.length := by rw [h4, ← hL]; simp
    refine ⟨n, xs, h1, hlen, by rw [h2], fun i ty off hi => ?_⟩
    rw [← hL, List.getElem?_map] at hi
    cases hf : fs.toList[i]? with
    | none => rw [hf] at hi; cases hi
    | some f =>
      rw [hf] at hi
      simp only [Option.map_some, Option.some.injEq, Prod.mk.injEq] at hi
      obtain ⟨rfl, rfl⟩ := hi
      have hf' : fs[i]? = some f := by simpa using hf
      have hi2 : i < xs.length := by rw [h4]; exact (Array.getElem?_eq_some_iff.1 hf').1
      exact ⟨hi2, by rw [← List.getElem?_eq_getElem hi2]; exact h5 i f hf'⟩
  · exact absurd hL.symm hne
theorem bulk_part (ys : List (DataW H × List MemPlace)) (i : Nat) (hi : i < ys.length) : Rows.uptoBulk ys[i].1 ≤ Rows.uptoBulk (.agg (ys.map (·.1))) := by
  have : ∀ (l : List (DataW H)) (j : Nat) (hj : j < l.length), Rows.uptoBulk l[j] ≤ Rows.uptoBulkAll l := by
    intro l
    induction l with
    | nil => intro j hj; simp at hj
    | cons a l ih =>
      intro j hj
      cases j with
      | zero => simp only [List.getElem_cons_zero, Rows.uptoBulkAll]; omega
      | succ j =>
        have := ih j (by simpa using hj)
        simp only [List.getElem_cons_succ, Rows.uptoBulkAll]; omega
  have h := this (ys.map (·.1)) i (by simpa using hi)
  rw [List.getElem_map] at h
  simp only [Rows.uptoBulk]
  omega

theorem one_cell {cs : List Value} {off : Nat} {v : Value} (h : (cs.drop off).take 1 = [v]) : cs[off]? = some v := by
  have := congrArg (fun l => l[0]?) h
  simpa [List.getElem?_take, List.getElem?_drop] using this
theorem int_u8 {n : Nat} {cs : List Value} {x : DataW H × List MemPlace} (h : trodT enc w spare held n 5 cs = some x) : ∃ m : Nat, cs = [.int .u8 (m : Int)] ∧ m < 256 := by
  obtain ⟨k, h1, _, h3⟩ := DataW.trod_int und_5 h
  simp [Lit.wf, IntKind.min, IntKind.max, IntKind.signed, IntKind.bits] at h3
  exact ⟨k.toNat, by rw [h1, Int.toNat_of_nonneg h3.1], by omega⟩
theorem int_u32 {n : Nat} {cs : List Value} {x : DataW H × List MemPlace} (h : trodT enc w spare held n 24 cs = some x) : ∃ m : Nat, cs = [.int .u32 (m : Int)] ∧ m < 4294967296 := by
  obtain ⟨k, h1, _, h3⟩ := DataW.trod_int und_24 h
  simp [Lit.wf, IntKind.min, IntKind.max, IntKind.signed, IntKind.bits] at h3
  exact ⟨k.toNat, by rw [h1, Int.toNat_of_nonneg h3.1], by omega⟩
theorem int_u64 {n : Nat} {cs : List Value} {x : DataW H × List MemPlace} (h : trodT enc w spare held n 29 cs = some x) : ∃ m : Nat, cs = [.int .u64 (m : Int)] ∧ m < 18446744073709551616 := by
  obtain ⟨k, h1, _, h3⟩ := DataW.trod_int und_29 h
  simp [Lit.wf, IntKind.min, IntKind.max, IntKind.signed, IntKind.bits] at h3
  exact ⟨k.toNat, by rw [h1, Int.toNat_of_nonneg h3.1], by omega⟩
theorem und_2 : Tryz.prog.underlying 2 = some (.int .i64) := by kernel_rfl
theorem cells_2 : Tryz.prog.cellsOf 2 = 1 := by kernel_rfl
theorem int_2 {n : Nat} {cs : List Value} {x : DataW H × List MemPlace} (h : trodT enc w spare held n 2 cs = some x) : ∃ m : Int, cs = [.int .i64 m] ∧ -9223372036854775808 ≤ m ∧ m ≤ 9223372036854775807 := by
  obtain ⟨k, h1, _, h3⟩ := DataW.trod_int und_2 h
  simp [Lit.wf, IntKind.min, IntKind.max, IntKind.signed, IntKind.bits] at h3
  exact ⟨k, h1, by omega⟩
theorem int_i64 {n : Nat} {cs : List Value} {x : DataW H × List MemPlace} (h : trodT enc w spare held n 3 cs = some x) : ∃ m : Int, cs = [.int .i64 m] ∧ -9223372036854775808 ≤ m ∧ m ≤ 9223372036854775807 := by
  obtain ⟨k, h1, _, h3⟩ := DataW.trod_int und_3 h
  simp [Lit.wf, IntKind.min, IntKind.max, IntKind.signed, IntKind.bits] at h3
  exact ⟨k, h1, by omega⟩
theorem the_bool {n : Nat} {cs : List Value} {x : DataW H × List MemPlace} (h : trodT enc w spare held n 4 cs = some x) : ∃ b : Bool, cs = [.bool b] := by
  obtain ⟨b, h1, _⟩ := DataW.trod_bool und_4 h
  exact ⟨b, h1⟩

theorem flat_one {α β : Type} : ∀ (l : List α) (f : α → β), (l.flatMap fun b => [f b]) = l.map f
  | [], _ => rfl
  | b :: l, f => by rw [List.flatMap_cons, flat_one l f]; rfl
theorem choose_list {α β : Type} {p : α → β → Prop} : ∀ l : List α, (∀ a ∈ l, ∃ b, p a b) → ∃ m : List β, m.length = l.length ∧ ∀ i (h1 : i < l.length) (h2 : i < m.length), p l[i] m[i]
  | [], _ => ⟨[], rfl, fun i h => by simp at h⟩
  | a :: l, h => by
    obtain ⟨b, hb⟩ := h a (by simp)
    obtain ⟨m, h1, h2⟩ := choose_list l fun x hx => h x (by simp [hx])
    refine ⟨b :: m, by simp [h1], fun i g1 g2 => ?_⟩
    cases i with
    | zero => exact hb
    | succ i => exact h2 i (by simpa using g1) (by simpa using g2)

/-- bytes -/
theorem rd_bytes_trod {fuel : Nat} {cs : List Value} {x : DataW H × List MemPlace} (h : trodT enc w spare held fuel 34 cs = some x) : ∃ v l, cs = [v] ∧ Rd (AllK w) w v l := by
  obtain ⟨a, n, cap, m, css, ys, rfl, h1, h2, h3, h4, h5, _, _⟩ := slice_trod und_34 cells_5 (by decide) h
  obtain ⟨l, g1, g2⟩ := choose_list (p := fun c (b : Nat) => c = [.int .u8 (b : Int)] ∧ b < 256) css fun c hc => by
    obtain ⟨i, hi, rfl⟩ := List.mem_iff_getElem.1 hc
    exact int_u8 (h5 i hi (by omega))
  have e : css.flatten = bv l := by
    have : css = l.map fun (b : Nat) => [Value.int .u8 (b : Int)] := by
      refine List.ext_getElem (by simpa using g1.symm) fun i q1 q2 => ?_
      have q3 : i < l.length := by simpa using q2
      rw [List.getElem_map]
      exact (g2 i q1 q3).1
    rw [this, ← List.flatMap_def]
    exact flat_one l _
  refine ⟨_, l, rfl, ?_, fun b hb => ?_⟩
  · rw [e] at h4
    have : n = l.length := by omega
    subst this
    exact h4
  · obtain ⟨i, hi, rfl⟩ := List.mem_iff_getElem.1 hb
    exact (g2 i (by omega) hi).2

/-- a row of structs, each read -/
theorem ar_of {α : Type} {a : Option Addr} {n cap sz : Nat} {css : List (List Value)} {ps : List α} {f : α → List Value} (h1 : css.length = n) (h3 : ∀ c ∈ css, c.length = sz) (h4 : Sl (AllK w) w sz (.slice a n cap) n css.flatten) (g1 : ps.length = css.length) (g2 : ∀ i (h1 : i < css.length) (h2 : i < ps.length), css[i] = f ps[i]) :
    Ar (AllK w) w sz (.slice a n cap) ps f := by
  have e : css = ps.map f := by
    refine List.ext_getElem (by simpa using g1.symm) fun i q1 q2 => ?_
    have q3 : i < ps.length := by simpa using q2
    rw [List.getElem_map]
    exact g2 i q1 q3
  subst e
  have hl : ps.length = n := by simpa using h1
  rw [← List.flatMap_def] at h4
  refine ⟨fun x hx => h3 _ (List.mem_map_of_mem hx), ?_⟩
  rw [hl]; exact h4

theorem items_trod {fuel : Nat} {cs : List Value} {x : DataW H × List MemPlace} (h : trodT enc w spare held fuel 51 cs = some x) : ∃ v its, cs = [v] ∧ ItemsAt (AllK w) w v its := by
  obtain ⟨a, n, cap, m, css, ys, rfl, h1, h2, h3, h4, h5, _, _⟩ := slice_trod und_51 cells_116 (by decide) h
  obtain ⟨l, g1, g2⟩ := choose_list (p := fun c (it : ItemD) => c = itemC it ∧ (-9223372036854775808 ≤ it.kind ∧ it.kind ≤ 9223372036854775807) ∧ it.a < 18446744073709551616 ∧ it.b < 18446744073709551616) css fun c hc => by
    have hc3 := h3 c hc
    obtain ⟨i, hi, rfl⟩ := List.mem_iff_getElem.1 hc
    obtain ⟨n', zs, _, _, _, hf⟩ := struct_trod fields116 (by simp) (h5 i hi (by omega))
    obtain ⟨_, f0⟩ := hf 0 _ _ rfl
    obtain ⟨_, f1⟩ := hf 1 _ _ rfl
    obtain ⟨_, f2⟩ := hf 2 _ _ rfl
    rw [cells_2] at f0; rw [cells_29] at f1 f2
    obtain ⟨k, e0, b0⟩ := int_2 f0
    obtain ⟨ia, e1, b1⟩ := int_u64 f1
    obtain ⟨ib, e2, b2⟩ := int_u64 f2
    refine ⟨⟨k, ia, ib⟩, ?_, b0, b1, b2⟩
    generalize css[i] = c at *
    match c, hc3 with
    | [c0, c1, c2], _ =>
      simp at e0 e1 e2
      subst e0; subst e1; subst e2
      rfl
  refine ⟨_, l, rfl, ar_of h1 h3 h4 g1 fun i q1 q2 => (g2 i q1 q2).1, fun it hit => ?_⟩
  obtain ⟨i, hi, rfl⟩ := List.mem_iff_getElem.1 hit
  exact (g2 i (by omega) hi).2

theorem attrs_trod {fuel : Nat} {cs : List Value} {x : DataW H × List MemPlace} (h : trodT enc w spare held fuel 25 cs = some x) : ∃ v al, cs = [v] ∧ AttrsAt (AllK w) w v al := by
  obtain ⟨a, n, cap, m, css, ys, rfl, h1, h2, h3, h4, h5, _, _⟩ := slice_trod und_25 cells_73 (by decide) h
  obtain ⟨l, g1, g2⟩ := choose_list (p := fun c (p : AttrV) => c = attrC p ∧ AttrOk (AllK w) w p) css fun c hc => by
    have hc3 := h3 c hc
    obtain ⟨i, hi, rfl⟩ := List.mem_iff_getElem.1 hc
    obtain ⟨n', zs, _, _, _, hf⟩ := struct_trod fields73 (by simp) (h5 i hi (by omega))
    obtain ⟨_, f0⟩ := hf 0 _ _ rfl
    obtain ⟨_, f1⟩ := hf 1 _ _ rfl
    obtain ⟨_, f2⟩ := hf 2 _ _ rfl
    obtain ⟨_, f3⟩ := hf 3 _ _ rfl
    obtain ⟨_, f4⟩ := hf 4 _ _ rfl
    rw [cells_24] at f0 f1; rw [cells_29] at f2; rw [cells_34] at f3; rw [cells_51] at f4
    obtain ⟨k0, e0, b0⟩ := int_u32 f0
    obtain ⟨k1, e1, b1⟩ := int_u32 f1
    obtain ⟨k2, e2, b2⟩ := int_u64 f2
    obtain ⟨v3, l3, e3, b3⟩ := rd_bytes_trod f3
    obtain ⟨v4, l4, e4, b4⟩ := items_trod f4
    refine ⟨(⟨k0, k1, k2, l3, l4⟩, v3, v4), ?_, b0, b1, b2, b3, b4⟩
    generalize css[i] = c at *
    match c, hc3 with
    | [c0, c1, c2, c3, c4], _ =>
      simp at e0 e1 e2 e3 e4
      subst e0; subst e1; subst e2; subst e3; subst e4
      rfl
  refine ⟨_, l.map Prod.fst, rfl, l, rfl, ar_of h1 h3 h4 g1 fun i q1 q2 => (g2 i q1 q2).1, fun p hp => ?_⟩
  obtain ⟨i, hi, rfl⟩ := List.mem_iff_getElem.1 hp
  exact (g2 i (by omega) hi).2

theorem nodesL_map (ps : List NodeV) : nodesL (ps.map Prod.fst) = (ps.map fun p => nodesF p.1).sum := by
  induction ps with
  | nil => rfl
  | cons p ps ih => simp only [List.map_cons, nodesL, List.sum_cons, ih]
theorem sum_le {α β : Type} : ∀ (l : List α) (m : List β) (f : α → Nat) (g : β → Nat), l.length = m.length → (∀ i (h1 : i < l.length) (h2 : i < m.length), f l[i] ≤ g m[i]) → (l.map f).sum ≤ (m.map g).sum
  | [], [], _, _, _, _ => Nat.le_refl _
  | a :: l, b :: m, f, g, h, hf => by
    have h0 := hf 0 (by simp) (by simp)
    have h1 := sum_le l m f g (by simpa using h) fun i h1 h2 => hf (i + 1) (by simpa using h1) (by simpa using h2)
    simp only [List.map_cons, List.sum_cons]
    simp only [List.getElem_cons_zero] at h0
    omega

theorem NodeAt.up {K : Bs} {w : World} : ∀ {d : Nat} {p : NodeV}, NodeAt d K w p → ∀ {e : Nat}, d ≤ e → NodeAt e K w p
  | 0, _, h, _, _ => h.elim
  | d + 1, p, ⟨h1, h2, ps, h3, h4, h5⟩, e, he => by
    obtain ⟨e', rfl⟩ : ∃ e', e = e' + 1 := ⟨e - 1, by omega⟩
    exact ⟨h1, h2, ps, h3, h4, fun q hq => NodeAt.up (h5 q hq) (by omega)⟩
/-- a node -/
theorem node_trod : ∀ (fuel : Nat) {cs : List Value} {x : DataW H × List MemPlace}, trodT enc w spare held fuel 28 cs = some x → cs.length = 4 → ∃ p : NodeV, cs = nodeC p ∧ NodeAt fuel (AllK w) w p ∧ nodesF p.1 ≤ Rows.uptoBulk x.1 := by
  intro fuel
  induction fuel using Nat.strongRecOn with
  | _ fuel ih =>
  intro cs x h hc
  obtain ⟨n, zs, rfl, hzl, hx, hf⟩ := struct_trod fields52 (by simp) h
  obtain ⟨_, f0⟩ := hf 0 _ _ rfl
  obtain ⟨_, f1⟩ := hf 1 _ _ rfl
  obtain ⟨_, f2⟩ := hf 2 _ _ rfl
  obtain ⟨i3, f3⟩ := hf 3 _ _ rfl
  rw [cells_24] at f0; rw [cells_25] at f1; rw [cells_4] at f2; rw [cells_26] at f3
  obtain ⟨k0, e0, b0⟩ := int_u32 f0
  obtain ⟨v1, al, e1, b1⟩ := attrs_trod f1
  obtain ⟨k2, e2⟩ := the_bool f2
  obtain ⟨a, kn, cap, m, css, ys, e3, h1, h2, h3, h4, h5, hm, hbulk⟩ := slice_trod und_26 cells_28 (by decide) f3
  obtain ⟨l, g1, g2⟩ := choose_list (p := fun (i : Nat) (p : NodeV) => ∃ (q1 : i < css.length) (q2 : i < ys.length), css[i] = nodeC p ∧ NodeAt n (AllK w) w p ∧ nodesF p.1 ≤ Rows.uptoBulk ys[i].1) (List.range css.length) fun i hi => by
    have q1 : i < css.length := by simpa using hi
    have q2 : i < ys.length := by omega
    obtain ⟨p, r1, r2, r3⟩ := ih m (by omega) (h5 i q1 q2) (h3 _ (List.getElem_mem q1))
    exact ⟨p, q1, q2, r1, NodeAt.up r2 (by omega), r3⟩
  have gl : l.length = css.length := by simpa using g1
  have g3 : ∀ i (q1 : i < css.length) (q2 : i < ys.length) (q3 : i < l.length), css[i] = nodeC l[i] ∧ NodeAt n (AllK w) w l[i] ∧ nodesF l[i].1 ≤ Rows.uptoBulk ys[i].1 := fun i q1 q2 q3 => by
    obtain ⟨_, _, r⟩ := g2 i (by simpa using q1) q3
    simpa using r
  refine ⟨(.mk k0 al k2 (l.map Prod.fst), v1, .slice a kn cap), ?_, ⟨b0, b1, l, rfl, ar_of h1 h3 h4 gl fun i q1 q3 => (g3 i q1 (by omega) q3).1, fun q hq => ?_⟩, ?_⟩
  · match cs, hc with
    | [c0, c1, c2, c3], _ =>
      simp at e0 e1 e2 e3
      subst e0; subst e1; subst e2; subst e3
      rfl
  · obtain ⟨i, hi, rfl⟩ := List.mem_iff_getElem.1 hq
    exact (g3 i (by omega) (by omega) hi).2.1
  · have hb := bulk_part zs 3 i3
    rw [← hx] at hb
    have hs := sum_le l ys (fun p => nodesF p.1) (fun y => Rows.uptoBulk y.1) (by omega) fun i q3 q2 => (g3 i (by omega) q2 q3).2.2
    simp only [nodesF, nodesL_map]
    omega

/-- units -/
theorem units_trod {fuel : Nat} {cs : List Value} {x : DataW H × List MemPlace} (h : trodT enc w spare held fuel 22 cs = some x) : ∃ a us cap, cs = [.slice a us.length cap] ∧ UnitsAt (fuel + 1) (AllK w) w (.slice a us.length cap) us ∧ nodesU us ≤ Rows.uptoBulk x.1 := by
  obtain ⟨a, n, cap, m, css, ys, rfl, h1, h2, h3, h4, h5, hm, hbulk⟩ := slice_trod und_22 cells_31 (by decide) h
  obtain ⟨l, g1, g2⟩ := choose_list (p := fun (i : Nat) (p : UnitVv) => ∃ (q1 : i < css.length) (q2 : i < ys.length), css[i] = unitC p ∧ UnitAt (fuel + 1) (AllK w) w p ∧ nodesF p.1.root ≤ Rows.uptoBulk ys[i].1) (List.range css.length) fun i hi => by
    have q1 : i < css.length := by simpa using hi
    have q2 : i < ys.length := by omega
    have hc := h3 _ (List.getElem_mem q1)
    obtain ⟨n', zs, hn', hzl, hx, hf⟩ := struct_trod fields31 (by simp) (h5 i q1 q2)
    obtain ⟨_, f0⟩ := hf 0 _ _ rfl
    obtain ⟨_, f1⟩ := hf 1 _ _ rfl
    obtain ⟨_, f2⟩ := hf 2 _ _ rfl
    obtain ⟨_, f3⟩ := hf 3 _ _ rfl
    obtain ⟨i4, f4⟩ := hf 4 _ _ rfl
    obtain ⟨_, f5⟩ := hf 5 _ _ rfl
    obtain ⟨_, f6⟩ := hf 6 _ _ rfl
    obtain ⟨_, f7⟩ := hf 7 _ _ rfl
    rw [cells_3] at f0 f2 f7; rw [cells_4] at f1 f3 f5; rw [cells_28] at f4; rw [cells_29] at f6
    obtain ⟨k0, e0, b0⟩ := int_i64 f0
    obtain ⟨k1, e1⟩ := the_bool f1
    obtain ⟨k2, e2, b2⟩ := int_i64 f2
    obtain ⟨k3, e3⟩ := the_bool f3
    obtain ⟨nd, e4, b4, c4⟩ := node_trod n' f4 (by rw [List.length_take, List.length_drop, hc]; omega)
    obtain ⟨k5, e5⟩ := the_bool f5
    obtain ⟨k6, e6, b6⟩ := int_u64 f6
    obtain ⟨k7, e7, b7⟩ := int_i64 f7
    refine ⟨(⟨k0, k1, k2, k3, nd.1, k5, k6, k7⟩, nd.2.1, nd.2.2), q1, q2, ?_, ⟨b0, b2, b7, b6, NodeAt.up b4 (by omega)⟩, ?_⟩
    · generalize css[i] = c at *
      match c, hc with
      | [c0, c1, c2, c3, c4, c5, c6, c7, c8, c9, c10], _ =>
        simp [nodeC] at e0 e1 e2 e3 e4 e5 e6 e7
        obtain ⟨r1, r2, r3, r4⟩ := e4
        subst e0; subst e1; subst e2; subst e3; subst e5; subst e6; subst e7; subst r1; subst r2; subst r3; subst r4
        rfl
    · have hb := bulk_part zs 4 i4
      rw [← hx] at hb
      exact Nat.le_trans c4 hb
  have gl : l.length = css.length := by simpa using g1
  have g3 : ∀ i (q1 : i < css.length) (q2 : i < ys.length) (q3 : i < l.length), css[i] = unitC l[i] ∧ UnitAt (fuel + 1) (AllK w) w l[i] ∧ nodesF l[i].1.root ≤ Rows.uptoBulk ys[i].1 := fun i q1 q2 q3 => by
    obtain ⟨_, _, r⟩ := g2 i (by simpa using q1) q3
    simpa using r
  have hul : (l.map Prod.fst).length = n := by rw [List.length_map]; omega
  refine ⟨a, l.map Prod.fst, cap, by rw [hul], ⟨l, rfl, ?_, fun p hp => ?_⟩, ?_⟩
  · rw [hul]; exact ar_of h1 h3 h4 gl fun i q1 q3 => (g3 i q1 (by omega) q3).1
  · obtain ⟨i, hi, rfl⟩ := List.mem_iff_getElem.1 hp
    exact (g3 i (by omega) (by omega) hi).2.1
  · have hs := sum_le l ys (fun p => nodesF p.1.root) (fun y => Rows.uptoBulk y.1) (by omega) fun i q3 q2 => (g3 i (by omega) q2 q3).2.2
    unfold nodesU
    rw [List.map_map]
    have e : (l.map ((fun u : UnitD => nodesF u.root) ∘ Prod.fst)) = l.map fun p => nodesF p.1.root := rfl
    rw [e]
    omega
end
end Go.Proofs.YtklcoppfkfenfaaGreatDoor
