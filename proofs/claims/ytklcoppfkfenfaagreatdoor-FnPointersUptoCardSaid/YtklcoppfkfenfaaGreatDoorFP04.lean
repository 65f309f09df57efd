/-
  Walks: shape, shapes. Owned lists of bytes; the walk of shapes. The walk of shapes.
-/
import Derived.Test.YtklcoppfkfenfaaGreatDoorFP03
import Derived.Deep.RegionHeld3
import Derived.Deep.DeepCutAuto
import Derived.Deep.CutBlock
set_option linter.all false
set_option linter.unusedVariables false
set_option linter.unusedSimpArgs false
namespace Go.Proofs.YtklcoppfkfenfaaGreatDoor
set_option maxRecDepth 100000
open Go Go.RowKit

set_option maxHeartbeats 1000000 in
theorem shape_any (d : Nat) (K : Bs) (p : NodeV) (w : World) (h : NodeAt (d + 1) K w p) (hk : ∀ k, K k → k < w.heap.size) (hlen : p.1.attrs.length ≤ 1000000) :
    Calls Tryz.prog 96 #[.agg #[.int .u32 (p.1.tag : Int), p.2.1, .bool p.1.opn, p.2.2]] w (Fresh (shapeB p.1) w) := by
  obtain ⟨a, cap, ka, kc, he1, he2, hkc, hkm, htag, hal, _⟩ := h.elem
  obtain ⟨nd, av, kv⟩ := p
  dsimp only at *
  subst he1; subst he2
  obtain ⟨_, _, he, hac, hacm, hel⟩ := hal.elem
  simp only [Value.slice.injEq, true_and] at he
  obtain ⟨rfl, rfl⟩ := he
  unfold maxLen at hkm hacm
  have HX : Hid (∀ x ∈ nd.attrs, x.attr < 18446744073709551616 ∧ x.form < 18446744073709551616) := hal.lt
  have HE := Lib.hid hel; clear hel hal h
  have hch : childN nd < 256 := by unfold childN; split <;> decide
  go_enter Tryz.func96, Tryz.ntmps96
  go_upto_region 2 with fail
  go_cut [0, 14] (fun _ s14 wx => s14 = .bool (childF nd) ∧ wx = w.alloc (Obj.cells #[Value.int IntKind.u32 (nd.tag : Int), Value.slice a nd.attrs.length cap, Value.bool nd.opn, Value.slice ka nd.kids.length kc] 28))
  case first =>
    go_wp2_with fail
    all_goals go_meet
    all_goals (case rel => go_light; exact ⟨by simp_all [childF], by simp_all⟩)
  case rest =>
  obtain ⟨rfl, rfl⟩ := hcut
  go_upto_if 14 with fail
  go_cut [3, 14] (fun s3 _ wx => s3 = .int .u8 (childN nd : Int) ∧ wx = w.alloc (Obj.cells #[Value.int IntKind.u32 (nd.tag : Int), Value.slice a nd.attrs.length cap, Value.bool nd.opn, Value.slice ka nd.kids.length kc] 28))
  case first =>
    go_wp2_with fail
    all_goals go_meet
    all_goals (case rel => go_light; exact ⟨by simp_all [childN], rfl⟩)
  case rest =>
  obtain ⟨rfl, rfl⟩ := hcut
  go_wp2_with fail
  refine (unsigned_any nd.tag _ (by omega)).mono ?_
  rintro e w1 ⟨a1, n1, c1, rfl, ho1, hf1⟩
  have hs1 := hf1.size
  simp at hs1
  go_wp2_with fail
  refine (join2 (ho1.rd.alloc (fun k hk => (own_lt ho1 k hk).2) _) (Rd.one w1 (childN nd) 5 rfl hch) (fun k hk => by have := (own_lt ho1 k hk).2; simp; omega) (fun k hk => by simp; omega) (by have := uleb_len64 nd.tag (by omega); simp; omega) (by simp)).mono ?_
  rintro e w2 ⟨a2, n2, c2, rfl, ho2, hf2⟩
  have hfb := ((hf1.alloc (.cells #[Value.int IntKind.u8 (childN nd : Int)] 5)).alloc (.cells #[.slice a1 n1 c1, .slice (some ⟨w1.heap.size, 0, none⟩) 1 1] 34)).trans hf2 (fun _ h => h.elim)
  have hfw : Frame no w w2 := ((Frame.refl _ _).alloc _).trans hfb (fun _ h => h.elim)
  have hs2 := hf2.size
  simp at hs2
  clear hf2 hf1 ho1
  replace ho2 := ho2.mono_base (b := w.heap.size) (by simp; omega)
  have hc1 : w2.cell? ⟨w.heap.size, 1, none⟩ = some (.slice a nd.attrs.length cap) := hfb.cell (by simp [World.cell?_alloc_new]) id
  go_wp2_with fail
  go_loopw [4, 26] (fun v i wr => ∃ (k : Nat) (a' : Option Addr) (n' c' : Nat), k ≤ nd.attrs.length ∧ i = .int .i64 k ∧ v = .slice a' n' c' ∧ Own wr w.heap.size (.slice a' n' c') (uleb nd.tag ++ [childN nd] ++ attrsB (nd.attrs.take k)) ∧ Frame no w wr)
                  (fun _ i _ => nd.attrs.length - (intOf i).toNat)
  case atStart => exact ⟨0, a2, n2, c2, Nat.zero_le _, rfl, rfl, by simpa [attrsB] using ho2, hfw⟩
  case round =>
  clear ho2 hs2 hfb hfw hc1 hs1
  obtain ⟨k, a', n', c', hk', rfl, rfl, hown, hf⟩ := hrel
  have hsz := hf.size
  by_cases hlt : k < nd.attrs.length
  · obtain ⟨b, o, da, dc, la, lc, rfl, hb, g0, g1, g2, g3, g4, ha1, ha2, ha3, hrd, hit⟩ := HE.out k hlt
    replace g0 := hf.cell g0 id
    replace g1 := hf.cell g1 id
    replace g2 := hf.cell g2 id
    replace g3 := hf.cell g3 id
    replace g4 := hf.cell g4 id
    clear hrd hit
    generalize hA : nd.attrs[k].attr = A at g0 ha1
    generalize hB : nd.attrs[k].form = B at g1 ha2
    generalize nd.attrs[k].n = N at g2
    generalize nd.attrs[k].data.length = dl at g3
    generalize nd.attrs[k].list.length = ll at g4
    have HA := Lib.hid hA; clear hA
    have HB := Lib.hid hB; clear hB
    go_wp2_with fail
    have e0 : (wr.alloc (.cells #[Value.int IntKind.u32 (A : Int), Value.int IntKind.u32 (B : Int), Value.int IntKind.u64 (N : Int), .slice da dl dc, .slice la ll lc] 73)).drew.cell? ⟨wr.heap.size, 0, none⟩ = some (.int .u32 (A : Int)) := by simp [World.cell?_alloc_new]
    have e1 : (wr.alloc (.cells #[Value.int IntKind.u32 (A : Int), Value.int IntKind.u32 (B : Int), Value.int IntKind.u64 (N : Int), .slice da dl dc, .slice la ll lc] 73)).drew.cell? ⟨wr.heap.size, 1, none⟩ = some (.int .u32 (B : Int)) := by simp [World.cell?_alloc_new]
    have hlen3 : (uleb nd.tag ++ [childN nd] ++ attrsB (nd.attrs.take k)).length ≤ 900000000000 := by
      have h1 := uleb_len64 nd.tag (by omega)
      have h2 := attrsB_len (nd.attrs.take k) (fun x hx => HX.out x (List.mem_of_mem_take hx))
      simp only [List.length_append, List.length_take, List.length_cons, List.length_nil] at h2 ⊢
      omega
    have wA : IntKind.u64.wrap (A : Int) = A := IntWalk.u64_in _ (by omega)
    have wB : IntKind.u64.wrap (B : Int) = B := IntWalk.u64_in _ (by omega)
    have hA64 : A < 18446744073709551616 := by omega
    have hB64 : B < 18446744073709551616 := by omega
    go_region_held3 (fun w' => w'.cell? ⟨wr.heap.size, 0, none⟩ = some (.int .u32 (A : Int)) ∧ w'.cell? ⟨wr.heap.size, 1, none⟩ = some (.int .u32 (B : Int)))
      (first | exact ⟨hf5.cell (cell_alloc (hf4.cell (hf3.cell e0 id) id) _) id, hf5.cell (cell_alloc (hf4.cell (hf3.cell e1 id) id) _) id⟩ | exact ⟨cell_alloc (hf4.cell (hf3.cell e0 id) id) _, cell_alloc (hf4.cell (hf3.cell e1 id) id) _⟩ | exact ⟨hf4.cell (hf3.cell e0 id) id, hf4.cell (hf3.cell e1 id) id⟩ | exact ⟨hf3.cell e0 id, hf3.cell e1 id⟩ | exact ⟨e0, e1⟩)
      (first
        | (go_at_call 63; ((with_reducible refine (unsigned_any A _ hA64).mono ?_); rintro e w3 ⟨a3, n3, c3, rfl, ho3, hf3⟩))
        | (go_at_call 63; ((with_reducible refine (unsigned_any B _ hB64).mono ?_); rintro e w4 ⟨a4, n4, c4, rfl, ho4, hf4⟩))
        | (go_at_call 35
           have hfr : Frame no wr w4 := ((((Frame.refl _ _).alloc _).drew).trans hf3 (fun _ h => h.elim)).trans hf4 (fun _ h => h.elim)
           have r1 := hown.rd.keep (hfr.same fun k hk => ⟨(own_lt hown k hk).2, id⟩)
           have r2 := ho3.rd.keep (hf4.same fun k hk => ⟨(own_lt ho3 k hk).2, id⟩)
           have s1 := hfr.size
           have s2 := hf4.size
           (with_reducible refine (join3 r1 r2 ho4.rd (fun k hk => by have := (own_lt hown k hk).2; omega) (fun k hk => by have := (own_lt ho3 k hk).2; omega) (fun k hk => (own_lt ho4 k hk).2) (by have := uleb_len64 A hA64; have := uleb_len64 B hB64; omega) rfl).mono ?_)
           rintro e w5 ⟨a5, n5, c5, rfl, ho5, hf5⟩))
    have hsz5 := hf5.size
    simp at hsz5
    have hfr5 : Frame no w w5 := (((((hf.alloc _).drew).trans hf3 (fun _ h => h.elim)).trans hf4 (fun _ h => h.elim)).alloc _).trans hf5 (fun _ h => h.elim)
    have hs4 := hf4.size
    have hs3 := hf3.size
    simp at hs3
    go_wp2_with fail
    go_roundw
    case rel =>
      refine ⟨k + 1, a5, n5, c5, by omega, by go_num, rfl, ?_, hfr5⟩
      rw [attrsB_take_succ _ _ hlt, HA.out, HB.out]
      have := ho5.mono_base (b := w.heap.size) (by simp; omega)
      simpa using this
    case measure => simp [intOf]; omega
  · have hkk : k = nd.attrs.length := by omega
    have h00 := Rd.laid2 wr
    have hlen3 : (uleb nd.tag ++ [childN nd] ++ attrsB (nd.attrs.take k)).length ≤ 900000000000 := by
      have h1 := uleb_len64 nd.tag (by omega)
      have h2 := attrsB_len (nd.attrs.take k) (fun x hx => HX.out x (List.mem_of_mem_take hx))
      simp only [List.length_append, List.length_take, List.length_cons, List.length_nil] at h2 ⊢
      omega
    have HK := Lib.hid hkk; clear hkk
    go_wp2_with fail
    refine (join2 (hown.rd.alloc (fun k hk => (own_lt hown k hk).2) _) h00 (fun k hk => by have := (own_lt hown k hk).2; simp; omega) (fun k hk => by simp; omega) (by simp at hlen3 ⊢; omega) (by simp)).mono ?_
    rintro e w5 ⟨a5, n5, c5, rfl, ho5, hf5⟩
    go_wp2_with fail
    go_ret
    have hsz5 := hf5.size
    simp at hsz5
    refine fresh_mk ?_ (((hf.alloc _).alloc _).trans hf5 (fun _ h => h.elim))
    have := ho5.mono_base (b := w.heap.size) (by simp; omega)
    rw [HK.out, List.take_length] at this
    simpa [shapeB] using this

end Go.Proofs.YtklcoppfkfenfaaGreatDoor
namespace Go.Proofs.YtklcoppfkfenfaaGreatDoor
set_option maxRecDepth 100000
open Go Go.RowKit

theorem info34 : (Tryz.prog.info? 34).map (fun i => (i.zero, i.size, i.bytes)) = some (some (.slice none 0 0), 1, 24) := by kernel_rfl
theorem underlying35 : Tryz.prog.underlying 35 = some (.slice 34) := by kernel_rfl

/-- where what an owned row points to may lie: in new memory beside the row -/
abbrev Beside (base : Nat) (w : World) (v : Value) : Bs := fun k => base ≤ k ∧ k < w.heap.size ∧ v.ownBlock ≠ some k
/-- v owns a row of slices that read as ls -/
def OwnL (w : World) (base : Nat) (v : Value) (ls : List (List Nat)) : Prop :=
  ∃ vs : List Value, w.ownsRow base 34 1 v ls.length vs ∧ ∀ i (h : i < ls.length), ∃ u, vs[i]? = some u ∧ Rd (Beside base w v) w u ls[i]

theorem OwnL.nil (w : World) (base : Nat) : OwnL w base (.slice none 0 0) [] := ⟨[], World.ownsRow_nil _ _ _ _, fun i h => by simp at h⟩
theorem OwnL.lt {w : World} {base : Nat} {v : Value} {ls : List (List Nat)} (h : OwnL w base v ls) : ∀ k, v.ownBlock = some k → base ≤ k ∧ k < w.heap.size := by
  obtain ⟨vs, h1, _⟩ := h
  exact h1.lt
theorem OwnL.mono_base {w : World} {base b : Nat} {v : Value} {ls : List (List Nat)} (h : OwnL w base v ls) (hb : b ≤ base) : OwnL w b v ls := by
  obtain ⟨vs, h1, h2⟩ := h
  refine ⟨vs, ownsRow_base h1 hb, fun i hi => ?_⟩
  obtain ⟨u, hu, hr⟩ := h2 i hi
  exact ⟨u, hu, hr.mono fun k hk => ⟨by omega, hk.2⟩⟩
theorem ownsRow_keep {w w' : World} {base : Nat} {e : TypeId} {sz n : Nat} {v : Value} {xs : List Value} (h : w.ownsRow base e sz v n xs) (hs : ∀ k, v.ownBlock = some k → w'.heap[k]? = w.heap[k]?) : w'.ownsRow base e sz v n xs := by
  refine ⟨h.1, h.2.imp id ?_⟩
  rintro ⟨g, cap, cur, hv, hg, hh, r⟩
  exact ⟨g, cap, cur, hv, hg, by rw [hs g (by rw [hv]; rfl)]; exact hh, r⟩
/-- it stays where nothing of it is touched -/
theorem OwnL.keep {w w' : World} {base : Nat} {v : Value} {ls : List (List Nat)} {S : Bs} (h : OwnL w base v ls) (hf : Frame S w w') (hs : ∀ k, base ≤ k → k < w.heap.size → ¬ S k) : OwnL w' base v ls := by
  obtain ⟨vs, h1, h2⟩ := h
  refine ⟨vs, ownsRow_keep h1 fun k hk => hf.block k (h1.lt k hk).2 (hs k (h1.lt k hk).1 (h1.lt k hk).2), fun i hi => ?_⟩
  obtain ⟨u, hu, hr⟩ := h2 i hi
  exact ⟨u, hu, (hr.keep (hf.same fun k hk => ⟨hk.2.1, hs k hk.1 hk.2.1⟩)).mono fun k hk => ⟨hk.1, by have := hf.size; omega, hk.2.2⟩⟩
theorem OwnL.elem {w : World} {base : Nat} {v : Value} {ls : List (List Nat)} (h : OwnL w base v ls) :
    ∃ a cap, v = .slice a ls.length cap ∧ ls.length ≤ cap ∧ cap ≤ maxLen ∧ ∀ k (hk : k < ls.length), ∃ b o da dn dc, a = some ⟨b, o, none⟩ ∧ v.ownBlock = some b ∧
      w.cell? ⟨b, o + k, none⟩ = some (.slice da dn dc) ∧ Rd (Beside base w v) w (.slice da dn dc) ls[k] := by
  obtain ⟨vs, h1, h2⟩ := h
  obtain ⟨hl, a, cap, hv, hc1, hc2, _, hc⟩ := Sl.of_own h1
  refine ⟨a, cap, hv, hc1, hc2, fun k hk => ?_⟩
  obtain ⟨b, o, ha, hb, hcell⟩ := hc k (by rw [hl]; omega)
  obtain ⟨u, hu, hr⟩ := h2 k hk
  have hu' : vs[k]'(by rw [hl]; omega) = u := by
    have := List.getElem?_eq_getElem (l := vs) (i := k) (by rw [hl]; omega)
    rw [this] at hu; exact Option.some.inj hu
  obtain ⟨_, da, dc, hd, _⟩ := hr.1
  rw [hu', hd] at hcell
  rw [hd] at hr
  exact ⟨b, o, da, _, dc, ha, hb, hcell, hr⟩

/-- append of one slice of bytes -/
theorem app34 {w : World} {ops : Array Oper} {rest : List Oper} {o : Oper} {a : Act} {Q : Exit → Act → World → Prop} (hgd : o.guard = none) (s x : Operand)
    (ho : o.op = .call { callee := .builtin .append, args := #[s, x], argTypes := #[35, 35] })
    {base : Nat} {w0 : World} {v : Value} {ls : List (List Nat)} (hs : a.eval s = v) (hown : OwnL w0 base v ls)
    {u : Value} {l : List Nat} (hw : w = w0.alloc (.cells #[u] 34)) (hx : a.eval x = .slice (some ⟨w0.heap.size, 0, none⟩) 1 1) (hr : Rd (Beside base w0 v) w0 u l)
    (hlen : ls.length ≤ 1000000000000) (hbase : base ≤ w0.heap.size)
    (h : ∀ v' w', OwnL w' base v' (ls ++ [l]) → Frame (fun k => v.ownBlock = some k) w0 w' → Moved w0 v v' → wpList Tryz.prog ops Q rest (a.put o.dst v') w') : wpList Tryz.prog ops Q (o :: rest) a w := by
  subst hw
  obtain ⟨vs, h1, h2⟩ := hown
  have hu1 : u.oneCell' = true := by obtain ⟨_, da, dc, hd, _⟩ := hr.1; rw [hd]; rfl
  refine app_any info34 underlying35 rfl (by decide) hgd s x ho base v ls.length vs hs (h1.alloc _) _ _ 1 [u] hx (Sl.laid w0 [u] 1 1 34 rfl (by decide)) (by intro y hy; simp at hy; subst hy; exact hu1)
    (by unfold maxLen; omega) (by omega) (by simp; omega) fun v' w' g1 g2 _ g4 => ?_
  have hf : Frame (fun k => v.ownBlock = some k) w0 w' := ((Frame.refl _ _).alloc _).grown g2 fun k hk => .inl hk
  have hm : Moved w0 v v' := g4.imp id fun h k hk => by have := h k hk; simp at this; omega
  have hs2 := hf.size
  have hlv : vs.length = ls.length := by have := h1.1; omega
  refine h v' w' ⟨vs ++ [u], by simpa using g1, fun i hi => ?_⟩ hf hm
  have hK : ∀ k, Beside base w0 v k → Beside base w' v' k := fun k hk => ⟨hk.1, by omega, fun e => by rcases hm.or k e with e | e; exact hk.2.2 e; omega⟩
  have hsame : Same (Beside base w0 v) w0 w' := hf.same fun k hk => ⟨hk.2.1, hk.2.2⟩
  by_cases hi' : i < ls.length
  · obtain ⟨u', hu', hr'⟩ := h2 i hi'
    refine ⟨u', by rw [List.getElem?_append_left (by omega)]; exact hu', ?_⟩
    rw [List.getElem_append_left hi']
    exact (hr'.keep hsame).mono hK
  · have hi2 : i = ls.length := by simp at hi; omega
    subst hi2
    refine ⟨u, by rw [← hlv]; simp, ?_⟩
    simp only [List.getElem_append_right (Nat.le_refl _), Nat.sub_self, List.getElem_cons_zero]
    exact (hr.keep hsame).mono hK

end Go.Proofs.YtklcoppfkfenfaaGreatDoor
namespace Go.Proofs.YtklcoppfkfenfaaGreatDoor
set_option maxRecDepth 100000
open Go Go.RowKit

/-- what shapes gives back -/
def ShapesPost (base : Nat) (w : World) (v : Value) (ls : List (List Nat)) (e : Ending) (w' : World) : Prop :=
  ∃ a n c, e = .returned (.slice a n c) ∧ OwnL w' base (.slice a n c) ls ∧ Frame (fun k => v.ownBlock = some k) w w' ∧ Moved w v (.slice a n c)

set_option maxHeartbeats 1000000 in
theorem shapes_any (d : Nat) : ∀ (K : Bs) (base : Nat) (p : NodeV) (v : Value) (ls : List (List Nat)) (w : World) (_ : NodeAt d K w p) (_ : OwnL w base v ls) (_ : ∀ k, K k → k < base) (_ : base ≤ w.heap.size)
    (_ : AllN (fun n => n.attrs.length ≤ 1000000) p.1) (_ : ls.length + nodesF p.1 ≤ 1000000),
    Calls Tryz.prog 62 #[.agg #[.int .u32 (p.1.tag : Int), p.2.1, .bool p.1.opn, p.2.2], v] w (ShapesPost base w v (shapesF p.1 ls)) := by
  induction d with
  | zero => intro _ _ _ _ _ _ h; exact h.elim
  | succ d ih =>
  intro K base p v ls w h hown hk hbase hsm hlen
  obtain ⟨a, cap, ka, kc, he1, he2, hkc, hkm, htag, _, hkids⟩ := h.elem
  have hsm1 := ((AllN_eq _ _).1 hsm).1
  have hsm2 := (AllL_iff _ _).1 ((AllN_eq _ _).1 hsm).2
  have hnl := nodesF_eq p.1
  obtain ⟨nd, av, kv⟩ := p
  dsimp only at *
  subst he1; subst he2
  obtain ⟨la, lc, hv, hl1, hl2, hel⟩ := hown.elem
  subst hv
  have hfb : Frame no w (w.alloc (.cells #[.int .u32 (nd.tag : Int), .slice a nd.attrs.length cap, .bool nd.opn, .slice ka nd.kids.length kc] 28)) := (Frame.refl _ _).alloc _
  have hN := h.keep (hfb.same fun k hK => ⟨by have := hk k hK; omega, id⟩)
  unfold maxLen at hl2 hkm
  have IH := Lib.hid ih; clear ih
  have HS1 := Lib.hid hsm1; clear hsm1
  have HS2 := Lib.hid hsm2; clear hsm2
  have HKD := Lib.hid hkids; clear hkids
  have HEL := Lib.hid hel; clear hel
  have HNL := Lib.hid hnl; clear hnl hsm
  have hown0 := Lib.hid hown
  go_enter Tryz.func62, Tryz.ntmps62
  go_wp2_with fail
  (with_reducible refine (shape_any d K (nd, .slice a nd.attrs.length cap, .slice ka nd.kids.length kc) _ hN (fun k hK => by have := hk k hK; simp; omega) HS1.out).mono ?_)
  rintro e w1 ⟨a1, n1, c1, rfl, ho1, hf1⟩
  have hs1 := hf1.size
  simp at hs1
  have hf01 : Frame no w w1 := hfb.trans hf1 (fun _ h => h.elim)
  have hcb : w1.cell? ⟨w.heap.size, 3, none⟩ = some (.slice ka nd.kids.length kc) := hf1.cell (by simp [World.cell?_alloc_new]) id
  go_upto_block 0 with fail
  go_cut [6] (fun s6 wx => s6 = .bool (hasS ls (shapeB nd)) ∧ w1 = wx)
  case first =>
    go_wp2_with fail
    go_loop [6, 15] (fun s6 s15 => ∃ k : Nat, k ≤ ls.length ∧ s15 = .int .i64 k ∧ s6 = .bool (hasS (ls.take k) (shapeB nd))) (fun _ i => ls.length - (intOf i).toNat)
    case atStart => exact ⟨0, Nat.zero_le _, rfl, by simp [hasS]⟩
    case round =>
      obtain ⟨k, hk', rfl, rfl⟩ := hrel
      by_cases hlt : k < ls.length
      · obtain ⟨b, o, da, dn, dc, rfl, hob, hcell, hrd⟩ := HEL.out k hlt
        replace hcell := hf01.cell hcell id
        replace hrd := hrd.keep (hf01.same fun k hk => ⟨hk.2.1, id⟩)
        have HT := Lib.hid (contains_take_succ ls (shapeB nd) k hlt)
        cases hq : hasS (ls.take k) (shapeB nd)
        · have HQ := Lib.hid hq; clear hq
          go_wp2_with (go_at_call 50; ((with_reducible refine (sameBytes_any _ _ _ _ _ _ _ hrd ho1.rd).mono ?_); rintro e w' ⟨rfl, rfl⟩))
          go_round
          case rel =>
            refine ⟨k + 1, by omega, by go_num, ?_⟩
            rw [HT.out, HQ.out]
            simp
          case measure => simp [intOf]; omega
        · have HQ := Lib.hid hq; clear hq
          go_wp2_with fail
          go_round
          case rel =>
            refine ⟨k + 1, by omega, by go_num, ?_⟩
            rw [HT.out, HQ.out]
            simp
          case measure => simp [intOf]; omega
      · have HT := Lib.hid (show ls.take k = ls from List.take_of_length_le (by omega))
        go_wp2_with fail
        go_meet
        case rel => exact ⟨by rw [HT.out], rfl⟩
  case rest =>
  obtain ⟨rfl, rfl⟩ := hcut
  generalize hq : hasS ls (shapeB nd) = f
  have HQ := Lib.hid hq; clear hq
  have hs2 := hf01.size
  have howb : OwnL w1 base (Value.slice la ls.length lc) ls := hown0.out.keep hf01 (fun _ _ _ h => h)
  have hob1 : Rd (Beside base w1 (Value.slice la ls.length lc)) w1 (.slice a1 n1 c1) (shapeB nd) := ho1.rd.mono fun k hk => by
    have h1 := own_lt ho1 k hk
    simp at h1
    exact ⟨by omega, h1.2, fun e => by have := hown.lt k e; omega⟩
  go_upto_if 27 with fail
  go_cut [1, 6, 27] (fun s1 _ _ wx => ∃ a' n' c', s1 = .slice a' n' c' ∧ OwnL wx base (.slice a' n' c') (addShape (shapeB nd) ls) ∧ Frame (fun k => (Value.slice la ls.length lc).ownBlock = some k) w1 wx ∧ Moved w1 (Value.slice la ls.length lc) (.slice a' n' c'))
  case first =>
    cases f
    · go_wp2_with (at_builtin; refine app34 rfl _ _ rfl rfl howb rfl rfl hob1 (by omega) (by omega) ?_; intro v' w' g1 g2 g3)
      go_meet
      case rel =>
        obtain ⟨a', n', c', rfl⟩ : ∃ a' n' c', v' = .slice a' n' c' := by obtain ⟨a', c', e, _⟩ := g1.elem; exact ⟨a', _, c', e⟩
        refine ⟨a', n', c', rfl, ?_, g2, g3⟩
        unfold addShape; rw [HQ.out]; exact g1
    · go_wp2_with fail
      go_meet
      case rel =>
        refine ⟨_, _, _, rfl, ?_, Frame.refl _ _, .inl rfl⟩
        unfold addShape; rw [HQ.out]; exact howb
  case rest =>
  obtain ⟨a2, n2, c2, rfl, ho2, hf2, hm2⟩ := hcut
  have hs3 := hf2.size
  have hcb2 := hf2.cell hcb (fun e => absurd (hown.lt _ e).2 (Nat.lt_irrefl _))
  go_wp2_with fail
  have hfS : Frame (fun k => (Value.slice la ls.length lc).ownBlock = some k) w wc := (Frame.of_no hf01).trans' hf2
  have hm02 : Moved w (Value.slice la ls.length lc) (.slice a2 n2 c2) := hm2.imp id fun h k hk => by have := h k hk; omega
  go_loopw [1, 35] (fun v i wr => ∃ (k : Nat) (a' : Option Addr) (n' c' : Nat), k ≤ nd.kids.length ∧ i = .int .i64 k ∧ v = .slice a' n' c' ∧ OwnL wr base (.slice a' n' c') (shapesL (nd.kids.take k) (addShape (shapeB nd) ls)) ∧
        Frame (fun k => (Value.slice la ls.length lc).ownBlock = some k) w wr ∧ Moved w (Value.slice la ls.length lc) (.slice a' n' c'))
      (fun _ i _ => nd.kids.length - (intOf i).toNat)
  case atStart => exact ⟨0, a2, n2, c2, Nat.zero_le _, rfl, rfl, by simpa [shapesL] using ho2, hfS, hm02⟩
  case round =>
  clear ho2 hf2 hm2 hcb2 hfS hm02 hob1 howb hcb hf01 hf1 ho1
  obtain ⟨k, a', n', c', hk', rfl, rfl, hown', hf, hm⟩ := hrel
  have hs4 := hf.size
  by_cases hlt : k < nd.kids.length
  · obtain ⟨b, o, ka1, kn1, kb1, kc1, rfl, hb, g0, g1, g2, g3, hNk⟩ := HKD.out k hlt
    have hnS : ∀ k, K k → ¬ (Value.slice la ls.length lc).ownBlock = some k := fun k hK e => by have := hown.lt k e; have := hk k hK; omega
    replace g0 := hf.cell g0 (hnS b hb)
    replace g1 := hf.cell g1 (hnS b hb)
    replace g2 := hf.cell g2 (hnS b hb)
    replace g3 := hf.cell g3 (hnS b hb)
    have hNk' := hNk.keep (hf.same fun k hK => ⟨by have := hk k hK; omega, hnS k hK⟩)
    clear hNk
    generalize hkd : nd.kids[k] = kd at g0 g1 g2 g3 hNk'
    have HKDk := Lib.hid hkd
    have hmem : kd ∈ nd.kids := by rw [← hkd]; exact List.getElem_mem _
    clear hkd
    go_wp2_with fail
    have hfa : Frame no wr (wr.alloc (.cells #[.int .u32 (kd.tag : Int), .slice ka1 kd.attrs.length kn1, .bool kd.opn, .slice kb1 kd.kids.length kc1] 28)) := (Frame.refl _ _).alloc _
    have hl1 : (shapesL (nd.kids.take k) (addShape (shapeB nd) ls)).length + nodesF kd ≤ 1000000 := by
      have e1 := shapesL_len (nd.kids.take k) (addShape (shapeB nd) ls)
      have e2 := addShape_len (shapeB nd) ls
      have e3 := nodesL_take_succ nd.kids k hlt
      have e4 := nodesL_take_le nd.kids (k + 1)
      have e5 := HNL.out
      rw [HKDk.out] at e3
      omega
    (with_reducible refine (IH.out K base (kd, .slice ka1 kd.attrs.length kn1, .slice kb1 kd.kids.length kc1) (.slice a' n' c') _ _ (hNk'.keep (hfa.same fun k hK => ⟨by have := hk k hK; omega, id⟩))
      (hown'.keep hfa (fun _ _ _ h => h)) hk (by simp; omega) (HS2.out kd hmem) hl1).mono ?_)
    rintro e w5 ⟨a5, n5, c5, rfl, ho5, hf5, hm5⟩
    have hs5 := hf5.size
    simp at hs5
    go_wp2_with fail
    go_roundw
    case rel =>
      have hmr := hm.or
      refine ⟨k + 1, a5, n5, c5, by omega, by go_num, rfl, ?_, (hf.alloc _).trans hf5 (fun i hi => hmr i hi), ?_⟩
      · rw [shapesL_take_succ _ _ hlt, HKDk.out]; exact ho5
      · rcases hm5 with h5 | h5
        · rcases hm with h6 | h6
          · exact .inl (h5.trans h6)
          · exact .inr fun k hk => h6 k (h5 ▸ hk)
        · exact .inr fun k hk => by have := h5 k hk; simp at this; omega
    case measure => simp [intOf]; omega
  · have HT := Lib.hid (show nd.kids.take k = nd.kids from List.take_of_length_le (by omega))
    go_wp2_with fail
    go_ret
    refine ⟨a', n', c', rfl, ?_, hf, hm⟩
    rw [shapesF_eq, ← HT.out]
    rw [HT.out] at hown' ⊢
    exact hown'

end Go.Proofs.YtklcoppfkfenfaaGreatDoor
