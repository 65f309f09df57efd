/-
  The law FnPointers, over arguments and listed variables of bulk at most the given one: for every list of units and either order of bytes the call returns true and changes nothing that was there. Conditions: those of the given row (what is read holds at most so many values and letters; the listed variables start as the program's text lays them).
-/
import Derived.Test.YtklcoppfkfenfaaGreatDoorFP42
import Derived.Test.YtklcoppfkfenfaaGreatDoorFP43
import Derived.Test.YtklcoppfkfenfaaGreatDoorTie
import Derived.Test.YtklcoppfkfenfaaGreatDoorCards
import Derived.Deep.DeepWitnessRowRef
import Derived.WalkKit
import Derived.ProofKit
import Derived.OpenShut
import Derived.Carry
import Derived.OpenVars
import Derived.LaidMore
import Derived.Maps.Keyed
import Derived.Deep.DeepHandedRow
set_option linter.all false
set_option linter.unusedVariables false
set_option linter.unusedSimpArgs false
namespace Go.Proofs.YtklcoppfkfenfaaGreatDoor
set_option maxRecDepth 1000000
open Go Go.RowKit Go.ChangeShapes Go.WideShapes Go.ChangeAt

theorem ownK : ownKnob Tryz.prog.godebug = none := by kernel_rfl
theorem gPtr : Tryz.prog.globalNamed "loop.example/pub-g01464/pub/dwarf.attrPtrClass" = some 2 := by kernel_rfl
theorem tPtr : (Tryz.prog.globals[2]?).map (·.type) = some 242 := by kernel_rfl
theorem und_242 : Tryz.prog.underlying 242 = some (.map 153 154) := by kernel_rfl
theorem und_153 : Tryz.prog.underlying 153 = some (.int .u32) := by kernel_rfl
theorem und_154 : Tryz.prog.underlying 154 = some (.int .i64) := by kernel_rfl
theorem cells_242 : Tryz.prog.cellsOf 242 = 1 := by kernel_rfl
theorem zero154 (w : World) : (zeroValue 154).run Tryz.prog w = .ok (.int .i64 0) w := by kernel_rfl

theorem same_no {z : Int} (x n : Nat) (hz : (n : Int) = z) (h : ¬ x = n) : (Lit.int .u32 z).sameKey (.int .u32 (x : Int)) = false := by
  subst hz
  simp [Lit.sameKey]
  omega
theorem ptr_at {H : Type} (x : Nat) (z : DataW H) : (Rows.laid_loop_example_pub_g01464_pub_dwarf_attrPtrClass (H := H)).atKey (.int .u32 (x : Int)) z = match ptrF x with | some c => .lit (.int .i64 c) | none => z := by
  unfold Rows.laid_loop_example_pub_g01464_pub_dwarf_attrPtrClass DataW.atKey
  by_cases h2 : x = 2
  · subst h2; rfl
  by_cases h16 : x = 16
  · subst h16; rfl
  by_cases h25 : x = 25
  · subst h25; rfl
  by_cases h42 : x = 42
  · subst h42; rfl
  by_cases h44 : x = 44
  · subst h44; rfl
  by_cases h56 : x = 56
  · subst h56; rfl
  by_cases h64 : x = 64
  · subst h64; rfl
  by_cases h67 : x = 67
  · subst h67; rfl
  by_cases h70 : x = 70
  · subst h70; rfl
  by_cases h72 : x = 72
  · subst h72; rfl
  by_cases h74 : x = 74
  · subst h74; rfl
  by_cases h77 : x = 77
  · subst h77; rfl
  by_cases h85 : x = 85
  · subst h85; rfl
  by_cases h114 : x = 114
  · subst h114; rfl
  by_cases h115 : x = 115
  · subst h115; rfl
  by_cases h116 : x = 116
  · subst h116; rfl
  by_cases h140 : x = 140
  · subst h140; rfl
  have e2 := same_no (z := 2) x 2 rfl h2
  have e16 := same_no (z := 16) x 16 rfl h16
  have e25 := same_no (z := 25) x 25 rfl h25
  have e42 := same_no (z := 42) x 42 rfl h42
  have e44 := same_no (z := 44) x 44 rfl h44
  have e56 := same_no (z := 56) x 56 rfl h56
  have e64 := same_no (z := 64) x 64 rfl h64
  have e67 := same_no (z := 67) x 67 rfl h67
  have e70 := same_no (z := 70) x 70 rfl h70
  have e72 := same_no (z := 72) x 72 rfl h72
  have e74 := same_no (z := 74) x 74 rfl h74
  have e77 := same_no (z := 77) x 77 rfl h77
  have e85 := same_no (z := 85) x 85 rfl h85
  have e114 := same_no (z := 114) x 114 rfl h114
  have e115 := same_no (z := 115) x 115 rfl h115
  have e116 := same_no (z := 116) x 116 rfl h116
  have e140 := same_no (z := 140) x 140 rfl h140
  unfold ptrF
  simp only [List.find?_cons, List.find?_nil, e2, h2, e16, h16, e25, h25, e42, h42, e44, h44, e56, h56, e64, h64, e67, h67, e70, h70, e72, h72, e74, h74, e77, h77, e85, h85, e114, h114, e115, h115, e116, h116, e140, h140, if_false]

theorem of_laid {W : World} (h : laidMetH Tryz.prog Rows.fnPointersUptoRow.laid W) : ∃ b, Laid W b ∧ b < W.heap.size := by
  rw [MakeChecks.laidMetH_plain _ _ _ (by kernel_rfl)] at h
  obtain ⟨ps, ⟨g0, t0, cs0, f0, p0, q0, hg0, ht0, hv0, hd0, ⟨g1, t1, cs1, f1, p1, q1, hg1, ht1, hv1, hd1, ⟨g2, t2, cs2, f2, p2, q2, hg2, ht2, hv2, hd2, ⟨g3, t3, cs3, f3, p3, q3, hg3, ht3, hv3, hd3, ⟨g4, t4, cs4, f4, p4, q4, hg4, ht4, hv4, hd4, _, _⟩, _⟩, _⟩, _⟩, _⟩, _, _⟩ := h
  obtain rfl := Option.some.inj (gPtr.symm.trans hg4)
  obtain rfl := Option.some.inj (tPtr.symm.trans ht4)
  rcases Go.WideElems.open_map und_242 hd4 with ⟨_, hx⟩ | ⟨b, es, clock, m, rfl, hcs, hb, _, F, hx⟩
  · simp [Rows.laid_loop_example_pub_g01464_pub_dwarf_attrPtrClass] at hx
  simp only [Prod.mk.injEq] at hx
  have hcell : W.cell? ⟨2, 0, none⟩ = some (.map (some b)) := by
    have := World.var?_cell hg4 hv4 0
    rw [Array.eq_one_of_toList hcs] at this
    simpa using this
  refine ⟨b, ⟨hcell, fun w' hw' x hx32 => ?_⟩, (Array.getElem?_eq_some_iff.1 hb).1⟩
  have hkey : keyOf Tryz.prog 153 (.int .u32 (x : Int)) = some (.int .u32 (x : Int)) := Go.Maps.keyOf_int_mk und_153 (wf_u32 x hx32)
  rcases Go.Maps.fit_look true (Go.Maps.int_keyed und_153) und_242 (zero154 w') (hw'.trans hb) F hkey with ⟨hrun, _, hat⟩ | ⟨e0, y, _, _, hrun, hR, hat, _⟩
  · have h1 := hat .nil
    rw [← hx.1, ptr_at] at h1
    cases hp : ptrF x with
    | none => exact hrun
    | some c => rw [hp] at h1; cases h1
  · obtain ⟨r, hr1, hr2, _⟩ := Go.WideElems.elemAt_int und_154 hR
    have h1 := hat .nil
    rw [← hx.1, ptr_at, hr2] at h1
    cases hp : ptrF x with
    | none => rw [hp] at h1; cases h1
    | some c =>
      rw [hp] at h1
      cases h1
      rw [hr1] at hrun
      exact hrun

/-- BEHIND A CALL THAT TURNS NO OLD BLOCK, AND ANSWERS true: what the row says of it. -/
theorem post_below {H : Type} {enc : TypeId × Value → H} {W W' : World} {args : Array Value} {ds gs : List (DataW H)} {before : List MemPlace}
    (hW : DataW.Whole enc Tryz.prog Tryz.f3.params.toList Rows.fnPointersSpec.vars false W args.toList ds gs before) (hb : Below W.heap.size W W') :
    Rows.fnPointersSpec.post enc Tryz.prog Tryz.f3 false true false false W args (.bool true) W' := by
  have hlt := hW.lt
  have hW' := hW
  obtain ⟨p, q, hA, hV, rfl, -, -⟩ := hW
  rw [Tryz.params3] at hA
  have hltp : ∀ x ∈ p, x.block < W.heap.size := fun x hx => hlt x (List.mem_append_left _ hx)
  have hV2 : DataW.TrodVars enc Tryz.prog W' (fun b => decide (b < W.heap.size)) Rows.fnPointersSpec.vars gs q := Below.trodVars (by kernel_rfl) hb (by kernel_rfl) hV
  obtain ⟨w0, w1, e0, e1, p0, p1, rfl, rfl, rfl, t0, t1⟩ := trodAll_two hA
  obtain ⟨g0, gs0, a0, b0, hgs, -⟩ : ∃ g0 gs0 a0 b0, gs = g0 :: gs0 ∧ (a0 : Nat) = b0 := by
    cases gs with
    | nil => exact hV.elim
    | cons x y => exact ⟨x, y, 0, 0, rfl, rfl⟩
  obtain ⟨g1, rfl⟩ : ∃ g1, gs0 = [g1] := by
    subst hgs
    obtain ⟨_, _, _, _, _, q1, _, _, _, _, hs, _⟩ := hV
    cases gs0 with
    | nil => exact hs.elim
    | cons x y =>
      obtain ⟨_, _, _, _, _, q2, _, _, _, _, hs2, _⟩ := hs
      cases y with
      | nil => exact ⟨x, rfl⟩
      | cons x2 y2 => exact hs2.elim
  subst hgs
  refine ⟨[e0, e1], [g0, g1], (p0 ++ p1) ++ q, [], p0 ++ p1, q, hW', ?_, ?_, hV2, hb.frame _, fun h => by cases h⟩
  · exact trodAll_mk1 (shut_bool und_4 _)
  · rw [Tryz.params3]
    exact trodAll_mk2 (Below.trod (by kernel_rfl) (by kernel_rfl) (by decide +kernel) t0 hb (fun x hx => hltp x (List.mem_append_left _ hx))) (Below.trod (by kernel_rfl) (by kernel_rfl) (by decide +kernel) t1 hb (fun x hx => hltp x (List.mem_append_right _ hx)))

theorem small_two {H : Type} {d0 d1 : DataW H} {gs : List (DataW H)} (h : Rows.uptoSmall H ([d0, d1] ++ gs) = true) : Rows.uptoBulk d0 ≤ 1099511627776 := by
  have h2 := of_decide_eq_true h
  simp only [List.cons_append, Rows.uptoBulkAll] at h2
  exact Nat.le_trans (Nat.le_trans (Nat.le_add_right _ _) h2) (by decide)

theorem contract (H : Type) (enc : TypeId × Value → H) (W : World) (base : Nat) (args : Array Value) (ds gs : List (DataW H)) (before : List MemPlace)
    (hval : ∀ (j : Nat) t v, Tryz.f3.params[j]? = some t → args[j]? = some v → Value.okWide Tryz.prog W .any base t v)
    (hW : DataW.Whole enc Tryz.prog Tryz.f3.params.toList Rows.fnPointersSpec.vars false W args.toList ds gs before) (hL : laidMetH Tryz.prog Rows.fnPointersUptoRow.laid W)
    (hS : Rows.uptoSmall H (ds ++ gs) = true) :
    Calls Tryz.prog 3 args W fun e W' => ∃ v, e = .returned v ∧ Rows.fnPointersSpec.post enc Tryz.prog Tryz.f3 false true false false W args v W' := by
  have hW' := hW
  obtain ⟨p, q, hA, hV, rfl, -, -⟩ := hW
  rw [Tryz.params3] at hA hval
  obtain ⟨w0, w1, e0, e1, p0, p1, rfl, rfl, rfl, ⟨fuel, t0⟩, t1⟩ := trodAll_two hA
  obtain ⟨big, rfl, -, -⟩ := open_bool und_4 (hval 1 4 w1 rfl rfl) t1
  obtain ⟨a0, n0, c0, rfl⟩ := okWide_slice und_22 (hval 0 22 w0 rfl rfl)
  obtain ⟨a, us, cap, hv, hu, hn⟩ := units_trod t0
  simp only [Value.cells, List.cons.injEq, and_true, Value.slice.injEq] at hv
  obtain ⟨rfl, rfl, rfl⟩ := hv
  obtain ⟨b, hb, hbl⟩ := of_laid hL
  have hN : nodesU us ≤ 1099511627776 := Nat.le_trans hn (small_two hS)
  refine (fnPointers_any us fuel b big (AllK W) a0 c0 W hu (fun k hk => hk) hN hb hbl).mono fun e W' ⟨he, hf⟩ => ?_
  subst he
  exact ⟨_, rfl, post_below hW' hf.below⟩

/-- A WORLD FOR THE WITNESS: the settled one, its variables as the program's own text lays them. -/
theorem laid_met (os : Os) : laidMetH Tryz.prog Rows.fnPointersUptoRow.laid (((World.doorLaid Tryz.prog 238 os)).forCall (fun _ _ => 0) ⟨#[], #[.slice none 0 0, .bool false], []⟩).memory := by
  rw [MakeChecks.laidMetH_plain _ _ _ (by kernel_rfl)]
  exact laidMet_of_run' 8 (by kernel_rfl) (by kernel_rfl)
theorem reads (os : Os) {H : Type} (enc : TypeId × Value → H) : ∃ places, DataW.whole enc Tryz.prog (((World.doorLaid Tryz.prog 238 os)).forCall (fun _ _ => 0) ⟨#[], #[.slice none 0 0, .bool false], []⟩).memory Tryz.f3.params.toList Rows.fnPointersSpec.vars false #[Value.slice none 0 0, .bool false].toList 8 = some ([.nil, .lit (.bool false)], [Rows.laid_loop_example_pub_g01464_pub_dwarf_attrIsExprloc, Rows.laid_loop_example_pub_g01464_pub_dwarf_attrPtrClass], places) := by
  have h : (DataW.whole enc Tryz.prog (((World.doorLaid Tryz.prog 238 os)).forCall (fun _ _ => 0) ⟨#[], #[.slice none 0 0, .bool false], []⟩).memory Tryz.f3.params.toList Rows.fnPointersSpec.vars false #[Value.slice none 0 0, .bool false].toList 8).map (fun x => (x.1, x.2.1)) = some ([.nil, .lit (.bool false)], [Rows.laid_loop_example_pub_g01464_pub_dwarf_attrIsExprloc, Rows.laid_loop_example_pub_g01464_pub_dwarf_attrPtrClass]) := by kernel_rfl
  rcases Option.map_eq_some_iff.1 h with ⟨⟨x, y, z⟩, hx, he⟩
  simp only [Prod.mk.injEq] at he
  obtain ⟨rfl, rfl⟩ := he
  exact ⟨z, hx⟩

/-- THE CALL, FOR EVERY INPUT THAT THE ROW ADMITS, IN EVERY WORLD. -/
theorem liftedUpto (os : Os) (started : os.Started) (H : Type) (enc : TypeId × Value → H) (F : Stop.Interp) :
    ReturnsInHanded {} Tryz.checked os 3 .any ((Rows.OpenSpec.upto Rows.fnPointersSpec).preRow enc Tryz.prog Tryz.f3 Rows.fnPointersUptoRow.domain false Rows.fnPointersUptoRow.laid) (((Rows.OpenSpec.upto Rows.fnPointersSpec).at F).post enc Tryz.prog Tryz.f3 false true false false) := by
  obtain ⟨places, hx⟩ := reads os enc
  refine returnsInHanded_of_row (C := Tryz.checked) (s := Rows.OpenSpec.upto Rows.fnPointersSpec) ownK started (by kernel_rfl) Tryz.func3
    (witness_row_atRef (enc := enc) (C := Tryz.checked) false (World.doorLaid Tryz.prog 238 os) #[.slice none 0 0, .bool false] rfl (by kernel_rfl) (by kernel_rfl) (by kernel_rfl)
      (OpenSpec.preRow_of_cond 8 hx (by kernel_rfl) (fun k hk => by cases hk; kernel_rfl) (by kernel_rfl) (laid_met os))) ?_
  intro W base args ds gs before hval hW _ hcond _ hL _ _
  exact contract H enc W base args ds gs before hval hW hL (hcond _ rfl)

theorem saidUpto : Rows.FnPointersUptoSaid :=
  OpenClaim.holds_of_cond 3 Tryz.f3 rfl rfl rfl rfl rfl rfl rfl ⟨rfl, rfl, rfl, rfl, rfl⟩ rfl rfl rfl rfl rfl (by kernel_rfl) Tryz.func3 (by kernel_rfl)
    (of_decide_eq_true (by kernel_rfl)) (by unfold Func.isWrapper; first | (rw [if_pos (by decide +kernel)]; kernel_rfl) | (rw [if_neg (by decide +kernel)]; exact ⟨rfl, rfl⟩))
    (fun os started H enc _ F => by rw [OpenClaim.pre_eq_preRow]; exact liftedUpto os started H enc F)

/-- No parameter wants a stand-in; the program's own looks are off. -/
theorem plain (f : FuncId) (fn : Func) (hf : Tryz.pinned.checked.prog.funcNamed "loop.example/pub-g01464/laws.FnPointers" = some f) (hfn : Tryz.pinned.checked.prog.funcs[f]? = some fn) :
    true = Tryz.pinned.checked.prog.looks [] ∧ ∀ (j : Nat) t, fn.params[j]? = some t → Tryz.pinned.checked.prog.wantsStandIn t = false := by
  obtain rfl : f = 3 := Option.some.inj ((show Tryz.prog.funcNamed "loop.example/pub-g01464/laws.FnPointers" = some 3 by kernel_rfl).symm.trans hf) |>.symm
  obtain rfl : fn = Tryz.f3 := (Option.some.inj (Tryz.func3.symm.trans hfn)).symm
  refine ⟨by kernel_rfl, fun j t ht => ?_⟩
  rw [Tryz.params3] at ht
  have hm : t = 22 ∨ t = 4 := by simpa using Array.mem_of_getElem? ht
  rcases hm with rfl | rfl
  · exact (show Tryz.prog.wantsStandIn 22 = false by kernel_rfl)
  · exact (show Tryz.prog.wantsStandIn 4 = false by kernel_rfl)

/-- THE CARD. -/
theorem fnPointers_card_upto : Rows.FnPointersUptoCardSaid :=
  Claim7.holds_tied_plain_at .later [] _ _ _ _ saidUpto (fun _ h => by cases h) (by kernel_rfl) (fun _ h => by cases h) fnPointersUpto_row_tie rfl ⟨rfl, rfl⟩ (by kernel_rfl) rfl plain (by kernel_rfl)
#print axioms fnPointers_card_upto
end Go.Proofs.YtklcoppfkfenfaaGreatDoor
