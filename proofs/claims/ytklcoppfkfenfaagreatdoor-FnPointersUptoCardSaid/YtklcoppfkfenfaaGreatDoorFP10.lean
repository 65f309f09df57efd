/-
  Walks: whether a node is right.
-/
import Derived.Test.YtklcoppfkfenfaaGreatDoorFP09
set_option linter.all false
set_option linter.unusedVariables false
set_option linter.unusedSimpArgs false
namespace Go.Proofs.YtklcoppfkfenfaaGreatDoor
set_option maxRecDepth 100000
open Go Go.RowKit

theorem unit_cells {u : UnitD} {av kv : Value} {w : World} {B : Nat} (h : w.heap[B]? = some (.cells (unitV u av kv) 31)) :
    w.cell? ⟨B, 0, none⟩ = some (.int .i64 u.version) ∧ w.cell? ⟨B, 1, none⟩ = some (.bool u.wide) ∧ w.cell? ⟨B, 2, none⟩ = some (.int .i64 u.address) ∧ w.cell? ⟨B, 3, none⟩ = some (.bool u.late) ∧
    w.cell? ⟨B, 4, none⟩ = some (.int .u32 (u.root.tag : Int)) ∧ w.cell? ⟨B, 5, none⟩ = some av ∧ w.cell? ⟨B, 6, none⟩ = some (.bool u.root.opn) ∧ w.cell? ⟨B, 7, none⟩ = some kv ∧ w.cell? ⟨B, 8, none⟩ = some (.bool u.typed) ∧
    w.cell? ⟨B, 9, none⟩ = some (.int .u64 (u.signature : Int)) ∧ w.cell? ⟨B, 10, none⟩ = some (.int .i64 u.type) :=
  ⟨cell_of_row _ _ _ _ _ _ h, cell_of_row _ _ _ _ _ _ h, cell_of_row _ _ _ _ _ _ h, cell_of_row _ _ _ _ _ _ h, cell_of_row _ _ _ _ _ _ h, cell_of_row _ _ _ _ _ _ h, cell_of_row _ _ _ _ _ _ h, cell_of_row _ _ _ _ _ _ h, cell_of_row _ _ _ _ _ _ h, cell_of_row _ _ _ _ _ _ h, cell_of_row _ _ _ _ _ _ h⟩

def NodeP (v : Int) (nd : NodeD) : Prop := (∀ a ∈ nd.attrs, AttrP v a) ∧ 1 ≤ nd.tag ∧ nd.tag ≤ 74 ∧ nd.attrs.length ≤ 8

/-- behind the world w lie a unit and a node by value, nothing else has turned -/
structure UnitNode (w : World) (u : UnitD) (av kv : Value) (t : Nat) (x y : Value) (o : Bool) (wr : World) : Prop where
  frame : Frame no w wr
  unit : wr.heap[w.heap.size]? = some (.cells (unitV u av kv) 31)
  node : wr.heap[w.heap.size + 1]? = some (.cells #[.int .u32 (t : Int), x, .bool o, y] 28)
theorem UnitNode.start (w : World) (u : UnitD) (av kv : Value) (t : Nat) (x y : Value) (o : Bool) : UnitNode w u av kv t x y o ((w.alloc (.cells (unitV u av kv) 31)).alloc (.cells #[.int .u32 (t : Int), x, .bool o, y] 28)) :=
  ⟨((Frame.refl _ _).alloc _).alloc _, (Below.heap_alloc _ _ _ (by simp)).trans (heap_alloc_new _ _), by simpa using heap_alloc_new (w.alloc (.cells (unitV u av kv) 31)) (.cells #[.int .u32 (t : Int), x, .bool o, y] 28)⟩
theorem block_lt {w : World} {B : Nat} {o : Obj} (h : w.heap[B]? = some o) : B < w.heap.size := (Array.getElem?_eq_some_iff.1 h).1
theorem UnitNode.step {w wr w2 : World} {u : UnitD} {av kv x y : Value} {t : Nat} {o : Bool} (h : UnitNode w u av kv t x y o wr) (hf : Frame no wr w2) : UnitNode w u av kv t x y o w2 :=
  ⟨h.frame.trans hf (fun _ h => h.elim), (hf.block _ (block_lt h.unit) id).trans h.unit, (hf.block _ (block_lt h.node) id).trans h.node⟩

set_option maxHeartbeats 4000000 in
theorem validNode_any (u : UnitD) (av kv : Value) (d : Nat) : ∀ (K : Bs) (p : NodeV) (w : World) (_ : NodeAt d K w p) (_ : ∀ k, K k → k < w.heap.size),
    Calls Tryz.prog 24 #[.agg (unitV u av kv), .agg #[.int .u32 (p.1.tag : Int), p.2.1, .bool p.1.opn, p.2.2]] w (Says w (AllN (NodeP u.version) p.1)) := by
  induction d with
  | zero => intro _ _ _ h; exact h.elim
  | succ d ih =>
  intro K p w h hk
  obtain ⟨a, cap, ka, kc, he1, he2, hkc, hkm, htag, hal, hkids⟩ := h.elem
  obtain ⟨nd, av', kv'⟩ := p
  dsimp only at *
  subst he1; subst he2
  obtain ⟨_, _, he, hac, hacm, hel⟩ := hal.elem
  simp only [Value.slice.injEq, true_and] at he
  obtain ⟨rfl, rfl⟩ := he
  unfold maxLen at hkm hacm
  have IH := Lib.hid ih; clear ih
  have HKD := Lib.hid hkids; clear hkids
  have HEL := Lib.hid hel; clear hel hal h
  have HU0 := UnitNode.start w u av kv nd.tag (.slice a nd.attrs.length cap) (.slice ka nd.kids.length kc) nd.opn
  have n3 : ∀ wr, UnitNode w u av kv nd.tag (.slice a nd.attrs.length cap) (.slice ka nd.kids.length kc) nd.opn wr → wr.cell? ⟨w.heap.size + 1, 3, none⟩ = some (.slice ka nd.kids.length kc) := fun wr h => cell_of_row _ _ _ _ _ _ h.node
  have n1 : ∀ wr, UnitNode w u av kv nd.tag (.slice a nd.attrs.length cap) (.slice ka nd.kids.length kc) nd.opn wr → wr.cell? ⟨w.heap.size + 1, 1, none⟩ = some (.slice a nd.attrs.length cap) := fun wr h => cell_of_row _ _ _ _ _ _ h.node
  have n0 : ∀ wr, UnitNode w u av kv nd.tag (.slice a nd.attrs.length cap) (.slice ka nd.kids.length kc) nd.opn wr → wr.cell? ⟨w.heap.size + 1, 0, none⟩ = some (.int .u32 (nd.tag : Int)) := fun wr h => cell_of_row _ _ _ _ _ _ h.node
  have N0 := Lib.hid n0; have N1 := Lib.hid n1; have N3 := Lib.hid n3
  clear n0 n1 n3
  go_enter Tryz.func24, Tryz.ntmps24
  go_upto_block 0 with fail
  go_cut [5, 6, 8, 14] (fun _ _ _ _ wx => (∀ x ∈ nd.attrs, AttrP u.version x) ∧ UnitNode w u av kv nd.tag (.slice a nd.attrs.length cap) (.slice ka nd.kids.length kc) nd.opn wx)
  case first =>
    go_wp2_with fail
    go_loopw [5, 6, 8, 14] (fun _ _ _ i wr => ∃ k : Nat, k ≤ nd.attrs.length ∧ i = .int .i64 k ∧ (∀ j (h : j < nd.attrs.length), j < k → AttrP u.version nd.attrs[j]) ∧ UnitNode w u av kv nd.tag (.slice a nd.attrs.length cap) (.slice ka nd.kids.length kc) nd.opn wr) (fun _ _ _ i _ => nd.attrs.length - (intOf i).toNat)
    case atStart => exact ⟨0, Nat.zero_le _, rfl, fun _ _ h => by omega, HU0⟩
    case round =>
    obtain ⟨k, hk', rfl, hpr, hU⟩ := hrel
    have HPR := Lib.hid hpr; clear hpr
    by_cases hlt : k < nd.attrs.length
    · obtain ⟨b, o, da, dc, la, lc, rfl, hb, c0, c1, c2, c3, c4, ha1, ha2, ha3, hrd, hit⟩ := HEL.out k hlt
      have hf2 := hU.frame
      replace c0 := hf2.cell c0 id
      replace c1 := hf2.cell c1 id
      replace c2 := hf2.cell c2 id
      replace c3 := hf2.cell c3 id
      replace c4 := hf2.cell c4 id
      have hsm : Same K w wr := hf2.same fun k hK => ⟨hk k hK, id⟩
      replace hrd := hrd.keep hsm
      replace hit := hit.keep hsm
      have hkr : ∀ k, K k → k < wr.heap.size := fun k hK => by have := hk k hK; have := hf2.size; omega
      have hsz : w.heap.size + 1 < wr.heap.size := block_lt hU.node
      generalize hA : nd.attrs[k] = A at *
      have HA := Lib.hid hA; clear hA
      have hfA : Frame no wr (wr.alloc (.cells #[.int .u32 (A.attr : Int), .int .u32 (A.form : Int), .int .u64 (A.n : Int), .slice da A.data.length dc, .slice la A.list.length lc] 73)) := (Frame.refl _ _).alloc _
      have hU1 := hU.step ((Frame.refl no wr).alloc (.cells #[.int .u32 (A.attr : Int), .int .u32 (A.form : Int), .int .u64 (A.n : Int), .slice da A.data.length dc, .slice la A.list.length lc] 73))
      obtain ⟨u0, u1, u2, u3, u4, u5, u6, u7, u8, u9, u10⟩ := unit_cells hU1.unit
      go_wp2_with fail
      (with_reducible refine (validAttr_any K u av kv A _ _ _ _ _ ha1 ha2 (hrd.keep (hfA.same fun k hK => ⟨hkr k hK, id⟩)) (hit.keep (hfA.same fun k hK => ⟨hkr k hK, id⟩)) (fun k hK => by have := hkr k hK; simp; omega)).mono ?_)
      rintro e w5 ⟨bb, rfl, hf5, hP⟩
      have hU5 := hU1.step hf5
      have hs5 := hf5.size
      simp at hs5
      cases bb
      · go_wp2_with fail
        go_ret
        exact ⟨_, rfl, hU5.frame, fun h => by simp at h⟩
      · replace hP := hP rfl
        have HP := Lib.hid hP; clear hP
        have m1 := N1.out _ hU5
        have a0 : w5.cell? ⟨wr.heap.size, 0, none⟩ = some (.int .u32 (A.attr : Int)) := hf5.cell (cell_new _ _ _ _) id
        clear u0 u1 u2 u3 u4 u5 u6 u7 u8 u9 u10 c0 c1 c2 c3 c4 hrd hit
        go_wp2_with fail
        go_loopw [8, 28] (fun _ i wx => ∃ j : Nat, j ≤ k ∧ i = .int .i64 j ∧ Frame no w5 wx) (fun _ i _ => k - (intOf i).toNat)
        case atStart => exact ⟨0, Nat.zero_le _, rfl, Frame.refl _ _⟩
        case round =>
        obtain ⟨j, hj', rfl, hfj⟩ := hrel
        have hsj := hfj.size
        have hUj := hU5.step hfj
        by_cases hjk : j < k
        · obtain ⟨b2, o2, da2, dc2, la2, lc2, he2, hb2, d0, d1, d2, d3, d4, hb1, _⟩ := HEL.out j (by omega)
          simp only [Option.some.injEq, Addr.mk.injEq, and_true] at he2
          obtain ⟨rfl, rfl⟩ := he2
          have hf3 := hUj.frame
          replace d0 := hf3.cell d0 id
          replace d1 := hf3.cell d1 id
          replace d2 := hf3.cell d2 id
          replace d3 := hf3.cell d3 id
          replace d4 := hf3.cell d4 id
          generalize nd.attrs[j] = A2 at *
          have a1 := cell_alloc (hfj.cell a0 id) (.cells #[.int .u32 (A2.attr : Int), .int .u32 (A2.form : Int), .int .u64 (A2.n : Int), .slice da2 A2.data.length dc2, .slice la2 A2.list.length lc2] 73)
          by_cases heq : A2.attr = A.attr
          · have hbq : ((A2.attr : Int) == (A.attr : Int)) = true := by simp [heq]
            clear heq
            go_wp2_with fail
            go_ret
            exact ⟨_, rfl, (hUj.step ((Frame.refl no _).alloc _)).frame, fun h => by simp at h⟩
          · have hbq : ((A2.attr : Int) == (A.attr : Int)) = false := by simp; omega
            clear heq
            go_wp2_with fail
            go_roundw
            case rel => exact ⟨j + 1, by omega, by go_num, hfj.alloc _⟩
            case measure => simp [intOf]; omega
        · go_wp2_with fail
          go_roundw
          case rel =>
            refine ⟨k + 1, by omega, by go_num, fun i hi hik => ?_, hUj⟩
            by_cases e : i = k
            · subst e; rw [HA.out]; exact HP.out
            · exact HPR.out i hi (by omega)
          case measure => simp [intOf]; omega
    · go_wp2_with fail
      go_meet
      case rel => exact ⟨fun x hx => by obtain ⟨i, hi, rfl⟩ := List.getElem_of_mem hx; exact HPR.out i hi (by omega), hU⟩
  case rest =>
  obtain ⟨hP, hU⟩ := hcut
  have HP := Lib.hid hP; clear hP
  have m3 := N3.out _ hU
  go_upto_block 4 with fail
  go_cut [10, 42] (fun _ _ wx => (∀ x ∈ nd.kids, AllN (NodeP u.version) x) ∧ UnitNode w u av kv nd.tag (.slice a nd.attrs.length cap) (.slice ka nd.kids.length kc) nd.opn wx)
  case first =>
    go_wp2_with fail
    go_loopw [10, 42] (fun _ i wr => ∃ k : Nat, k ≤ nd.kids.length ∧ i = .int .i64 k ∧ (∀ j (h : j < nd.kids.length), j < k → AllN (NodeP u.version) nd.kids[j]) ∧ UnitNode w u av kv nd.tag (.slice a nd.attrs.length cap) (.slice ka nd.kids.length kc) nd.opn wr) (fun _ i _ => nd.kids.length - (intOf i).toNat)
    case atStart => exact ⟨0, Nat.zero_le _, rfl, fun _ _ h => by omega, hU⟩
    case round =>
    clear hU m3
    obtain ⟨k, hk', rfl, hpr, hU⟩ := hrel
    have HPR := Lib.hid hpr; clear hpr
    have hf := hU.frame
    have hs4 := hf.size
    by_cases hlt : k < nd.kids.length
    · obtain ⟨b, o, ka1, kn1, kb1, kc1, rfl, hb, g0, g1, g2, g3, hNk⟩ := HKD.out k hlt
      replace g0 := hf.cell g0 id
      replace g1 := hf.cell g1 id
      replace g2 := hf.cell g2 id
      replace g3 := hf.cell g3 id
      have hNk' := hNk.keep (hf.same fun k hK => ⟨by have := hk k hK; omega, id⟩)
      clear hNk
      generalize hkd : nd.kids[k] = kd at *
      have HKDk := Lib.hid hkd; clear hkd
      have hfa : Frame no wr (wr.alloc (.cells #[.int .u32 (kd.tag : Int), .slice ka1 kd.attrs.length kn1, .bool kd.opn, .slice kb1 kd.kids.length kc1] 28)) := (Frame.refl _ _).alloc _
      have hU1 := hU.step hfa
      obtain ⟨u0, u1, u2, u3, u4, u5, u6, u7, u8, u9, u10⟩ := unit_cells hU1.unit
      go_wp2_with fail
      (with_reducible refine (IH.out K (kd, .slice ka1 kd.attrs.length kn1, .slice kb1 kd.kids.length kc1) _ (hNk'.keep (hfa.same fun k hK => ⟨by have := hk k hK; omega, id⟩)) (fun k hK => by have := hk k hK; simp; omega)).mono ?_)
      rintro e w5 ⟨bb, rfl, hf5, hP⟩
      cases bb
      · go_wp2_with fail
        go_ret
        exact ⟨_, rfl, (hU1.step hf5).frame, fun h => by simp at h⟩
      · replace hP := hP rfl
        have HPk := Lib.hid hP; clear hP
        go_wp2_with fail
        go_roundw
        case rel =>
          refine ⟨k + 1, by omega, by go_num, fun i hi hik => ?_, hU1.step hf5⟩
          by_cases e : i = k
          · subst e; rw [HKDk.out]; exact HPk.out
          · exact HPR.out i hi (by omega)
        case measure => simp [intOf]; omega
    · go_wp2_with fail
      go_meet
      case rel => exact ⟨fun x hx => by obtain ⟨i, hi, rfl⟩ := List.getElem_of_mem hx; exact HPR.out i hi (by omega), hU⟩
  case rest =>
  clear hU m3
  obtain ⟨hPk, hU⟩ := hcut
  have HPK := Lib.hid hPk; clear hPk
  have m0 := N0.out _ hU
  have m1 := N1.out _ hU
  go_wp2_with fail
  all_goals go_ret
  all_goals
    refine ⟨_, rfl, hU.frame, fun h => ?_⟩
    go_light
    rw [AllN_eq, AllL_iff]
    refine ⟨⟨HP.out, ?_⟩, HPK.out⟩
    first | (simp at h; done) | (simp at h; omega) | (simp at *; omega)

end Go.Proofs.YtklcoppfkfenfaaGreatDoor
