/-
  The reader's switch over the forms of values: as one contract. The reader's entry: one attribute. The reader's entry.
-/
import Derived.Test.YtklcoppfkfenfaaGreatDoorFP30
set_option linter.all false
set_option linter.unusedVariables false
set_option linter.unusedSimpArgs false
namespace Go.Proofs.YtklcoppfkfenfaaGreatDoor
set_option maxRecDepth 100000
open Go Go.RowKit

/-- what an entry is read in, in memory: the buffer's block B, the unit at (U, uo), the data's block D, the section of texts -/
structure RdCtx (w : World) (B U uo D : Nat) (KS : Bs) (c : BufK) (E : EnvD) : Prop where
  fmt : c.fmt = .iface 138 (.pointer (some ⟨U, uo, none⟩))
  dp : c.dp = .pointer (some ⟨D, 0, none⟩)
  big : c.big = E.big
  asz : w.cell? ⟨U, uo + 5, none⟩ = some (.int .i64 (E.asize : Int))
  had : E.asize = 4 ∨ E.asize = 8
  wide : w.cell? ⟨U, uo + 7, none⟩ = some (.bool E.wide)
  str : ∃ sa sn sc, w.cell? ⟨D, 7, none⟩ = some (.slice sa sn sc) ∧ Rd KS w (.slice sa sn sc) E.str
  order : w.cell? ⟨D, 14, none⟩ = some (.bool c.big)
  hKS : ∀ k, KS k → k < w.heap.size ∧ k ≠ B
  apart : ¬ D = B ∧ ¬ U = B
  len : E.str.length < 4294967296
theorem RdCtx.keep {w w' : World} {B U uo D : Nat} {KS S : Bs} {c : BufK} {E : EnvD} (h : RdCtx w B U uo D KS c E) (hf : Frame S w w') (hU : ¬ S U) (hD : ¬ S D) (hS : ∀ k, KS k → ¬ S k) : RdCtx w' B U uo D KS c E := by
  obtain ⟨sa, sn, sc, h1, h2⟩ := h.str
  exact ⟨h.fmt, h.dp, h.big, hf.cell h.asz hU, h.had, hf.cell h.wide hU, ⟨sa, sn, sc, hf.cell h1 hD, h2.keep (hf.same fun k hk => ⟨(h.hKS k hk).1, hS k hk⟩)⟩, hf.cell h.order hD, fun k hk => ⟨Nat.lt_of_lt_of_le (h.hKS k hk).1 hf.size, (h.hKS k hk).2⟩, h.apart, h.len⟩

theorem sw_all (B pb U uo D : Nat) (K KS : Bs) (c : BufK) (E : EnvD) (off form kind' : Nat) (b l : List Nat) (kind : Int) (n : Nat) (d : List Nat) (w : World) (hv : ValOk E form b kind n d) (h27 : form ≠ 27) (h35 : form ≠ 35)
    (hC : RdCtx w B U uo D KS c E) (hp : w.cell? ⟨pb, 0, none⟩ = some (.pointer (some ⟨B, 0, none⟩))) (hpB : ¬ pb = B) (h : Buf w B K c off (b ++ l)) :
    SwC form B pb K c (off + b.length) l (ifv kind n d) w (fun _ => True) := by
  have hbig := hC.big
  cases hv with
  | addr n hn =>
    rw [← hbig] at h ⊢
    rw [num_length]
    exact sw_1 B pb U uo E.asize n K c off l w hp hC.fmt hC.asz hC.had h hn
  | data1 n hn =>
    rw [← hbig] at h ⊢
    rw [num_length]
    exact sw_11 B pb n K c off l w hp h hn
  | data2 n hn =>
    rw [← hbig] at h ⊢
    rw [num_length]
    exact sw_5 B pb n K c off l w hp h hn
  | data4 n hn =>
    rw [← hbig] at h ⊢
    rw [num_length]
    exact sw_6 B pb n K c off l w hp h hn
  | data8 n hn =>
    rw [← hbig] at h ⊢
    rw [num_length]
    exact sw_7 B pb n K c off l w hp h hn
  | text d hd =>
    rw [List.append_assoc] at h
    rw [List.length_append]
    exact sw_8 B pb d K c off l w hp h hd
  | strp o d r hd ho hs =>
    obtain ⟨sa, sn, sc, h1, h2⟩ := hC.str
    rw [← hbig] at h ⊢
    rw [num_length]
    exact sw_14 B pb U uo D o E.wide K KS c off l d r E.str sa sn sc w hp hC.fmt hC.wide hC.dp h1 hC.order h2 hC.hKS hC.apart.1 hpB hC.apart.2 hC.len hs hd h ho
  | sdata n hn => exact sw_13 B pb n K c off l w hp h hn
  | udata n hn => exact sw_15 B pb n K c off l w hp h hn
  | sec n hn =>
    rw [← hbig] at h ⊢
    rw [num_length]
    exact sw_23 B pb U uo n E.wide K c off l w hp hC.fmt hC.wide h hn
  | addrx => exact absurd rfl h27
  | rngx => exact absurd rfl h35
end Go.Proofs.YtklcoppfkfenfaaGreatDoor
namespace Go.Proofs.YtklcoppfkfenfaaGreatDoor
set_option maxRecDepth 1000000
open Go Go.RowKit

/-- the slots that are known ahead of a round -/
def KL : List Nat := [3, 14, 12, 2, 9, 8, 7, 90, 91]
noncomputable def cB1 : Code := goC [1,1,1,1,1,1,1,1,1,1,0,1,0,0,1,1,0] c47
abbrev z3 : List Value := [.int .u32 0, .nilIface, .int .i64 0]

theorem St.to47 {v3 v148 v18 v17 : Value} {vs : List Value} {a : Act} (h : St 677 (17 :: 18 :: 148 :: KL) (v17 :: v18 :: v148 :: v3 :: vs) a) : St 677 K47 (v3 :: v148 :: v18 :: v17 :: vs) a := by
  refine ⟨h.size, h.defers, fun i t v h1 h2 => ?_⟩
  match i, h1, h2 with
  | 0, h1, h2 => exact h.val 3 t v h1 h2
  | 1, h1, h2 => exact h.val 2 t v h1 h2
  | 2, h1, h2 => exact h.val 1 t v h1 h2
  | 3, h1, h2 => exact h.val 0 t v h1 h2
  | i + 4, h1, h2 => exact h.val (i + 4) t v h1 h2
theorem St.of47 {v3 v148 v18 v17 : Value} {vs : List Value} {a : Act} (h : St 677 K47 (v3 :: v148 :: v18 :: v17 :: vs) a) : St 677 KL (v3 :: vs) a := by
  refine ⟨h.size, h.defers, fun i t v h1 h2 => ?_⟩
  match i, h1, h2 with
  | 0, h1, h2 => exact h.val 0 t v h1 h2
  | i + 1, h1, h2 => exact h.val (i + 4) t v h1 h2

set_option maxHeartbeats 4000000 in
theorem en_round (B pb U uo D E0 A F Rb Ro n n' cap i : Nat) (K KS : Bs) (c : BufK) (E : EnvD) (off attr form : Nat) (cls kind : Int) (nn : Nat) (d b l : List Nat) (v2 v9 v8 v7 : Value) (AA ZZ : List Value) (w : World) (a : Act) (Q : Exit → Act → World → Prop)
    (hQ : ∀ c a w d v, Q (.panic c) (Act.put a d v) w → Q (.panic c) a w)
    (hst : St 677 KL [.pointer (some ⟨pb, 0, none⟩), .pointer (some ⟨E0, 0, none⟩), .pointer (some ⟨A, 0, none⟩), v2, v9, v8, v7, .int .i64 (n : Int), .int .i64 (i : Int)] a)
    (hv : ValOk E form b kind nn d) (h27 : form ≠ 27) (h35 : form ≠ 35) (h22 : form ≠ 22) (hC : RdCtx w B U uo D KS c E) (hp : w.cell? ⟨pb, 0, none⟩ = some (.pointer (some ⟨B, 0, none⟩))) (hpB : ¬ pb = B) (h : Buf w B K c off (b ++ l))
    (hE3 : w.cell? ⟨E0, 3, none⟩ = some (.slice (some ⟨F, 0, none⟩) n n)) (hA2 : w.cell? ⟨A, 2, none⟩ = some (.slice (some ⟨Rb, Ro, none⟩) n' cap)) (hi : i < n) (hi' : i < n') (hn : n ≤ 1000000) (hn' : n' ≤ cap) (hcap : cap ≤ 9223372036854775807)
    (r0 : w.cell? ⟨Rb, Ro + i * 4, none⟩ = some (.int .u32 (attr : Int))) (r1 : w.cell? ⟨Rb, Ro + i * 4 + 1, none⟩ = some (.int .u32 (form : Int))) (r2 : w.cell? ⟨Rb, Ro + i * 4 + 2, none⟩ = some (.int .i64 cls))
    (hrow : Row w F 156 AA z3 ZZ) (hAA : AA.length = i * 3) (hF : ¬ F = pb ∧ ¬ F = E0 ∧ ¬ F = A ∧ ¬ F = Rb ∧ ¬ F = B ∧ ¬ F = U ∧ ¬ F = D ∧ ¬ KS F ∧ ¬ K F) (hEB : ¬ E0 = B)
    (H : ∀ a' w', St 677 KL [.pointer (some ⟨pb, 0, none⟩), .pointer (some ⟨E0, 0, none⟩), .pointer (some ⟨A, 0, none⟩), v2, v9, v8, v7, .int .i64 (n : Int), .int .i64 (i : Int)] a' →
      Row w' F 156 AA [.int .u32 (attr : Int), ifv kind nn d, .int .i64 cls] ZZ → Buf w' B K c (off + b.length) l → Frame (fun k => k = B ∨ k = F) w w' → Q .normal a' w') : cB1.wp Tryz.prog Q a w := by
  obtain ⟨f1, f2, f3, f4, f5, f6, f7, f8, f9⟩ := hF
  have hSet : ∀ (wy : World) (t : Nat) (u : Value), Frame (fun k => k = F) wy (wy.setCell ⟨F, t, none⟩ u) := fun wy t u => (Frame.refl (fun k => k = F) wy).set (.inl rfl) u
  have e22 : ((form : Int) == 22) = false := by rw [beq_eq_false_iff_ne]; omega
  have hiI : (i : Int) < (n : Int) := by omega
  have hiI' : (i : Int) < (n' : Int) := by omega
  have k0 := hrow.get 0 (v := .int .u32 0) rfl (o := i * 3) (by omega)
  have g0 := hrow.frozen (i * 3)
  have HV := Lib.hid hv; have HC := Lib.hid hC; have HB := Lib.hid h; have HROW := Lib.hid hrow; have HH := Lib.hid H; have HSET := Lib.hid hSet; have HAA := Lib.hid hAA
  clear hv hC h hrow H hSet hAA
  unfold cB1
  conv => arg 2; whnf
  refine wp_block ?_
  have h14 := hst.get 1 14 _ rfl rfl
  have h12 := hst.get 2 12 _ rfl rfl
  have h91 := hst.get 8 91 _ rfl rfl
  have hz := hst.size
  have g17 : 17 < a.tmps.size := by rw [hz]; decide
  have g18 : 18 < a.tmps.size := by rw [hz]; decide
  have g19 : 19 < a.tmps.size := by rw [hz]; decide
  have g93 : 93 < a.tmps.size := by rw [hz]; decide
  have g94 : 94 < a.tmps.size := by rw [hz]; decide
  have g95 : 95 < a.tmps.size := by rw [hz]; decide
  have g96 : 96 < a.tmps.size := by rw [hz]; decide
  have g97 : 97 < a.tmps.size := by rw [hz]; decide
  have g98 : 98 < a.tmps.size := by rw [hz]; decide
  have g99 : 99 < a.tmps.size := by rw [hz]; decide
  have g100 : 100 < a.tmps.size := by rw [hz]; decide
  have g101 : 101 < a.tmps.size := by rw [hz]; decide
  have g102 : 102 < a.tmps.size := by rw [hz]; decide
  have g103 : 103 < a.tmps.size := by rw [hz]; decide
  have g104 : 104 < a.tmps.size := by rw [hz]; decide
  have g105 : 105 < a.tmps.size := by rw [hz]; decide
  have g106 : 106 < a.tmps.size := by rw [hz]; decide
  have g107 : 107 < a.tmps.size := by rw [hz]; decide
  have g108 : 108 < a.tmps.size := by rw [hz]; decide
  have g109 : 109 < a.tmps.size := by rw [hz]; decide
  have g110 : 110 < a.tmps.size := by rw [hz]; decide
  have g111 : 111 < a.tmps.size := by rw [hz]; decide
  have g112 : 112 < a.tmps.size := by rw [hz]; decide
  have g113 : 113 < a.tmps.size := by rw [hz]; decide
  have g114 : 114 < a.tmps.size := by rw [hz]; decide
  have g115 : 115 < a.tmps.size := by rw [hz]; decide
  have g116 : 116 < a.tmps.size := by rw [hz]; decide
  have g117 : 117 < a.tmps.size := by rw [hz]; decide
  have g118 : 118 < a.tmps.size := by rw [hz]; decide
  have g119 : 119 < a.tmps.size := by rw [hz]; decide
  have g120 : 120 < a.tmps.size := by rw [hz]; decide
  have g121 : 121 < a.tmps.size := by rw [hz]; decide
  have g122 : 122 < a.tmps.size := by rw [hz]; decide
  have g123 : 123 < a.tmps.size := by rw [hz]; decide
  have g124 : 124 < a.tmps.size := by rw [hz]; decide
  have g125 : 125 < a.tmps.size := by rw [hz]; decide
  have g126 : 126 < a.tmps.size := by rw [hz]; decide
  have g127 : 127 < a.tmps.size := by rw [hz]; decide
  have g148 : 148 < a.tmps.size := by rw [hz]; decide
  have HST := Lib.hid hst; clear hst hz
  go_upto_region 16 with fail
  refine wp_region_S no 13 [(0, true), (1, true), (2, true), (3, true), (4, true), (5, true), (6, true), (7, true), (8, true), (9, true), (10, true), (11, false), (12, true), (13, false)] (by kernel_rfl) (by kernel_rfl) (fun c a w d v h => hQ c a w d v h) ?_
  simp only [pickB, List.getElem?_toArray, List.getElem?_cons_zero, List.getElem?_cons_succ, Option.getD_some, Bool.false_eq_true, ↓reduceIte, Nat.reduceLT]
  iterate 11
    refine seqS_val (v := ?_) (fun w' hX => ?_) ?_
    rotate_left
    · have x0 := hX.cell hE3 id; have x1 := hX.cell hA2 id; have x2 := hX.cell r0 id; clear hX; go_simp; try with_reducible rfl
    try simp only [Act.put, List.setIfInBounds_toArray, List.set_cons_zero, List.set_cons_succ]
  refine seqS_new (fun KK hK => ?_)
  go_simp
  refine hK _ _ (And.intro (Frame.refl _ _) ?_)
  clear hK
  iterate 1
    refine seqS_val (v := ?_) (fun w' hX => ?_) ?_
    rotate_left
    · have x0 := hX.cell hE3 id; have x1 := hX.cell hA2 id; have x2 := hX.cell r0 id; clear hX; go_simp; try with_reducible rfl
    try simp only [Act.put, List.setIfInBounds_toArray, List.set_cons_zero, List.set_cons_succ]
  refine seqS_out (fun KK hK => ?_)
  go_simp
  refine hK _ _ ?_
  clear hK
  refine seqS_nil ?_
  have w1E3 := (HSET.out w (i * 3) (.int .u32 (attr : Int))).cell hE3 (fun e => f2 e.symm)
  have w1A2 := (HSET.out w (i * 3) (.int .u32 (attr : Int))).cell hA2 (fun e => f3 e.symm)
  have w1r1 := (HSET.out w (i * 3) (.int .u32 (attr : Int))).cell r1 (fun e => f4 e.symm)
  have w1r2 := (HSET.out w (i * 3) (.int .u32 (attr : Int))).cell r2 (fun e => f4 e.symm)
  have hrow1 := HROW.out.set 0 (by simp) (.int .u32 (attr : Int)) (o := i * 3) (by have := HAA.out; omega)
  have k2 := hrow1.get 2 (v := .int .i64 0) rfl (o := i * 3 + 2) (by have := HAA.out; omega)
  have q2 := hrow1.frozen (i * 3 + 2)
  have HROW1 := Lib.hid hrow1; clear hrow1
  replace w1E3 : (w.setCell ⟨F, i * 3, none⟩ (.int .u32 (attr : Int))).drew.cell? ⟨E0, 3, none⟩ = some (.slice (some ⟨F, 0, none⟩) n n) := w1E3
  replace w1A2 : (w.setCell ⟨F, i * 3, none⟩ (.int .u32 (attr : Int))).drew.cell? ⟨A, 2, none⟩ = some (.slice (some ⟨Rb, Ro, none⟩) n' cap) := w1A2
  replace w1r2 : (w.setCell ⟨F, i * 3, none⟩ (.int .u32 (attr : Int))).drew.cell? ⟨Rb, Ro + i * 4 + 2, none⟩ = some (.int .i64 cls) := w1r2
  clear k0 g0
  go_upto_region 17 with fail
  refine wp_region_S no 13 [(0, true), (1, true), (2, true), (3, true), (4, true), (5, true), (6, true), (7, true), (8, true), (9, true), (10, true), (11, false), (12, true), (13, false)] (by kernel_rfl) (by kernel_rfl) (fun c a w d v h => hQ c a w d v h) ?_
  simp only [pickB, List.getElem?_toArray, List.getElem?_cons_zero, List.getElem?_cons_succ, Option.getD_some, Bool.false_eq_true, ↓reduceIte, Nat.reduceLT]
  iterate 11
    refine seqS_val (v := ?_) (fun w' hX => ?_) ?_
    rotate_left
    · have x0 := hX.cell w1E3 id; have x1 := hX.cell w1A2 id; have x2 := hX.cell w1r2 id; clear hX; go_simp; try with_reducible rfl
    try simp only [Act.put, List.setIfInBounds_toArray, List.set_cons_zero, List.set_cons_succ]
  refine seqS_new (fun KK hK => ?_)
  go_simp
  refine hK _ _ (And.intro (Frame.refl _ _) ?_)
  clear hK
  iterate 1
    refine seqS_val (v := ?_) (fun w' hX => ?_) ?_
    rotate_left
    · have x0 := hX.cell w1E3 id; have x1 := hX.cell w1A2 id; have x2 := hX.cell w1r2 id; clear hX; go_simp; try with_reducible rfl
    try simp only [Act.put, List.setIfInBounds_toArray, List.set_cons_zero, List.set_cons_succ]
  refine seqS_out (fun KK hK => ?_)
  go_simp
  refine hK _ _ ?_
  clear hK
  refine seqS_nil ?_
  have hf2 : Frame (fun k => k = F) w ((w.setCell ⟨F, i * 3, none⟩ (.int .u32 (attr : Int))).setCell ⟨F, i * 3 + 2, none⟩ (.int .i64 cls)).drew.drew := (((HSET.out w (i * 3) (.int .u32 (attr : Int))).trans' (HSET.out _ (i * 3 + 2) (.int .i64 cls))).drew).drew
  have hrow2 : Row ((w.setCell ⟨F, i * 3, none⟩ (.int .u32 (attr : Int))).setCell ⟨F, i * 3 + 2, none⟩ (.int .i64 cls)).drew.drew F 156 AA [.int .u32 (attr : Int), .nilIface, .int .i64 cls] ZZ := HROW1.out.set 2 (by simp) (.int .i64 cls) (o := i * 3 + 2) (by have := HAA.out; omega)
  generalize ((w.setCell ⟨F, i * 3, none⟩ (.int .u32 (attr : Int))).setCell ⟨F, i * 3 + 2, none⟩ (.int .i64 cls)).drew.drew = w2 at *
  have c2E3 := hf2.cell hE3 (fun e => f2 e.symm)
  have c2A2 := hf2.cell hA2 (fun e => f3 e.symm)
  have c2r1 := hf2.cell r1 (fun e => f4 e.symm)
  have c2p := hf2.cell hp (fun e => f1 e.symm)
  have HC2 := Lib.hid (HC.out.keep hf2 (fun e => f6 e.symm) (fun e => f7 e.symm) (fun k hk e => f8 (by have e' : k = F := e; rw [← e']; exact hk)))
  have HB2 := Lib.hid (HB.out.keep hf2 (fun e => f5 e.symm) (fun k hk => ⟨(HB.out.apart k hk).1, fun e => f9 (by have e' : k = F := e; rw [← e']; exact hk)⟩))
  have HF2 := Lib.hid hf2; have HROW2 := Lib.hid hrow2
  clear hf2 hrow2 w1E3 w1A2 w1r1 w1r2 k2 q2 hE3 hA2 r0 r1 r2 hp
  go_upto_if 127 with fail
  refine wp_cond_false (eval_tmp (by simp [g127])) ?_
  go_upto_block 2 with fail
  refine wp_abs (R := St 677 (17 :: 18 :: 148 :: KL) [.int .i64 (i : Int), .int .u32 (form : Int), .int .u32 (form : Int), .pointer (some ⟨pb, 0, none⟩), .pointer (some ⟨E0, 0, none⟩), .pointer (some ⟨A, 0, none⟩), v2, v9, v8, v7, .int .i64 (n : Int), .int .i64 (i : Int)]) ?_ ?_
  · exact ((((((((((((((((((((((((((((((((((((((((((HST.out.mk').setV 93 _ (by decide)).setV 17 _ (by decide)).setV 94 _ (by decide)).setV 95 _ (by decide)).setV 96 _ (by decide)).setV 97 _ (by decide)).setV 98 _ (by decide)).setV 99 _ (by decide)).setV 100 _ (by decide)).setV 101 _ (by decide)).setV 102 _ (by decide)).setV 103 _ (by decide)).setV 104 _ (by decide)).setV 105 _ (by decide)).setV 106 _ (by decide)).setV 107 _ (by decide)).setV 108 _ (by decide)).setV 109 _ (by decide)).setV 110 _ (by decide)).setV 111 _ (by decide)).setV 112 _ (by decide)).setV 113 _ (by decide)).setV 114 _ (by decide)).setV 115 _ (by decide)).setV 116 _ (by decide)).setV 117 _ (by decide)).setV 118 _ (by decide)).setV 119 _ (by decide)).setV 120 _ (by decide)).setV 121 _ (by decide)).setV 122 _ (by decide)).setV 123 _ (by decide)).setV 124 _ (by decide)).setV 125 _ (by decide)).setV 18 _ (by decide)).setV 126 _ (by decide)).setV 127 _ (by decide)).setV 19 _ (by decide)).setV 148 _ (by decide)).more (t := 148) (v := .int .u32 (form : Int)) (by simp [g148])).more (t := 18) (v := .int .u32 (form : Int)) (by simp [g18])).more (t := 17) (v := .int .i64 (i : Int)) (by simp [g17])
  clear HST g17 g18 g19 g93 g94 g95 g96 g97 g98 g99 g100 g101 g102 g103 g104 g105 g106 g107 g108 g109 g110 g111 g112 g113 g114 g115 g116 g117 g118 g119 g120 g121 g122 g123 g124 g125 g126 g127 g148 h14 h12 h91
  intro a hst
  have HST := Lib.hid hst.to47; clear hst
  have hsw := sw_all B pb U uo D K KS c E off form 0 b l kind nn d w2 HV.out h27 h35 HC2.out c2p hpB HB2.out
  refine hsw _ a _ (fun c a w d v h => hQ c a w d v h) HST.out ?_
  clear hsw HST
  intro a w3 hst h19 hb3 hf3 _
  have h14 := hst.get 4 14 _ rfl rfl
  have h17 := hst.get 3 17 _ rfl rfl
  have hz := hst.size
  have g662 : 662 < a.tmps.size := by rw [hz]; decide
  have g663 : 663 < a.tmps.size := by rw [hz]; decide
  have g664 : 664 < a.tmps.size := by rw [hz]; decide
  have g665 : 665 < a.tmps.size := by rw [hz]; decide
  have g666 : 666 < a.tmps.size := by rw [hz]; decide
  have g667 : 667 < a.tmps.size := by rw [hz]; decide
  have g668 : 668 < a.tmps.size := by rw [hz]; decide
  have g669 : 669 < a.tmps.size := by rw [hz]; decide
  have HST := Lib.hid hst; clear hst hz
  obtain ⟨T, u, hifv⟩ : ∃ T u, ifv kind nn d = .iface T u := by
    unfold ifv; (repeat' split) <;> exact ⟨_, _, rfl⟩
  rw [hifv] at h19
  have hrow3 := HROW2.out.keep (hf3.block F (Array.getElem?_eq_some_iff.1 HROW2.out).1 f5)
  have c3E3 := hf3.cell c2E3 hEB
  have k1 := hrow3.get 1 (v := .nilIface) rfl (o := i * 3 + 1) (by have := HAA.out; omega)
  have q1 := hrow3.frozen (i * 3 + 1)
  have HROW3 := Lib.hid hrow3; have HB3 := Lib.hid hb3; have HF3 := Lib.hid hf3; have HIFV := Lib.hid hifv
  clear hrow3 hb3 hf3 hifv c2E3 c2A2 c2r1 c2p
  go_wp2_with fail
  have hrow4 := HROW3.out.set 1 (by simp) (.iface T u) (o := i * 3 + 1) (by have := HAA.out; omega)
  have hf4 := HSET.out w3 (i * 3 + 1) (.iface T u)
  have hb4 := HB3.out.keep hf4 (fun e => f5 e.symm) (fun k hk => ⟨(HB3.out.apart k hk).1, fun e => f9 (by have e' : k = F := e; rw [← e']; exact hk)⟩)
  rw [← HIFV.out] at hrow4
  refine HH.out _ _ (((((((((HST.out.of47.mk').setV 662 _ (by decide)).setV 663 _ (by decide)).setV 664 _ (by decide)).setV 665 _ (by decide)).setV 666 _ (by decide)).setV 667 _ (by decide)).setV 668 _ (by decide)).setV 669 _ (by decide)) ?_ ?_ ?_
  · rw [← HIFV.out]; exact hrow4
  · exact hb4
  · exact ((HF2.out.mono fun k hk => .inl (.inr hk)).trans HF3.out fun k hk => .inl (.inl hk)).trans hf4 fun k hk => .inl (.inr hk)
end Go.Proofs.YtklcoppfkfenfaaGreatDoor
namespace Go.Proofs.YtklcoppfkfenfaaGreatDoor
set_option maxRecDepth 1000000
open Go Go.RowKit

theorem St.nil {n : Nat} {a : Act} (h1 : a.tmps.size = n) (h2 : a.defers = []) : St n [] [] a := ⟨h1, h2, fun i t v h => by simp at h⟩
theorem Ar.empty {α : Type} (K : Bs) (w : World) (sz : Nat) (f : α → List Value) : Ar K w sz (.slice none 0 0) [] f :=
  ⟨fun x hx => by simp at hx, by simp, none, 0, rfl, Nat.le_refl _, Nat.zero_le _, fun _ => rfl, fun j hj => by simp at hj⟩
/-- a field as the package holds it -/
def fldC (f : FieldD) : List Value := [.int .u32 (f.attr : Int), ifv f.kind f.n f.data, .int .i64 f.cls]
/-- an entry as the package holds it -/
def EntR (K : Bs) (w : World) (E0 : Nat) (e : EntryD) : Prop := ∃ fv, w.heap[E0]? = some (.cells #[.int .u32 (e.off : Int), .int .u32 (e.tag : Int), .bool e.children, fv] 121) ∧ Ar K w 3 fv e.fields fldC
/-- what the reader's entry leaves -/
def EntPost (B : Nat) (K : Bs) (c : BufK) (off : Nat) (l : List Nat) (e0 : EntryD) (w : World) (e : Ending) (w' : World) : Prop :=
  ∃ E0, e = .returned (.pointer (some ⟨E0, 0, none⟩)) ∧ w.heap.size ≤ E0 ∧ EntR (fun k => w.heap.size ≤ k ∧ k < w'.heap.size) w' E0 e0 ∧ Buf w' B K c off l ∧ Frame (fun k => k = B) w w'

set_option maxHeartbeats 4000000 in
theorem entry_end (B U uo : Nat) (K : Bs) (c : BufK) (off : Nat) (l : List Nat) (w : World) (cu av : Value) (base : Nat) (vers : Int) (hU3 : w.cell? ⟨U, uo + 3, none⟩ = some av) (hav : ∃ m, av = .map m) (hU0 : w.cell? ⟨U, uo, none⟩ = some (.int .u32 (base : Int))) (hU6 : w.cell? ⟨U, uo + 6, none⟩ = some (.int .i64 vers))
    (h : Buf w B K c off (uleb 0 ++ l)) : Calls Tryz.prog 47 #[.pointer (some ⟨B, 0, none⟩), cu, .pointer (some ⟨U, uo, none⟩)] w (EntPost B K c (off + 1) l endE w) := by
  obtain ⟨mm, rfl⟩ := hav
  refine calls_of_wp Tryz.func47 rfl ?_
  rw [Tryz.ntmps47]
  refine wp_abs (R := St 677 [0, 2] [.pointer (some ⟨B, 0, none⟩), .pointer (some ⟨U, uo, none⟩)]) ?_ ?_
  · refine ⟨by simp, rfl, fun i t v h1 h2 => ?_⟩
    match i, h1, h2 with
    | 0, h1, h2 => simp at h1 h2; subst h1; subst h2; simp
    | 1, h1, h2 => simp at h1 h2; subst h1; subst h2; simp
    | i + 2, h1, h2 => simp at h1
  intro a hst
  have h0 := hst.get 0 0 _ rfl rfl
  have h2 := hst.get 1 2 _ rfl rfl
  have hz := hst.size
  have g3 : 3 < a.tmps.size := by rw [hz]; decide
  have g6 : 6 < a.tmps.size := by rw [hz]; decide
  have g7 : 7 < a.tmps.size := by rw [hz]; decide
  have g8 : 8 < a.tmps.size := by rw [hz]; decide
  have g9 : 9 < a.tmps.size := by rw [hz]; decide
  have g10 : 10 < a.tmps.size := by rw [hz]; decide
  have g11 : 11 < a.tmps.size := by rw [hz]; decide
  have g40 : 40 < a.tmps.size := by rw [hz]; decide
  have g41 : 41 < a.tmps.size := by rw [hz]; decide
  have g42 : 42 < a.tmps.size := by rw [hz]; decide
  have g43 : 43 < a.tmps.size := by rw [hz]; decide
  have g44 : 44 < a.tmps.size := by rw [hz]; decide
  have g45 : 45 < a.tmps.size := by rw [hz]; decide
  have g46 : 46 < a.tmps.size := by rw [hz]; decide
  have g47 : 47 < a.tmps.size := by rw [hz]; decide
  have g48 : 48 < a.tmps.size := by rw [hz]; decide
  have g49 : 49 < a.tmps.size := by rw [hz]; decide
  have g50 : 50 < a.tmps.size := by rw [hz]; decide
  have g51 : 51 < a.tmps.size := by rw [hz]; decide
  have g52 : 52 < a.tmps.size := by rw [hz]; decide
  have g53 : 53 < a.tmps.size := by rw [hz]; decide
  have g54 : 54 < a.tmps.size := by rw [hz]; decide
  have g55 : 55 < a.tmps.size := by rw [hz]; decide
  have g56 : 56 < a.tmps.size := by rw [hz]; decide
  have g57 : 57 < a.tmps.size := by rw [hz]; decide
  have g58 : 58 < a.tmps.size := by rw [hz]; decide
  have g59 : 59 < a.tmps.size := by rw [hz]; decide
  have g60 : 60 < a.tmps.size := by rw [hz]; decide
  have g61 : 61 < a.tmps.size := by rw [hz]; decide
  have g62 : 62 < a.tmps.size := by rw [hz]; decide
  have HD := Lib.hid hst.defers; have HST := Lib.hid hst; clear hst hz
  go_upto_region 1 with fail
  have hal : Frame no w (w.alloc (.cells #[.pointer (some ⟨B, 0, none⟩)] 184)) := (Frame.refl _ _).alloc _
  have u3 := hal.cell hU3 id
  have u0 := hal.cell hU0 id
  have u6 := hal.cell hU6 id
  have hpb : (w.alloc (.cells #[.pointer (some ⟨B, 0, none⟩)] 184)).cell? ⟨w.heap.size, 0, none⟩ = some (.pointer (some ⟨B, 0, none⟩)) := cell_new _ _ _ _
  have hb1 := h.keep hal id (fun k hk => ⟨(h.apart k hk).1, id⟩)
  obtain ⟨_, _, _, c4, _⟩ := hb1.get
  have HB1 := Lib.hid hb1; have HAL := Lib.hid hal
  clear hb1 hal hU3 hU0 hU6 h
  refine wp_region_S no 15 [(0, true), (1, true), (2, true), (3, true), (4, true), (5, true), (6, true), (7, true), (8, true), (9, true), (10, true), (11, true), (12, true), (13, true), (14, true)] (by kernel_rfl) (by kernel_rfl) (fun c a w d v h => by cases d <;> exact h) ?_
  simp only [pickB, List.getElem?_toArray, List.getElem?_cons_zero, List.getElem?_cons_succ, Option.getD_some, Bool.false_eq_true, ↓reduceIte, Nat.reduceLT]
  iterate 15
    refine seqS_val (v := ?_) (fun w' hX => ?_) ?_
    rotate_left
    · have x0 := hX.cell u3 id; have x1 := hX.cell u0 id; have x2 := hX.cell u6 id; clear hX; go_simp; try with_reducible rfl
    try simp only [Act.put, List.setIfInBounds_toArray, List.set_cons_zero, List.set_cons_succ]
  refine seqS_nil ?_
  have hF1 : Frame no w (w.alloc (.cells #[.pointer (some ⟨B, 0, none⟩)] 184)).drew := HAL.out.drew
  have HB2 := Lib.hid (HB1.out.keep (w' := (w.alloc (.cells #[.pointer (some ⟨B, 0, none⟩)] 184)).drew) ((Frame.refl no _).drew) id (fun k hk => ⟨(HB1.out.apart k hk).1, id⟩))
  have HF1 := Lib.hid hF1; clear hF1 u3 u0 u6
  replace hpb : (w.alloc (.cells #[.pointer (some ⟨B, 0, none⟩)] 184)).drew.cell? ⟨w.heap.size, 0, none⟩ = some (.pointer (some ⟨B, 0, none⟩)) := hpb
  replace c4 : (w.alloc (.cells #[.pointer (some ⟨B, 0, none⟩)] 184)).drew.cell? ⟨B, 4, none⟩ = some (.int .u32 (off : Int)) := c4
  generalize (w.alloc (.cells #[.pointer (some ⟨B, 0, none⟩)] 184)).drew = w1 at *
  go_wp2_with fail
  (with_reducible refine (uint_any B K c off 0 l w1 HB2.out (by decide)).mono ?_)
  rintro e w2 ⟨rfl, hb3, hf3⟩
  have HB3 := Lib.hid hb3; have HF3 := Lib.hid hf3; clear hb3 hf3 hpb c4
  go_upto_if 60 with fail
  refine wp_cond_true (eval_tmp (by simp [g60])) ?_
  go_wp2_with fail
  refine bodyPost_ret (v := .pointer (some ⟨w2.heap.size, 0, none⟩)) ?_ HD.out ?_
  · rw [results_tmp Tryz.results47]; simp [g6]
  have hal2 : Frame no w2 (w2.alloc (.cells #[.int .u32 0, .int .u32 0, .bool false, .slice none 0 0] 121)) := (Frame.refl _ _).alloc _
  have hs := HF1.out.size
  have hs2 := HF3.out.size
  refine ⟨w2.heap.size, rfl, by omega, ⟨.slice none 0 0, heap_alloc_new _ _, Ar.empty _ _ _ _⟩, ?_, ?_⟩
  · have := HB3.out.keep hal2 id (fun k hk => ⟨(HB3.out.apart k hk).1, id⟩)
    have e : (uleb 0).length = 1 := by rw [uleb_lt 0 (by decide)]; rfl
    rw [e] at this; exact this
  · exact ((HF1.out.mono fun _ h => h.elim).trans' HF3.out).trans hal2 fun _ h => h.elim
end Go.Proofs.YtklcoppfkfenfaaGreatDoor
