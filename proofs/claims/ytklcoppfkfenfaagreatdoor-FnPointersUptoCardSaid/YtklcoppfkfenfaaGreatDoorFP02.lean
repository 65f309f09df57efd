/-
  Plain functions: numbers as bytes, the data of units, and what the writer makes of them. Nothing of the program stands here. Walks: the small functions of the package spec that reckon with numbers alone.
-/
import Derived.Test.YtklcoppfkfenfaaGreatDoorFP01
set_option linter.all false
set_option linter.unusedVariables false
set_option linter.unusedSimpArgs false
namespace Go.Proofs.YtklcoppfkfenfaaGreatDoor

/-- one byte of a number -/
def byteAt (n k : Nat) : Nat := n / 2 ^ (8 * k) % 256
/-- a number in some bytes -/
def num (n size : Nat) (big : Bool) : List Nat := (List.range size).map fun i => byteAt n (if big then size - 1 - i else i)
/-- the length of a unit -/
def lenB (n : Nat) (wide big : Bool) : List Nat := if wide then [255, 255, 255, 255] ++ num n 8 big else num n 4 big

def uleb (n : Nat) : List Nat := if h : n < 128 then [n] else (n % 128 + 128) :: uleb (n / 128)
  termination_by n
  decreasing_by omega

def sleb (n : Int) : List Nat := if h : n < -64 ∨ n > 63 then ((n % 128).toNat + 128) :: sleb (n / 128) else [(n % 128).toNat]
  termination_by n.natAbs
  decreasing_by omega

theorem uleb_lt (n : Nat) (h : n < 128) : uleb n = [n] := by rw [uleb]; simp [h]
theorem uleb_ge (n : Nat) (h : 128 ≤ n) : uleb n = (n % 128 + 128) :: uleb (n / 128) := by rw [uleb]; simp [show ¬ n < 128 by omega]
theorem sleb_in (n : Int) (h : -64 ≤ n ∧ n ≤ 63) : sleb n = [(n % 128).toNat] := by rw [sleb]; simp [show ¬ (n < -64 ∨ n > 63) by omega]
theorem sleb_out (n : Int) (h : n < -64 ∨ 63 < n) : sleb n = ((n % 128).toNat + 128) :: sleb (n / 128) := by rw [sleb]; simp [show (n < -64 ∨ n > 63) by omega]

theorem byteAt_lt (n k : Nat) : byteAt n k < 256 := Nat.mod_lt _ (by decide)
@[simp] theorem num_length (n size : Nat) (big : Bool) : (num n size big).length = size := by simp [num]
theorem num_bytes (n size : Nat) (big : Bool) : ∀ x ∈ num n size big, x < 256 := by
  intro x hx; simp only [num, List.mem_map] at hx; obtain ⟨i, _, rfl⟩ := hx; exact byteAt_lt _ _
theorem lenB_length (n : Nat) (wide big : Bool) : (lenB n wide big).length = if wide then 12 else 4 := by cases wide <;> simp [lenB]
theorem lenB_bytes (n : Nat) (wide big : Bool) : ∀ x ∈ lenB n wide big, x < 256 := by
  intro x hx
  cases wide
  · exact num_bytes _ _ _ x (by simpa [lenB] using hx)
  · simp only [lenB, if_true, List.mem_append] at hx
    rcases hx with hx | hx
    · simp at hx; omega
    · exact num_bytes _ _ _ x hx

theorem uleb_bytes (n : Nat) : ∀ x ∈ uleb n, x < 256 := by
  induction n using Nat.strongRecOn with
  | _ n ih =>
    by_cases h : n < 128
    · rw [uleb_lt n h]; intro x hx; simp at hx; omega
    · rw [uleb_ge n (by omega)]; intro x hx; simp at hx
      rcases hx with rfl | hx
      · omega
      · exact ih (n / 128) (by omega) x hx
theorem uleb_len (n k : Nat) (h : n < 2 ^ (7 * (k + 1))) : (uleb n).length ≤ k + 1 := by
  induction k generalizing n with
  | zero => rw [uleb_lt n (by simpa using h)]; simp
  | succ k ih =>
    by_cases hn : n < 128
    · rw [uleb_lt n hn]; simp
    · rw [uleb_ge n (by omega)]
      have : n / 128 < 2 ^ (7 * (k + 1)) := by
        apply Nat.div_lt_of_lt_mul
        have : 2 ^ (7 * (k + 1 + 1)) = 128 * 2 ^ (7 * (k + 1)) := by rw [show 7 * (k + 1 + 1) = 7 * (k + 1) + 7 by omega, Nat.pow_add]; omega
        omega
      have := ih _ this
      simp; omega
theorem uleb_len64 (n : Nat) (h : n < 18446744073709551616) : (uleb n).length ≤ 10 := uleb_len n 9 (by omega)

theorem byteAt_int (n k : Nat) : ((byteAt n k : Nat) : Int) = (n : Int) / 2 ^ (8 * k) % 256 := by
  simp [byteAt]
theorem num_take_succ (n size : Nat) (big : Bool) (k : Nat) (h : k < size) : (num n size big).take (k + 1) = (num n size big).take k ++ [byteAt n (if big then size - 1 - k else k)] := by
  rw [List.take_succ_eq_append_getElem (by simpa using h)]
  simp [num]
/-- a number in some bytes -/
def cutF (n size : Nat) : Nat := n % 2 ^ (8 * size)
theorem cut_eq (n size : Nat) (h : n < 18446744073709551616) (hs : size ≤ 8) : ((n * 2 ^ (64 - 8 * size) % 18446744073709551616 / 2 ^ (64 - 8 * size) : Nat) : Int) = (cutF n size : Nat) := by
  have h1 : (18446744073709551616 : Nat) = 2 ^ (8 * size) * 2 ^ (64 - 8 * size) := by rw [← Nat.pow_add, show 8 * size + (64 - 8 * size) = 64 by omega]
  rw [h1, Nat.mul_mod_mul_right, Nat.mul_div_cancel _ (Nat.pow_pos (by decide))]
  rfl

theorem sleb_len (n : Int) (k : Nat) (h : -(2 ^ (7 * k + 6) : Nat) ≤ n ∧ n < (2 ^ (7 * k + 6) : Nat)) : (sleb n).length ≤ k + 1 := by
  induction k generalizing n with
  | zero => rw [sleb_in n (by simp at h; omega)]; simp
  | succ k ih =>
    by_cases hn : -64 ≤ n ∧ n ≤ 63
    · rw [sleb_in n hn]; simp
    · rw [sleb_out n (by omega)]
      have e : (2 ^ (7 * (k + 1) + 6) : Nat) = 128 * 2 ^ (7 * k + 6) := by rw [show 7 * (k + 1) + 6 = (7 * k + 6) + 7 by omega, Nat.pow_add]; omega
      rw [e] at h
      have := ih (n / 128) (by omega)
      simp; omega
theorem sleb_len64 (n : Int) (h : -9223372036854775808 ≤ n ∧ n ≤ 9223372036854775807) : (sleb n).length ≤ 10 := by
  have e : (2 ^ (7 * 9 + 6) : Nat) = 590295810358705651712 := by decide
  exact sleb_len n 9 (by rw [e]; omega)
theorem sleb_bytes (n : Int) : ∀ x ∈ sleb n, x < 256 := by
  induction n using sleb.induct with
  | case1 n h ih => rw [sleb_out n h]; intro x hx; simp at hx; rcases hx with rfl | hx; omega; exact ih x hx
  | case2 n h => rw [sleb_in n (by omega)]; intro x hx; simp at hx; omega

/-- an item of a list of ranges -/
structure ItemD where
  kind : Int
  a : Nat
  b : Nat
structure AttrD where
  attr : Nat
  form : Nat
  n : Nat
  data : List Nat
  list : List ItemD
inductive NodeD where
  | mk (tag : Nat) (attrs : List AttrD) (opn : Bool) (kids : List NodeD)
structure UnitD where
  version : Int
  wide : Bool
  address : Int
  late : Bool
  root : NodeD
  typed : Bool
  signature : Nat
  type : Int
def NodeD.tag : NodeD → Nat | .mk t _ _ _ => t
def NodeD.attrs : NodeD → List AttrD | .mk _ a _ _ => a
def NodeD.opn : NodeD → Bool | .mk _ _ o _ => o
def NodeD.kids : NodeD → List NodeD | .mk _ _ _ k => k

def strxF (form : Nat) : Int := if form = 26 then 0 else if 37 ≤ form ∧ form ≤ 40 then (form : Int) - 36 else -1
def addrxF (form : Nat) : Int := if form = 27 then 0 else if 41 ≤ form ∧ form ≤ 44 then (form : Int) - 40 else -1
def refF (form : Nat) : Bool := form = 16 || (17 ≤ form && form ≤ 20)
def wordF (wide : Bool) : Nat := if wide then 8 else 4
def fixedF (version : Int) (wide : Bool) (address : Int) (form : Nat) : Int :=
  if form = 11 ∨ form = 12 ∨ form = 17 then 1 else
  if form = 5 ∨ form = 18 then 2 else
  if form = 6 ∨ form = 19 then 4 else
  if form = 7 ∨ form = 20 ∨ form = 32 then 8 else
  if form = 1 then address else
  if form = 14 ∨ form = 23 then wordF wide else
  if form = 16 then (if version = 2 then address else wordF wide) else 0
def pointerF (attr : Nat) : Int :=
  if attr = 16 then 6 else if attr = 67 then 8 else if attr = 85 then 9 else if attr = 114 then 19 else if attr = 115 then 15 else if attr = 116 then 18 else 0

/-- what an abbreviation says of a node -/
def attrsB (al : List AttrD) : List Nat := al.flatMap fun a => uleb a.attr ++ uleb a.form
def childF (nd : NodeD) : Bool := nd.opn || decide (0 < nd.kids.length)
def childN (nd : NodeD) : Nat := if childF nd then 1 else 0
def shapeB (nd : NodeD) : List Nat := uleb nd.tag ++ [childN nd] ++ attrsB nd.attrs ++ [0, 0]
theorem attrsB_take_succ (al : List AttrD) (k : Nat) (h : k < al.length) : attrsB (al.take (k + 1)) = attrsB (al.take k) ++ (uleb al[k].attr ++ uleb al[k].form) := by
  unfold attrsB; rw [List.take_succ_eq_append_getElem h]; simp only [List.flatMap_append, List.flatMap_cons, List.flatMap_nil, List.append_nil]
theorem attrsB_len (al : List AttrD) (h : ∀ a ∈ al, a.attr < 18446744073709551616 ∧ a.form < 18446744073709551616) : (attrsB al).length ≤ 20 * al.length := by
  induction al with
  | nil => simp [attrsB]
  | cons a al ih =>
    have h1 := uleb_len64 a.attr (h a (by simp)).1
    have h2 := uleb_len64 a.form (h a (by simp)).2
    have h3 := ih fun x hx => h x (by simp [hx])
    simp only [attrsB, List.flatMap_cons, List.length_append, List.length_cons] at h3 ⊢
    omega

mutual
def nodesF : NodeD → Nat
  | .mk _ _ _ kids => 1 + nodesL kids
def nodesL : List NodeD → Nat
  | [] => 0
  | k :: ks => nodesF k + nodesL ks
end
mutual
def AllN (P : NodeD → Prop) : NodeD → Prop
  | .mk t al o kids => P (.mk t al o kids) ∧ AllL P kids
def AllL (P : NodeD → Prop) : List NodeD → Prop
  | [] => True
  | k :: ks => AllN P k ∧ AllL P ks
end
def hasS (l : List (List Nat)) (s : List Nat) : Bool := l.contains s
def addShape (s : List Nat) (l : List (List Nat)) : List (List Nat) := if hasS l s then l else l ++ [s]
mutual
def shapesF : NodeD → List (List Nat) → List (List Nat)
  | .mk t al o kids, l => shapesL kids (addShape (shapeB (.mk t al o kids)) l)
def shapesL : List NodeD → List (List Nat) → List (List Nat)
  | [], l => l
  | k :: ks, l => shapesL ks (shapesF k l)
end
theorem nodesF_eq (nd : NodeD) : nodesF nd = 1 + nodesL nd.kids := by cases nd; simp [nodesF, NodeD.kids]
theorem AllN_eq (P : NodeD → Prop) (nd : NodeD) : AllN P nd ↔ P nd ∧ AllL P nd.kids := by cases nd; simp [AllN, NodeD.kids]
theorem AllL_iff (P : NodeD → Prop) (l : List NodeD) : AllL P l ↔ ∀ k ∈ l, AllN P k := by
  induction l with
  | nil => simp [AllL]
  | cons a l ih => simp [AllL, ih]
theorem shapesF_eq (nd : NodeD) (l : List (List Nat)) : shapesF nd l = shapesL nd.kids (addShape (shapeB nd) l) := by cases nd; simp [shapesF, NodeD.kids]
theorem nodesL_append (a b : List NodeD) : nodesL (a ++ b) = nodesL a + nodesL b := by
  induction a with
  | nil => simp [nodesL]
  | cons x a ih => simp [nodesL, ih]; omega
theorem shapesL_append (a b : List NodeD) (l : List (List Nat)) : shapesL (a ++ b) l = shapesL b (shapesL a l) := by
  induction a generalizing l with
  | nil => simp [shapesL]
  | cons x a ih => simp [shapesL, ih]
theorem nodesL_take_succ (l : List NodeD) (k : Nat) (h : k < l.length) : nodesL (l.take (k + 1)) = nodesL (l.take k) + nodesF l[k] := by
  rw [List.take_succ_eq_append_getElem h, nodesL_append]; simp [nodesL]
theorem nodesL_take_le (l : List NodeD) (k : Nat) : nodesL (l.take k) ≤ nodesL l := by
  conv => rhs; rw [← List.take_append_drop k l]
  rw [nodesL_append]; omega
theorem shapesL_take_succ (l : List NodeD) (k : Nat) (h : k < l.length) (x : List (List Nat)) : shapesL (l.take (k + 1)) x = shapesF l[k] (shapesL (l.take k) x) := by
  rw [List.take_succ_eq_append_getElem h, shapesL_append]; simp [shapesL]
theorem contains_take_succ (l : List (List Nat)) (s : List Nat) (k : Nat) (h : k < l.length) : hasS (l.take (k + 1)) s = (hasS (l.take k) s || (l[k] == s)) := by
  unfold hasS
  rw [List.take_succ_eq_append_getElem h, List.contains_append]
  congr 1
  simp only [List.contains_cons, List.contains_nil, Bool.or_false]
  rw [Bool.eq_iff_iff, beq_iff_eq, beq_iff_eq]
  exact ⟨Eq.symm, Eq.symm⟩
theorem addShape_len (s : List Nat) (l : List (List Nat)) : (addShape s l).length ≤ l.length + 1 := by unfold addShape; split <;> simp
mutual
theorem shapesF_len : (nd : NodeD) → (l : List (List Nat)) → (shapesF nd l).length ≤ l.length + nodesF nd
  | .mk t al o kids, l => by
    have h1 := shapesL_len kids (addShape (shapeB (.mk t al o kids)) l)
    have h2 := addShape_len (shapeB (.mk t al o kids)) l
    simp only [shapesF, nodesF]; omega
theorem shapesL_len : (ks : List NodeD) → (l : List (List Nat)) → (shapesL ks l).length ≤ l.length + nodesL ks
  | [], l => by simp [shapesL, nodesL]
  | k :: ks, l => by
    have h1 := shapesL_len ks (shapesF k l)
    have h2 := shapesF_len k l
    simp only [shapesL, nodesL]; omega
end

end Go.Proofs.YtklcoppfkfenfaaGreatDoor
namespace Go.Proofs.YtklcoppfkfenfaaGreatDoor
set_option maxRecDepth 100000
open Go Go.RowKit

theorem ret_int {k : IntKind} {a b : Int} (h : a = b) : Ending.returned (.int k a) = .returned (.int k b) := by rw [h]
theorem ret_bool {a b : Bool} (h : a = b) : Ending.returned (.bool a) = .returned (.bool b) := by rw [h]

theorem isStrx_any (form : Nat) (w : World) (h : form < 4294967296) :
    Calls Tryz.prog 21 #[.int .u32 form] w fun e w' => e = .returned (.int .i64 (strxF form)) ∧ w = w' := by
  go_enter Tryz.func21, Tryz.ntmps21
  go_wp2
  all_goals go_ret
  all_goals (refine ⟨ret_int ?_, rfl⟩; simp at *; unfold strxF; (repeat' split) <;> omega)
theorem pointer_any (attr : Nat) (w : World) (h : attr < 4294967296) :
    Calls Tryz.prog 25 #[.int .u32 attr] w fun e w' => e = .returned (.int .i64 (pointerF attr)) ∧ w = w' := by
  go_enter Tryz.func25, Tryz.ntmps25
  go_wp2
  all_goals go_ret
  all_goals (refine ⟨ret_int ?_, rfl⟩; simp at *; unfold pointerF; (repeat' split) <;> omega)

theorem isAddrx_any (form : Nat) (w : World) (h : form < 4294967296) :
    Calls Tryz.prog 39 #[.int .u32 form] w fun e w' => e = .returned (.int .i64 (addrxF form)) ∧ w = w' := by
  go_enter Tryz.func39, Tryz.ntmps39
  go_wp2
  all_goals go_ret
  all_goals (refine ⟨ret_int ?_, rfl⟩; simp at *; unfold addrxF; (repeat' split) <;> omega)
theorem isReference_any (form : Nat) (w : World) (h : form < 4294967296) :
    Calls Tryz.prog 114 #[.int .u32 form] w fun e w' => e = .returned (.bool (refF form)) ∧ w = w' := by
  go_enter Tryz.func114, Tryz.ntmps114
  go_wp2
  all_goals go_ret
  all_goals (refine ⟨ret_bool ?_, rfl⟩; unfold refF; rw [Bool.eq_iff_iff]; simp at *; try omega)
theorem greatest_any (size : Int) (w : World) :
    Calls Tryz.prog 131 #[.int .i64 size] w fun e w' => e = .returned (.int .u64 (if size = 4 then 4294967295 else 18446744073709551615)) ∧ w = w' := by
  go_enter Tryz.func131, Tryz.ntmps131
  go_wp2
  all_goals go_ret
  all_goals (refine ⟨ret_int ?_, rfl⟩; simp_all)

/-- a unit by value -/
abbrev unitV (u : UnitD) (attrs kids : Value) : Array Value :=
  #[.int .i64 u.version, .bool u.wide, .int .i64 u.address, .bool u.late, .int .u32 (u.root.tag : Int), attrs, .bool u.root.opn, kids, .bool u.typed, .int .u64 (u.signature : Int), .int .i64 u.type]

theorem word_any (u : UnitD) (attrs kids : Value) (w : World) :
    Calls Tryz.prog 65 #[.agg (unitV u attrs kids)] w fun e w' => e = .returned (.int .i64 (wordF u.wide)) ∧ w' = w.alloc (.cells (unitV u attrs kids) 31) := by
  unfold unitV
  cases hw : u.wide
  all_goals
    go_enter Tryz.func65, Tryz.ntmps65
    go_wp2
    go_ret
    exact ⟨rfl, rfl⟩

theorem fixed_any (u : UnitD) (attrs kids : Value) (form : Nat) (w : World) (h : form < 4294967296) :
    Calls Tryz.prog 109 #[.agg (unitV u attrs kids), .int .u32 form] w fun e w' => e = .returned (.int .i64 (fixedF u.version u.wide u.address form)) ∧ Frame no w w' := by
  unfold unitV
  go_enter Tryz.func109, Tryz.ntmps109
  go_wp2_with (go_at_call 65; refine (word_any u attrs kids _).mono ?_; rintro e w' ⟨rfl, rfl⟩)
  all_goals go_ret
  all_goals (refine ⟨ret_int ?_, by first | (with_reducible exact (Frame.refl _ _).alloc _) | (with_reducible exact ((Frame.refl _ _).alloc _).alloc _)⟩; go_light; simp only [beq_iff_eq, beq_eq_false_iff_ne, ne_eq] at *; norm_cast at *; simp [fixedF, *])

theorem cut_any (n size : Nat) (w : World) (h : n < 18446744073709551616) (hs : size ≤ 8) :
    Calls Tryz.prog 113 #[.int .u64 n, .int .i64 size] w fun e w' => e = .returned (.int .u64 (cutF n size : Nat)) ∧ w = w' := by
  have hc := cut_eq n size h hs
  go_enter Tryz.func113, Tryz.ntmps113
  go_wp2
  go_ret
  refine ⟨ret_int ?_, rfl⟩
  rw [← hc]
  rfl

/-- fresh bytes are handed back, nothing else changes -/
def Fresh (l : List Nat) (w : World) (e : Ending) (w' : World) : Prop :=
  ∃ a n cap, e = .returned (.slice a n cap) ∧ Own w' w.heap.size (.slice a n cap) l ∧ Frame no w w'
theorem Own.shape {w : World} {base : Nat} {v : Value} {l : List Nat} (h : Own w base v l) : ∃ a cap, v = .slice a l.length cap := by
  rcases h.1.2 with ⟨h1, h2⟩ | ⟨g, cap, cur, h1, _⟩
  · exact ⟨none, 0, by rw [h1, h2]⟩
  · exact ⟨_, cap, h1⟩
theorem Own.len {w : World} {base : Nat} {a : Option Addr} {n cap : Nat} {l : List Nat} (h : Own w base (.slice a n cap) l) : n = l.length := by
  obtain ⟨_, _, e⟩ := h.shape
  simp only [Value.slice.injEq] at e
  exact e.2.1
theorem fresh_mk {l : List Nat} {w w' : World} {v : Value} (h : Own w' w.heap.size v l) (hf : Frame no w w') : Fresh l w (.returned v) w' := by
  obtain ⟨a, cap, rfl⟩ := h.shape
  exact ⟨a, _, cap, rfl, h, hf⟩

theorem own_lt {w : World} {base : Nat} {v : Value} {l : List Nat} (h : Own w base v l) : ∀ k, v.ownBlock = some k → base ≤ k ∧ k < w.heap.size := h.1.lt

theorem unsigned_any (n : Nat) (w : World) (h : n < 18446744073709551616) :
    Calls Tryz.prog 63 #[.int .u64 n] w (Fresh (uleb n) w) := by
  go_enter Tryz.func63, Tryz.ntmps63
  go_wp2
  go_loopw [0, 3] (fun a v wr => ∃ (m : Nat) (p : List Nat), a = .int .u64 m ∧ m ≤ n ∧ p ++ uleb m = uleb n ∧ Own wr w.heap.size v p ∧ Frame no w wr)
                  (fun a _ _ => (intOf a).toNat)
  case atStart => exact ⟨n, [], rfl, Nat.le_refl _, rfl, Own.made _ _ (Nat.le_refl _), (Frame.refl _ _).alloc _⟩
  case round =>
    obtain ⟨m, p, rfl, hm, hp, hown, hb⟩ := hrel
    have HP := Lib.hid hp
    have hpl : p.length ≤ 10 := by have := uleb_len64 n h; rw [← hp, List.length_append] at this; omega
    clear hp
    have hsz := hb.size
    by_cases hlt : m < 128
    · go_wp2_with (at_builtin; refine app5 rfl _ _ rfl rfl (hown.alloc _) rfl (Rd.one wr m 5 rfl (by omega)) (by simp; omega) (by simp; omega) ?_; intro v' w' ho hg _ _)
      go_ret
      exact fresh_mk (by rw [← HP.out, uleb_lt m hlt]; exact ho) ((hb.alloc _).grown hg (fun k hk => .inr (hown.1.lt k hk).1))
    · go_wp2_with (at_builtin; refine app5 rfl _ _ rfl rfl (hown.alloc _) rfl (Rd.one wr (m % 128 + 128) 5 rfl (by omega)) (by simp; omega) (by simp; omega) ?_; intro v' w' ho hg _ _)
      go_roundw
      case rel => exact ⟨m / 128, p ++ [m % 128 + 128], by simp, by omega, by rw [← HP.out, uleb_ge m (by omega)]; simp, ho, (hb.alloc _).grown hg (fun k hk => .inr (hown.1.lt k hk).1)⟩
      case measure => simp [intOf]; omega

theorem number_any (n size : Nat) (big : Bool) (w : World) (h : n < 18446744073709551616) (hs : size ≤ 8) :
    Calls Tryz.prog 64 #[.int .u64 n, .int .i64 size, .bool big] w (Fresh (num n size big) w) := by
  go_enter Tryz.func64, Tryz.ntmps64
  go_wp2
  go_loopw [7, 12] (fun v i wr => ∃ (k : Nat), k ≤ size ∧ i = .int .i64 k ∧ Own wr w.heap.size v ((num n size big).take k) ∧ Frame no w wr)
                  (fun _ i _ => size - (intOf i).toNat)
  case atStart => exact ⟨0, Nat.zero_le _, rfl, Own.made _ _ (Nat.le_refl _), (Frame.refl _ _).alloc _⟩
  case round =>
    obtain ⟨k, hk, rfl, hown, hb⟩ := hrel
    have hsz := hb.size
    by_cases hlt : k < size
    · have HT := Lib.hid (num_take_succ n size big k hlt)
      cases big
      · go_wp2_with (at_builtin; refine app5 rfl _ _ rfl rfl (hown.alloc _) rfl (Rd.one wr (byteAt n k) 5 (byteAt_int n k) (byteAt_lt _ _)) (by simp; omega) (by simp; omega) ?_; intro v' w' ho hg _ _)
        go_roundw
        case rel => exact ⟨k + 1, by omega, by go_num, by rw [HT.out]; exact ho, (hb.alloc _).grown hg (fun k hk => .inr (hown.1.lt k hk).1)⟩
        case measure => simp [intOf]; omega
      · go_wp2_with (at_builtin; refine app5 rfl _ _ rfl rfl (hown.alloc _) rfl (Rd.one wr (byteAt n (size - 1 - k)) 5 (byteAt_int n _) (byteAt_lt _ _)) (by simp; omega) (by simp; omega) ?_; intro v' w' ho hg _ _)
        go_roundw
        case rel => exact ⟨k + 1, by omega, by go_num, by rw [HT.out]; exact ho, (hb.alloc _).grown hg (fun k hk => .inr (hown.1.lt k hk).1)⟩
        case measure => simp [intOf]; omega
    · have HT := Lib.hid (show (num n size big).take k = num n size big from List.take_of_length_le (by simp; omega))
      go_wp2
      go_ret
      exact fresh_mk (by rw [← HT.out]; exact hown) (hb)

theorem signed_any (n : Int) (w : World) (h : -9223372036854775808 ≤ n ∧ n ≤ 9223372036854775807) :
    Calls Tryz.prog 116 #[.int .i64 n] w (Fresh (sleb n) w) := by
  go_enter Tryz.func116, Tryz.ntmps116
  go_wp2
  go_loopw [0, 3] (fun a v wr => ∃ (m : Int) (p : List Nat), a = .int .i64 m ∧ (-9223372036854775808 ≤ m ∧ m ≤ 9223372036854775807) ∧ p ++ sleb m = sleb n ∧ Own wr w.heap.size v p ∧ Frame no w wr)
                  (fun a _ _ => (intOf a).natAbs)
  case atStart => exact ⟨n, [], rfl, h, rfl, Own.made _ _ (Nat.le_refl _), (Frame.refl _ _).alloc _⟩
  case round =>
    obtain ⟨m, p, rfl, ⟨hm1, hm2⟩, hp, hown, hb⟩ := hrel
    have HP := Lib.hid hp
    have hpl : p.length ≤ 10 := by have := sleb_len64 n h; rw [← hp, List.length_append] at this; omega
    clear hp
    have hsz := hb.size
    obtain ⟨h, _⟩ := h
    by_cases hlt : -64 ≤ m ∧ m ≤ 63
    · obtain ⟨hl1, hl2⟩ := hlt
      go_wp2_with (at_builtin; refine app5 rfl _ _ rfl rfl (hown.alloc _) rfl (Rd.one wr ((m % 128).toNat) 5 (by rw [i64_and127]; omega) (by omega)) (by simp; omega) (by simp; omega) ?_; intro v' w' ho hg _ _)
      go_ret
      exact fresh_mk (by rw [← HP.out, sleb_in m ⟨hl1, hl2⟩]; exact ho) ((hb.alloc _).grown hg (fun k hk => .inr (hown.1.lt k hk).1))
    · have hlt' : m < -64 ∨ 63 < m := by omega
      go_wp2_with (at_builtin; refine app5 rfl _ _ rfl rfl (hown.alloc _) rfl (Rd.one wr ((m % 128).toNat + 128) 5 (by rw [i64_and127]; omega) (by omega)) (by simp; omega) (by simp; omega) ?_; intro v' w' ho hg _ _)
      all_goals
        go_roundw
        case rel => exact ⟨m / 128, p ++ [(m % 128).toNat + 128], by simp, by omega, by rw [← HP.out, sleb_out m hlt']; simp, ho, (hb.alloc _).grown hg (fun k hk => .inr (hown.1.lt k hk).1)⟩
        case measure => simp [intOf]; omega

end Go.Proofs.YtklcoppfkfenfaaGreatDoor
