/-
  Words and laws on memory that all walks of this seat use: what stays (Frame), slices that read as lists (Sl, Rd), appends.
-/
import Derived.Test.YtklcoppfkfenfaaGreatDoorProg
import Derived.WalkKit
import Derived.ProofKit
import Derived.Lib.Hide
import Derived.Deep.Light
import Derived.Deep.QuietTactic
import Derived.BigQuiet
import Derived.Laws.AppendOwnNone
set_option linter.all false
set_option linter.unusedVariables false
set_option linter.unusedSimpArgs false
namespace Go.Proofs.YtklcoppfkfenfaaGreatDoor
set_option maxRecDepth 100000
open Go Go.RowKit

/-- a set of blocks -/
abbrev Bs := Nat → Prop

/-- outside S nothing that was there has changed -/
structure Frame (S : Bs) (w w' : World) : Prop where
  os : w'.os = w.os
  tape : w'.tape = w.tape
  output : w'.output = w.output
  size : w.heap.size ≤ w'.heap.size
  block : ∀ k, k < w.heap.size → ¬ S k → w'.heap[k]? = w.heap[k]?

abbrev no : Bs := fun _ => False

theorem Frame.refl (S : Bs) (w : World) : Frame S w w := ⟨rfl, rfl, rfl, Nat.le_refl _, fun _ _ _ => rfl⟩
theorem Frame.trans {S S' : Bs} {a b c : World} (h : Frame S a b) (k : Frame S' b c) (hs : ∀ i, S' i → S i ∨ a.heap.size ≤ i) : Frame S a c :=
  ⟨k.os.trans h.os, k.tape.trans h.tape, k.output.trans h.output, Nat.le_trans h.size k.size,
   fun i hi hn => (k.block i (Nat.lt_of_lt_of_le hi h.size) (fun h' => by rcases hs i h' with h' | h' <;> first | exact hn h' | omega)).trans (h.block i hi hn)⟩
theorem Frame.trans' {S : Bs} {a b c : World} (h : Frame S a b) (k : Frame S b c) : Frame S a c := h.trans k fun _ h => .inl h
theorem Frame.mono {S S' : Bs} {a b : World} (h : Frame S a b) (hs : ∀ i, S i → S' i ∨ a.heap.size ≤ i) : Frame S' a b :=
  ⟨h.os, h.tape, h.output, h.size, fun i hi hn => h.block i hi fun h' => by rcases hs i h' with h' | h' <;> first | exact hn h' | omega⟩
theorem Frame.of_no {S : Bs} {a b : World} (h : Frame no a b) : Frame S a b := h.mono fun _ h => h.elim
theorem Frame.alloc {S : Bs} {a w : World} (h : Frame S a w) (o : Obj) : Frame S a (w.alloc o) :=
  h.trans (S' := no) ⟨rfl, rfl, rfl, by simp, fun k hk _ => Below.heap_alloc _ _ _ hk⟩ fun _ h => h.elim
theorem Frame.drew {S : Bs} {a w : World} (h : Frame S a w) : Frame S a w.drew := ⟨h.os, h.tape, h.output, h.size, h.block⟩
theorem Frame.drewN {S : Bs} {a w : World} (h : Frame S a w) (n : Nat) : Frame S a (w.drewN n) := ⟨h.os, h.tape, h.output, h.size, h.block⟩
theorem Frame.setCell {S : Bs} {a w : World} (h : Frame S a w) {p : Addr} (hp : S p.block ∨ a.heap.size ≤ p.block) (u : Value) : Frame S a (w.setCell p u) :=
  h.trans (S' := fun k => k = p.block) ⟨rfl, rfl, rfl, by simp [World.setCell], fun k hk hn => Below.heap_setCell _ _ _ _ hn⟩ fun i hi => by rw [hi]; exact hp
theorem Frame.set {S : Bs} {a w : World} (h : Frame S a w) {b i : Nat} (hp : S b ∨ a.heap.size ≤ b) (u : Value) : Frame S a (w.setCell ⟨b, i, none⟩ u) := h.setCell hp u
theorem Frame.grown {S : Bs} {a w w' : World} {row : Option Nat} (h : Frame S a w) (hg : w.grownBy w' row) (hr : ∀ k, row = some k → S k ∨ a.heap.size ≤ k) : Frame S a w' :=
  h.trans (S' := fun k => row = some k) ⟨hg.os, hg.tape, hg.output, hg.size, fun k hk hn => hg.block k hk (fun e => hn e.symm)⟩ fun i hi => hr i hi
theorem Frame.below {a w : World} (h : Frame no a w) : Below a.heap.size a w := ⟨h.os, h.tape, h.output, h.size, fun k hk => h.block k hk (fun h => h)⟩
theorem Below.frame' {a w : World} (h : Below a.heap.size a w) : Frame no a w := ⟨h.os, h.tape, h.output, h.size, fun k hk _ => h.block k hk⟩

/-- nothing in K has changed -/
abbrev Same (K : Bs) (w w' : World) : Prop := ∀ k, K k → w'.heap[k]? = w.heap[k]?

theorem Frame.same {S K : Bs} {w w' : World} (h : Frame S w w') (hk : ∀ k, K k → k < w.heap.size ∧ ¬ S k) : Same K w w' := fun k hK => h.block k (hk k hK).1 (hk k hK).2
theorem Frame.cell {S : Bs} {w w' : World} (h : Frame S w w') {a : Addr} {v : Value} (hc : w.cell? a = some v) (hn : ¬ S a.block) : w'.cell? a = some v :=
  (World.cell?_of_block (h.block a.block (World.block_lt_of_cell? w a hc) hn)).trans hc
theorem Frame.frozen {S : Bs} {w w' : World} (h : Frame S w w') {a : Addr} {v : Value} (hc : w.cell? a = some v) (hn : ¬ S a.block) : w'.frozen? a = w.frozen? a :=
  World.frozen?_of_block (h.block a.block (World.block_lt_of_cell? w a hc) hn)

theorem cell_alloc {w : World} {a : Addr} {v : Value} (h : w.cell? a = some v) (o : Obj) : (w.alloc o).cell? a = some v :=
  ((Frame.refl no w).alloc o).cell h id
/-- v is a slice of n elements of sz cells each, whose cells are xs, in blocks of K -/
def Sl (K : Bs) (w : World) (sz : Nat) (v : Value) (n : Nat) (xs : List Value) : Prop :=
  xs.length = n * sz ∧ ∃ a cap, v = .slice a n cap ∧ n ≤ cap ∧ cap ≤ maxLen ∧ (a = none → cap = 0) ∧
    ∀ j (h : j < xs.length), ∃ b o, a = some ⟨b, o, none⟩ ∧ K b ∧ w.cell? ⟨b, o + j, none⟩ = some xs[j]

theorem Sl.keep {K : Bs} {w w' : World} {sz n : Nat} {v : Value} {xs : List Value} (h : Sl K w sz v n xs) (hs : Same K w w') : Sl K w' sz v n xs := by
  obtain ⟨hl, a, cap, hv, h1, h2, h3, hc⟩ := h
  refine ⟨hl, a, cap, hv, h1, h2, h3, fun j hj => ?_⟩
  obtain ⟨b, o, ha, hb, hcell⟩ := hc j hj
  exact ⟨b, o, ha, hb, (World.cell?_of_block (hs b hb)).trans hcell⟩
theorem Sl.mono {K K' : Bs} {w : World} {sz n : Nat} {v : Value} {xs : List Value} (h : Sl K w sz v n xs) (hs : ∀ k, K k → K' k) : Sl K' w sz v n xs := by
  obtain ⟨hl, a, cap, hv, h1, h2, h3, hc⟩ := h
  exact ⟨hl, a, cap, hv, h1, h2, h3, fun j hj => let ⟨b, o, ha, hb, hcell⟩ := hc j hj; ⟨b, o, ha, hs b hb, hcell⟩⟩
theorem Sl.of_own {w : World} {base : Nat} {e : TypeId} {sz n : Nat} {v : Value} {xs : List Value} (h : w.ownsRow base e sz v n xs) : Sl (fun k => v.ownBlock = some k) w sz v n xs := by
  refine ⟨h.1, ?_⟩
  rcases h.2 with ⟨rfl, rfl⟩ | ⟨g, cap, cur, rfl, _, hg, hn, hc, hcs, ht⟩
  · exact ⟨none, 0, rfl, Nat.le_refl _, Nat.zero_le _, fun _ => rfl, fun j hj => by have := h.1; simp at this; subst this; simp at hj⟩
  · refine ⟨some ⟨g, 0, none⟩, cap, rfl, hn, hc, (fun h => by cases h), fun j hj => ⟨g, 0, rfl, rfl, ?_⟩⟩
    have := h.cells (g := g) rfl j xs[j] (List.getElem?_eq_getElem hj)
    have hadd : (⟨g, 0, none⟩ : Addr).add j = ⟨g, 0 + j, none⟩ := by unfold Addr.add; split <;> simp_all
    rwa [hadd] at this
/-- either empty, or with a place -/
theorem Sl.parts {K : Bs} {w : World} {sz n : Nat} {v : Value} {xs : List Value} (h : Sl K w sz v n xs) (hsz : 0 < sz) :
    (n = 0 ∧ xs = [] ∧ ∃ a cap, v = .slice a 0 cap ∧ cap ≤ maxLen ∧ (a = none → cap = 0)) ∨
    (0 < n ∧ ∃ b o cap, v = .slice (some ⟨b, o, none⟩) n cap ∧ K b ∧ n ≤ cap ∧ cap ≤ maxLen ∧ ∀ j (h : j < xs.length), w.cell? ⟨b, o + j, none⟩ = some xs[j]) := by
  obtain ⟨hl, a, cap, hv, h1, h2, h3, hc⟩ := h
  rcases Nat.eq_zero_or_pos n with rfl | hn
  · exact .inl ⟨rfl, List.eq_nil_of_length_eq_zero (by simpa using hl), a, cap, hv, h2, h3⟩
  · have hpos : 0 < xs.length := by rw [hl]; exact Nat.mul_pos hn hsz
    obtain ⟨b, o, rfl, hb, _⟩ := hc 0 hpos
    refine .inr ⟨hn, b, o, cap, hv, hb, h1, h2, fun j hj => ?_⟩
    obtain ⟨b', o', hbo, _, hcell⟩ := hc j hj
    simp only [Option.some.injEq, Addr.mk.injEq] at hbo
    obtain ⟨rfl, rfl, _⟩ := hbo
    exact hcell

/-- bytes as values -/
def bv (l : List Nat) : List Value := l.map fun (n : Nat) => .int .u8 (n : Int)
theorem bv_append (a b : List Nat) : bv (a ++ b) = bv a ++ bv b := by simp [bv]
@[simp] theorem bv_length (a : List Nat) : (bv a).length = a.length := by simp [bv]
theorem bv_nil : bv [] = [] := rfl
theorem bv_one (n : Nat) : bv [n] = [.int .u8 n] := rfl
theorem bv_get (l : List Nat) (j : Nat) (h : j < (bv l).length) : (bv l)[j] = .int .u8 ((l[j]'(by simpa using h) : Nat) : Int) := by simp [bv]
theorem bv_oneCell (l : List Nat) : ∀ u ∈ bv l, u.oneCell' = true := by intro u hu; simp [bv] at hu; obtain ⟨n, _, rfl⟩ := hu; rfl

/-- each is a byte -/
abbrev IsBytes (l : List Nat) : Prop := ∀ x ∈ l, x < 256

/-- v reads as the bytes l -/
def Rd (K : Bs) (w : World) (v : Value) (l : List Nat) : Prop := Sl K w 1 v l.length (bv l) ∧ IsBytes l
theorem Rd.keep {K : Bs} {w w' : World} {v : Value} {l : List Nat} (h : Rd K w v l) (hs : Same K w w') : Rd K w' v l := ⟨h.1.keep hs, h.2⟩
theorem Rd.mono {K K' : Bs} {w : World} {v : Value} {l : List Nat} (h : Rd K w v l) (hs : ∀ k, K k → K' k) : Rd K' w v l := ⟨h.1.mono hs, h.2⟩

/-- v owns a row of bytes -/
def Own (w : World) (base : Nat) (v : Value) (l : List Nat) : Prop := w.ownsRow base 5 1 v l.length (bv l) ∧ IsBytes l
theorem Own.rd {w : World} {base : Nat} {v : Value} {l : List Nat} (h : Own w base v l) : Rd (fun k => v.ownBlock = some k) w v l := ⟨Sl.of_own h.1, h.2⟩

theorem info5 : (Tryz.prog.info? 5).map (fun i => (i.zero, i.size, i.bytes)) = some (some (.int .u8 0), 1, 1) := by kernel_rfl

/-- the row's place behind an append: where it was, or new -/
def Moved (w : World) (v v' : Value) : Prop := v'.ownBlock = v.ownBlock ∨ ∀ k, v'.ownBlock = some k → w.heap.size ≤ k
theorem Moved.or {w : World} {v v' : Value} (h : Moved w v v') : ∀ k, v'.ownBlock = some k → v.ownBlock = some k ∨ w.heap.size ≤ k := fun k hk =>
  h.elim (fun e => .inl (e ▸ hk)) (fun h => .inr (h k hk))

theorem run_app {P : Program} (w : World) (base : Nat) (t ty e : TypeId) (i : TypeInfo) (z : Value) (size bytes : Nat) (ht : P.underlying t = some (.slice e)) (hi : P.info? e = some i) (hz : i.zero = some z)
    (hsize : i.size = size) (hby : i.bytes = bytes) (hzs : z.cells.size = size) (hsz : 0 < size)
    (v : Value) (n : Nat) (xs : List Value) (hown : w.ownsRow base e size v n xs)
    (a : Addr) (m c : Nat) (news : List Value) (hl : news.length = m * size) (hnews : ∀ j u, news[j]? = some u → w.cell? (a.add j) = some u) (h1 : ∀ u ∈ news, u.oneCell' = true)
    (h63 : n + m ≤ maxLen) (hbytes : (n + m) * bytes ≤ 140737488355328) (hbase : base ≤ w.heap.size) :
    ∃ v' w', (Builtin.append_ #[t, t] ty #[v, .slice (some a) m c]).run P w = .ok v' w' ∧ w'.ownsRow base e size v' (n + m) (xs ++ news) ∧ w.grownBy w' v.ownBlock ∧
      (v' = .slice none 0 0 ↔ v = .slice none 0 0 ∧ m = 0) ∧ Moved w v v' := by
  obtain ⟨v', w', hr, h2, h3, h4⟩ := run_append_own (P := P) w base t ty e i z size bytes ht hi hz hsize hby hzs hsz v n xs hown a m c news hl hnews h1 h63 hbytes hbase
  refine ⟨v', w', hr, h2, h3, h4, ?_⟩
  subst hsize
  subst hby
  have h63' : n + m ≤ 9223372036854775807 := by simp only [maxLen] at h63; omega
  rcases hown.2 with ⟨rfl, rfl⟩ | ⟨g, cap, cur, rfl, hbg, hg, hnc, hcm, hcs, htake⟩
  · rcases Nat.eq_zero_or_pos m with rfl | hm
    · rw [h4.2 ⟨rfl, rfl⟩]; exact .inl rfl
    · have hr' := run_append_nil (P := P) w t ty e i z ht hi hz a m c news hl hnews hm (by omega) (by simp only [Nat.zero_add] at hbytes; omega)
      rw [hr'] at hr
      injection hr with e1 e2
      subst e1
      exact .inr fun k hk => by simp only [Value.ownBlock, Option.some.injEq] at hk; omega
  · by_cases hroom : n + m ≤ cap
    · have hfit : n * i.size + news.length ≤ cur.size := by rw [hl, hcs, ← Nat.add_mul]; exact Nat.mul_le_mul_right _ hroom
      have hr' := run_append_room (P := P) w t ty e i ht hi g n cap cur hg a m c news hl hnews h1 hroom hfit
      rw [hr'] at hr
      injection hr with e1 e2
      subst e1
      exact .inl rfl
    · have holds : ∀ j u, xs[j]? = some u → w.cell? ((⟨g, 0, none⟩ : Addr).add j) = some u := hown.cells (g := g) rfl
      have hr' := run_append_grow (P := P) w t ty e i z ht hi hz ⟨g, 0, none⟩ n cap xs hown.1 holds a m c news hl hnews (by omega) (by omega) (growslice_fits (by omega) hbytes)
      rw [hr'] at hr
      injection hr with e1 e2
      subst e1
      exact .inr fun k hk => by simp only [Value.ownBlock, Option.some.injEq] at hk; omega

theorem wpList_app {P : Program} {w : World} {ops : Array Oper} {rest : List Oper} {o : Oper} {a : Act} {Q : Exit → Act → World → Prop} (hgd : o.guard = none) (s x : Operand) (t : TypeId)
    (ho : o.op = .call { callee := .builtin .append, args := #[s, x], argTypes := #[t, t] })
    (base : Nat) (e : TypeId) (i : TypeInfo) (z : Value) (size bytes : Nat) (ht : P.underlying t = some (.slice e)) (hi : P.info? e = some i) (hz : i.zero = some z)
    (hsize : i.size = size) (hby : i.bytes = bytes) (hzs : z.cells.size = size) (hsz : 0 < size)
    (v : Value) (n : Nat) (xs : List Value) (hs : a.eval s = v) (hown : w.ownsRow base e size v n xs)
    (ad : Addr) (m c : Nat) (news : List Value) (hx : a.eval x = .slice (some ad) m c) (hl : news.length = m * size) (hnews : ∀ j u, news[j]? = some u → w.cell? (ad.add j) = some u) (h1 : ∀ u ∈ news, u.oneCell' = true)
    (h63 : n + m ≤ maxLen) (hbytes : (n + m) * bytes ≤ 140737488355328) (hbase : base ≤ w.heap.size)
    (h : ∀ v' w', w'.ownsRow base e size v' (n + m) (xs ++ news) → w.grownBy w' v.ownBlock → (v' = .slice none 0 0 ↔ v = .slice none 0 0 ∧ m = 0) → Moved w v v' → wpList P ops Q rest (a.put o.dst v') w') : wpList P ops Q (o :: rest) a w := by
  refine wpList_plain hgd fun K hK => ?_
  obtain ⟨v', w', hr, h2, h3, h4, h5⟩ := run_app (P := P) w base t o.type e i z size bytes ht hi hz hsize hby hzs hsz v n xs hown ad m c news hl hnews h1 h63 hbytes hbase
  unfold Oper.wp execOp
  simp only [ho, resolve, invoke, builtin, Sem.run_bind, Sem.run_pure, Result.andThen_ok, List.map_toArray, List.map_cons, List.map_nil, hs, hx, hr]
  exact hK _ _ (h v' w' h2 h3 h4 h5)

/-- append of a whole slice to an owned row, whatever the source is (nil too) -/
theorem app_any {P : Program} {w : World} {ops : Array Oper} {rest : List Oper} {o : Oper} {a : Act} {Q : Exit → Act → World → Prop} {e : TypeId} {z : Value} {size bytes : Nat} {t : TypeId}
    (hinfo : (P.info? e).map (fun i => (i.zero, i.size, i.bytes)) = some (some z, size, bytes)) (ht : P.underlying t = some (.slice e)) (hzs : z.cells.size = size) (hsz : 0 < size)
    (hgd : o.guard = none) (s x : Operand)
    (ho : o.op = .call { callee := .builtin .append, args := #[s, x], argTypes := #[t, t] })
    (base : Nat) (v : Value) (n : Nat) (xs : List Value) (hs : a.eval s = v) (hown : w.ownsRow base e size v n xs)
    (K : Bs) (vx : Value) (m : Nat) (news : List Value) (hx : a.eval x = vx) (hr : Sl K w size vx m news) (h1 : ∀ u ∈ news, u.oneCell' = true)
    (h63 : n + m ≤ maxLen) (hbytes : (n + m) * bytes ≤ 140737488355328) (hbase : base ≤ w.heap.size)
    (h : ∀ v' w', w'.ownsRow base e size v' (n + m) (xs ++ news) → w.grownBy w' v.ownBlock → (v' = .slice none 0 0 ↔ v = .slice none 0 0 ∧ m = 0) → Moved w v v' → wpList P ops Q rest (a.put o.dst v') w') : wpList P ops Q (o :: rest) a w := by
  obtain ⟨i0, hi, hz0, hz1, hz2⟩ := info_parts hinfo
  obtain ⟨hl, ad, cap, rfl, hcap, hcm, hnil, hc⟩ := hr
  cases ad with
  | some ad =>
    refine wpList_app hgd s x t ho base e i0 z size bytes ht hi hz0 hz1 hz2 hzs hsz v n xs hs hown ad m cap news hx hl ?_ h1 h63 hbytes hbase h
    intro j u hu
    obtain ⟨hj, rfl⟩ := List.getElem?_eq_some_iff.1 hu
    obtain ⟨b, off, hb, _, hcell⟩ := hc j hj
    simp only [Option.some.injEq] at hb
    subst hb
    have hadd : (⟨b, off, none⟩ : Addr).add j = ⟨b, off + j, none⟩ := by unfold Addr.add; split <;> simp_all
    rw [hadd]; exact hcell
  | none =>
    obtain rfl := hnil rfl
    obtain rfl : m = 0 := by omega
    obtain rfl : news = [] := List.eq_nil_of_length_eq_zero (by simpa using hl)
    refine wpList_append_own_none hgd s x t ho base e i0 size ht hi v n xs hs hown hx ?_
    exact h v w (by simpa using hown) (World.grownBy.refl _ _) (by simp) (.inl rfl)

/-- the same at one operation of a region -/
theorem wp_app_any {P : Program} {w : World} {o : Oper} {a : Act} {L : Act → World → Prop} {Q : Exit → Act → World → Prop} {e : TypeId} {z : Value} {size bytes : Nat} {t : TypeId}
    (hinfo : (P.info? e).map (fun i => (i.zero, i.size, i.bytes)) = some (some z, size, bytes)) (ht : P.underlying t = some (.slice e)) (hzs : z.cells.size = size) (hsz : 0 < size)
    (s x : Operand)
    (ho : o.op = .call { callee := .builtin .append, args := #[s, x], argTypes := #[t, t] })
    (base : Nat) (v : Value) (n : Nat) (xs : List Value) (hs : a.eval s = v) (hown : w.ownsRow base e size v n xs)
    (K : Bs) (ad : Addr) (cap : Nat) (m : Nat) (news : List Value) (hx : a.eval x = .slice (some ad) m cap) (hr : Sl K w size (.slice (some ad) m cap) m news) (h1 : ∀ u ∈ news, u.oneCell' = true)
    (h63 : n + m ≤ maxLen) (hbytes : (n + m) * bytes ≤ 140737488355328) (hbase : base ≤ w.heap.size)
    (h : ∀ v' w', w'.ownsRow base e size v' (n + m) (xs ++ news) → w.grownBy w' v.ownBlock → Moved w v v' → L (a.put o.dst v') w') : o.wp P a w L Q := by
  obtain ⟨i0, hi, hz0, hz1, hz2⟩ := info_parts hinfo
  obtain ⟨hl, ad', cap', he, hcap, hcm, hnil, hc⟩ := hr
  simp only [Value.slice.injEq, true_and] at he
  obtain ⟨rfl, rfl⟩ := he
  have hnews : ∀ j u, news[j]? = some u → w.cell? (ad.add j) = some u := by
    intro j u hu
    obtain ⟨hj, rfl⟩ := List.getElem?_eq_some_iff.1 hu
    obtain ⟨b, off, hb, _, hcell⟩ := hc j hj
    simp only [Option.some.injEq] at hb
    subst hb
    have hadd : (⟨b, off, none⟩ : Addr).add j = ⟨b, off + j, none⟩ := by unfold Addr.add; split <;> simp_all
    rw [hadd]; exact hcell
  obtain ⟨v', w', hrun, h2, h3, h4, h5⟩ := run_app (P := P) w base t o.type e i0 z size bytes ht hi hz0 hz1 hz2 hzs hsz v n xs hown ad m cap news hl hnews h1 h63 hbytes hbase
  unfold Oper.wp execOp
  simp only [ho, resolve, invoke, builtin, Sem.run_bind, Sem.run_pure, Result.andThen_ok, List.map_toArray, List.map_cons, List.map_nil, hs, hx, hrun]
  exact h v' w' h2 h3 h5

theorem underlying34 : Tryz.prog.underlying 34 = some (.slice 5) := by kernel_rfl

/-- append of bytes to owned bytes -/
theorem app5 {w : World} {ops : Array Oper} {rest : List Oper} {o : Oper} {a : Act} {Q : Exit → Act → World → Prop} (hgd : o.guard = none) (s x : Operand)
    (ho : o.op = .call { callee := .builtin .append, args := #[s, x], argTypes := #[34, 34] })
    {base : Nat} {v : Value} {l : List Nat} (hs : a.eval s = v) (hown : Own w base v l)
    {K : Bs} {vx : Value} {m : List Nat} (hx : a.eval x = vx) (hr : Rd K w vx m)
    (hlen : l.length + m.length ≤ 1099511627776) (hbase : base ≤ w.heap.size)
    (h : ∀ v' w', Own w' base v' (l ++ m) → w.grownBy w' v.ownBlock → (v' = .slice none 0 0 ↔ v = .slice none 0 0 ∧ m = []) → Moved w v v' → wpList Tryz.prog ops Q rest (a.put o.dst v') w') : wpList Tryz.prog ops Q (o :: rest) a w :=
  app_any info5 underlying34 rfl (by decide) hgd s x ho base v l.length (bv l) hs hown.1 K vx m.length (bv m) hx hr.1 (bv_oneCell m) (by unfold maxLen; omega) (by omega) hbase
    fun v' w' h1 h2 h3 h4 => h v' w' ⟨by rw [bv_append, List.length_append]; exact h1, fun x hx => (List.mem_append.1 hx).elim (hown.2 x) (hr.2 x)⟩ h2 (by rw [h3]; simp) h4

theorem Own.alloc {w : World} {base : Nat} {v : Value} {l : List Nat} (h : Own w base v l) (o : Obj) : Own (w.alloc o) base v l := ⟨h.1.alloc o, h.2⟩
theorem ownsRow_base {w : World} {base b : Nat} {e : TypeId} {sz n : Nat} {v : Value} {xs : List Value} (h : w.ownsRow base e sz v n xs) (hb : b ≤ base) : w.ownsRow b e sz v n xs := by
  refine ⟨h.1, h.2.imp id ?_⟩
  rintro ⟨g, cap, cur, hv, hg, r⟩
  exact ⟨g, cap, cur, hv, Nat.le_trans hb hg, r⟩
theorem Own.mono_base {w : World} {base b : Nat} {v : Value} {l : List Nat} (h : Own w base v l) (hb : b ≤ base) : Own w b v l := ⟨ownsRow_base h.1 hb, h.2⟩
theorem Own.drew {w : World} {base : Nat} {v : Value} {l : List Nat} (h : Own w base v l) : Own w.drew base v l := h
theorem Own.made (w : World) (base : Nat) (hb : base ≤ w.heap.size) : Own (w.alloc (.cells #[] 5)) base (.slice (some ⟨w.heap.size, 0, none⟩) 0 0) [] :=
  ⟨World.ownsRow_made _ _ _ hb (by decide) rfl, by intro x hx; cases hx⟩
/-- a row that was laid just now -/
theorem Sl.laid (w : World) (xs : List Value) (sz n : Nat) (T : TypeId) (hl : xs.length = n * sz) (hm : n ≤ maxLen) : Sl (fun k => k = w.heap.size) (w.alloc (.cells xs.toArray T)) sz (.slice (some ⟨w.heap.size, 0, none⟩) n n) n xs := by
  refine ⟨hl, _, _, rfl, Nat.le_refl _, hm, by simp, fun j hj => ⟨_, _, rfl, rfl, ?_⟩⟩
  rw [cell_of_row _ _ _ _ _ _ (heap_alloc_new w _)]
  simp [hj]
theorem Sl.laidAt {w : World} {g : Nat} {xs : List Value} {sz n : Nat} {T : TypeId} (hg : g = w.heap.size) (hl : xs.length = n * sz) (hm : n ≤ maxLen) : Sl (fun k => k = g) (w.alloc (.cells xs.toArray T)).drew sz (.slice (some ⟨g, 0, none⟩) n n) n xs := by
  subst hg; exact Sl.laid w xs sz n T hl hm
/-- a byte that was laid just now -/
theorem Rd.one (w : World) (x : Nat) (T : TypeId) {y : Int} (hy : (x : Int) = y) (hx : x < 256) : Rd (fun k => k = w.heap.size) (w.alloc (.cells #[.int .u8 y] T)) (.slice (some ⟨w.heap.size, 0, none⟩) 1 1) [x] := by
  subst hy
  exact ⟨Sl.laid w [.int .u8 x] 1 1 T rfl (by decide), by intro y hy; simp at hy; omega⟩

theorem Rd.oneAt {w : World} {g x : Nat} {T : TypeId} {y : Int} (hg : g = w.heap.size) (hy : (x : Int) = y) (hx : x < 256) : Rd (fun k => k = g) (w.alloc (.cells #[.int .u8 y] T)) (.slice (some ⟨g, 0, none⟩) 1 1) [x] := by
  subst hg; exact Rd.one w x T hy hx
theorem Rd.laid2 (w : World) : Rd (fun k => k = w.heap.size) (w.alloc (.cells #[.int .u8 0, .int .u8 0] 5)) (.slice (some ⟨w.heap.size, 0, none⟩) 2 2) [0, 0] :=
  ⟨Sl.laid w (bv [0, 0]) 1 2 5 rfl (by decide), by intro y hy; simp at hy; omega⟩

theorem cell_set {w : World} {a p : Addr} {v : Value} (h : w.cell? a = some v) (hn : a.block ≠ p.block) (u : Value) : (w.setCell p u).cell? a = some v :=
  ((Frame.refl (fun k => k = p.block) w).setCell (.inl rfl) u).cell h hn
theorem frozen_new (w : World) (cs : Array Value) (T : TypeId) (i : Nat) : (w.alloc (.cells cs T)).frozen? ⟨w.heap.size, i, none⟩ = false := by
  simp only [World.frozen?, heap_alloc_new]
  simp
theorem Frame.set3 (w : World) (g : Nat) (x y z : Value) : Frame (fun k => k = g) w (((w.setCell ⟨g, 0, none⟩ x).setCell ⟨g, 1, none⟩ y).setCell ⟨g, 2, none⟩ z) :=
  Frame.set (Frame.set (Frame.set (Frame.refl (fun k => k = g) w) (.inl rfl) x) (.inl rfl) y) (.inl rfl) z
theorem cell_new (w : World) (cs : Array Value) (T : TypeId) (i : Nat) : (w.alloc (.cells cs T)).cell? ⟨w.heap.size, i, none⟩ = cs[i]? := cell_of_row _ _ _ _ _ _ (heap_alloc_new w _)
theorem cell_newAt {w : World} {b i : Nat} {cs : Array Value} {T : TypeId} {v : Value} (hb : b = w.heap.size) (hv : cs[i]? = some v) : (w.alloc (.cells cs T)).cell? ⟨b, i, none⟩ = some v := by
  subst hb; rw [cell_new, hv]
theorem frozen_newAt {w : World} {b i : Nat} {cs : Array Value} {T : TypeId} (hb : b = w.heap.size) : (w.alloc (.cells cs T)).frozen? ⟨b, i, none⟩ = false := by
  subst hb; exact frozen_new _ _ _ _
theorem cell_lt {w : World} {a : Addr} {v : Value} (h : w.cell? a = some v) : a.block < w.heap.size := World.block_lt_of_cell? w a h

end Go.Proofs.YtklcoppfkfenfaaGreatDoor
