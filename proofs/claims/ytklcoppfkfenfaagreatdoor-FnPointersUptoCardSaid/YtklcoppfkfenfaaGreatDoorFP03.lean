/-
  Walks: Join, SameBytes, Length, own. How nodes, attributes and items of lists lie in memory.
-/
import Derived.Test.YtklcoppfkfenfaaGreatDoorFP02
set_option linter.all false
set_option linter.unusedVariables false
set_option linter.unusedSimpArgs false
namespace Go.Proofs.YtklcoppfkfenfaaGreatDoor
set_option maxRecDepth 100000
open Go Go.RowKit

/-- v is a slice of slices of bytes -/
def Rds (K : Bs) (w : World) (v : Value) (ls : List (List Nat)) : Prop :=
  ∃ vs : List Value, vs.length = ls.length ∧ Sl K w 1 v ls.length vs ∧ ∀ i (h1 : i < vs.length) (h2 : i < ls.length), Rd K w vs[i] ls[i]
theorem Rds.keep {K : Bs} {w w' : World} {v : Value} {ls : List (List Nat)} (h : Rds K w v ls) (hs : Same K w w') : Rds K w' v ls := by
  obtain ⟨vs, hl, h1, h2⟩ := h
  exact ⟨vs, hl, h1.keep hs, fun i a b => (h2 i a b).keep hs⟩
theorem Rds.mono {K K' : Bs} {w : World} {v : Value} {ls : List (List Nat)} (h : Rds K w v ls) (hs : ∀ k, K k → K' k) : Rds K' w v ls := by
  obtain ⟨vs, hl, h1, h2⟩ := h
  exact ⟨vs, hl, h1.mono hs, fun i a b => (h2 i a b).mono hs⟩
theorem Sl.alloc {K : Bs} {w : World} {sz n : Nat} {v : Value} {xs : List Value} (h : Sl K w sz v n xs) (hk : ∀ k, K k → k < w.heap.size) (o : Obj) : Sl K (w.alloc o) sz v n xs :=
  h.keep fun k hK => Below.heap_alloc _ _ _ (hk k hK)
theorem Rd.alloc {K : Bs} {w : World} {v : Value} {l : List Nat} (h : Rd K w v l) (hk : ∀ k, K k → k < w.heap.size) (o : Obj) : Rd K (w.alloc o) v l :=
  h.keep fun k hK => Below.heap_alloc _ _ _ (hk k hK)
theorem Rds.laid (K : Bs) (w : World) (ps : List (Value × List Nat)) (T : TypeId) (hk : ∀ k, K k → k < w.heap.size) (h : ∀ p ∈ ps, Rd K w p.1 p.2) (hm : ps.length ≤ maxLen) :
    Rds (fun k => K k ∨ k = w.heap.size) (w.alloc (.cells (ps.map Prod.fst).toArray T)) (.slice (some ⟨w.heap.size, 0, none⟩) ps.length ps.length) (ps.map Prod.snd) := by
  refine ⟨ps.map Prod.fst, by simp, ?_, fun i h1 h2 => ?_⟩
  · rw [List.length_map]
    exact (Sl.laid w (ps.map Prod.fst) 1 ps.length T (by simp) hm).mono fun k hk => .inr hk
  · have := h (ps[i]'(by simpa using h1)) (List.getElem_mem _)
    simpa using (this.alloc hk _).mono fun k hk => .inl hk

theorem own_lt' {w : World} {base : Nat} {v : Value} {l : List Nat} (h : Own w base v l) : ∀ k, v.ownBlock = some k → base ≤ k := fun k hk => (h.1.lt k hk).1

theorem take_flatten_succ (ls : List (List Nat)) (k : Nat) (h : k < ls.length) : (ls.take (k + 1)).flatten = (ls.take k).flatten ++ ls[k] := by
  rw [List.take_succ_eq_append_getElem h, List.flatten_append]; simp
theorem take_flatten_le (ls : List (List Nat)) (k : Nat) : (ls.take k).flatten.length ≤ ls.flatten.length := by
  conv => rhs; rw [← List.take_append_drop k ls]
  rw [List.flatten_append, List.length_append]; omega

theorem join_any (K : Bs) (v : Value) (ls : List (List Nat)) (w : World) (h : Rds K w v ls) (hk : ∀ k, K k → k < w.heap.size) (hlen : ls.flatten.length ≤ 1000000000000) :
    Calls Tryz.prog 35 #[v] w (Fresh ls.flatten w) := by
  obtain ⟨vs, hl, hsl, hrd⟩ := h
  rcases hsl.parts (by decide) with ⟨h0, rfl, a, cap, rfl, _, _⟩ | ⟨h0, b, o, cap, rfl, hb, h1, h2, hc⟩
  · have hls : ls = [] := List.eq_nil_of_length_eq_zero h0
    subst hls
    go_enter Tryz.func35, Tryz.ntmps35
    go_wp2
    refine wp_loop_once ?_
    go_wp2
    go_ret
    exact fresh_mk (Own.made _ _ (Nat.le_refl _)) ((Frame.refl _ _).alloc _)
  · unfold maxLen at h2
    have HD := Lib.hid hrd; clear hrd
    have HC := Lib.hid hc; clear hc
    go_enter Tryz.func35, Tryz.ntmps35
    go_wp2
    go_loopw [3, 9] (fun v i wr => ∃ (k : Nat), k ≤ ls.length ∧ i = .int .i64 k ∧ Own wr w.heap.size v (ls.take k).flatten ∧ Frame no w wr)
                  (fun _ i _ => ls.length - (intOf i).toNat)
    case atStart => exact ⟨0, Nat.zero_le _, rfl, Own.made _ _ (Nat.le_refl _), (Frame.refl _ _).alloc _⟩
    case round =>
      obtain ⟨k, hk', rfl, hown, hf⟩ := hrel
      have hsz := hf.size
      have hsame : Same K w wr := hf.same fun k hK => ⟨hk k hK, id⟩
      by_cases hlt : k < ls.length
      · have hkv : k < vs.length := by omega
        have hcell : wr.cell? ⟨b, o + k, none⟩ = some vs[k] := (World.cell?_of_block (hsame b hb)).trans (HC.out k hkv)
        have hr := (HD.out k hkv hlt).keep hsame
        have HT := Lib.hid (take_flatten_succ ls k hlt)
        have hle : (ls.take k).flatten.length + ls[k].length ≤ 1000000000000 := by
          have := take_flatten_le ls (k + 1); rw [HT.out, List.length_append] at this; omega
        go_wp2_with (at_builtin; refine app5 rfl _ _ rfl rfl hown rfl hr (by omega) (by omega) ?_; intro v' w' ho hg _ _)
        go_roundw
        case rel => exact ⟨k + 1, by omega, by go_num, by rw [HT.out]; exact ho, hf.grown hg (fun k hk => .inr (own_lt' hown k hk))⟩
        case measure => simp [intOf]; omega
      · have HT := Lib.hid (show ls.take k = ls from List.take_of_length_le (by omega))
        go_wp2
        go_ret
        exact fresh_mk (by rw [← HT.out]; exact hown) hf

theorem own_any (K : Bs) (v : Value) (l : List Nat) (w : World) (h : Rd K w v l) (hk : ∀ k, K k → k < w.heap.size) (hlen : l.length ≤ 1000000000000) :
    Calls Tryz.prog 43 #[v] w fun e w' => ∃ v', e = .returned v' ∧ Own w' w.heap.size v' l ∧ Frame no w w' ∧ v' ≠ .slice none 0 0 := by
  go_enter Tryz.func43, Tryz.ntmps43
  go_wp2_with (at_builtin; refine app5 rfl _ _ rfl rfl (Own.made w w.heap.size (Nat.le_refl _)) rfl (h.alloc hk _) (by simp; omega) (by simp) ?_; intro v' w' ho hg hnn _)
  go_ret
  refine ⟨_, rfl, by simpa using ho, ((Frame.refl _ _).alloc _).grown hg (fun k hk => .inr (own_lt' (Own.made w w.heap.size (Nat.le_refl _)) k hk)), ?_⟩
  intro hv
  exact absurd (hnn.1 hv).1 (show ¬ Value.slice _ _ _ = _ by simp)

theorem sameBytes_any (K K' : Bs) (v v' : Value) (l l' : List Nat) (w : World) (h : Rd K w v l) (h' : Rd K' w v' l') :
    Calls Tryz.prog 50 #[v, v'] w fun e w' => e = .returned (.bool (l == l')) ∧ w = w' := by
  obtain ⟨h, hB⟩ := h
  obtain ⟨h', hB'⟩ := h'
  by_cases hlen : l.length = l'.length
  · rcases h.parts (by decide) with ⟨h0, _, a, cap, rfl, _, _⟩ | ⟨h0, b, o, cap, rfl, hb, h1, h2, hc⟩
    · obtain rfl : l = [] := List.eq_nil_of_length_eq_zero h0
      obtain rfl : l' = [] := List.eq_nil_of_length_eq_zero (by simpa using hlen.symm)
      obtain ⟨_, a', cap', rfl, _⟩ := h'
      go_enter Tryz.func50, Tryz.ntmps50
      go_wp2
      refine wp_loop_once ?_
      go_wp2
      go_ret
      exact ⟨rfl, rfl⟩
    · obtain ⟨h0', b', o', cap', rfl, hb', h1', h2', hc'⟩ := (h'.parts (by decide)).resolve_left (fun h => by omega)
      unfold maxLen at h2 h2'
      have HC := Lib.hid hc; clear hc
      have HC' := Lib.hid hc'; clear hc'
      have HL := Lib.hid hlen
      have hne : ((l.length : Int) != (l'.length : Int)) = false := by simp [hlen]
      have hlt' : l.length ≤ l'.length := by omega
      clear hlen h h'
      go_enter Tryz.func50, Tryz.ntmps50
      go_wp2
      go_loop [14] (fun i => ∃ (k : Nat), k ≤ l.length ∧ i = .int .i64 k ∧ l.take k = l'.take k) (fun i => l.length - (intOf i).toNat)
      case atStart => exact ⟨0, Nat.zero_le _, rfl, rfl⟩
      case round =>
        obtain ⟨k, hk, rfl, ht⟩ := hrel
        have HT := Lib.hid ht; clear ht
        by_cases hlt : k < l.length
        · have hcell : w.cell? ⟨b, o + k, none⟩ = some (.int .u8 (l[k] : Nat)) := by rw [HC.out k (by simpa using hlt), bv_get]
          have hcell' : w.cell? ⟨b', o' + k, none⟩ = some (.int .u8 (l'[k] : Nat)) := by rw [HC'.out k (by simp; omega), bv_get]
          by_cases he : l[k] = l'[k]
          · have he' : ((l[k] : Int) != (l'[k] : Int)) = false := by simp [he]
            have HE := Lib.hid he; clear he
            go_wp2
            go_round
            case rel => exact ⟨k + 1, by omega, by go_num, by rw [List.take_succ_eq_append_getElem hlt, List.take_succ_eq_append_getElem (by omega : k < l'.length), HT.out, HE.out]⟩
            case measure => simp [intOf]; omega
          · have he' : ((l[k] : Int) != (l'[k] : Int)) = true := by simp; omega
            have HE := Lib.hid he; clear he
            go_wp2
            go_ret
            exact ⟨ret_bool (by symm; simp; intro e; apply HE.out; simp [e]), rfl⟩
        · go_wp2
          go_ret
          exact ⟨ret_bool (by symm; simp; have := HT.out; rwa [List.take_of_length_le (by omega), List.take_of_length_le (by have := HL.out; omega)] at this), rfl⟩
  · obtain ⟨_, a, cap, rfl, _⟩ := h
    obtain ⟨_, a', cap', rfl, _⟩ := h'
    have hne : ((l.length : Int) != (l'.length : Int)) = true := by simp; omega
    go_enter Tryz.func50, Tryz.ntmps50
    go_wp2
    go_ret
    exact ⟨ret_bool (by symm; simp; intro e; apply hlen; rw [e]), rfl⟩

theorem join2 {K1 K2 : Bs} {w : World} {g : Nat} {v1 v2 : Value} {l1 l2 : List Nat} (h1 : Rd K1 w v1 l1) (h2 : Rd K2 w v2 l2) (hk1 : ∀ k, K1 k → k < w.heap.size) (hk2 : ∀ k, K2 k → k < w.heap.size) (hlen : l1.length + l2.length ≤ 1000000000000) (hg : g = w.heap.size) :
    Calls Tryz.prog 35 #[.slice (some ⟨g, 0, none⟩) 2 2] (w.alloc (.cells #[v1, v2] 34)) (Fresh (l1 ++ l2) (w.alloc (.cells #[v1, v2] 34))) := by
  subst hg
  have := join_any _ _ _ _ (Rds.laid (fun k => K1 k ∨ K2 k) w [(v1, l1), (v2, l2)] 34 (fun k hk => by rcases hk with hk | hk <;> first | exact hk1 k hk | exact hk2 k hk)
    (fun p hp => by
      simp at hp
      rcases hp with rfl | rfl
      · exact h1.mono (fun k hk => .inl hk)
      · exact h2.mono (fun k hk => (.inr hk))) (show 2 ≤ maxLen by decide))
    (fun k hk => by
      simp
      rcases hk with (hk | hk) | rfl
      · have := hk1 k hk; omega
      · have := hk2 k hk; omega
      · omega) (by simp; omega)
  simpa using this
theorem join3 {K1 K2 K3 : Bs} {w : World} {g : Nat} {v1 v2 v3 : Value} {l1 l2 l3 : List Nat} (h1 : Rd K1 w v1 l1) (h2 : Rd K2 w v2 l2) (h3 : Rd K3 w v3 l3) (hk1 : ∀ k, K1 k → k < w.heap.size) (hk2 : ∀ k, K2 k → k < w.heap.size) (hk3 : ∀ k, K3 k → k < w.heap.size) (hlen : l1.length + l2.length + l3.length ≤ 1000000000000) (hg : g = w.heap.size) :
    Calls Tryz.prog 35 #[.slice (some ⟨g, 0, none⟩) 3 3] (w.alloc (.cells #[v1, v2, v3] 34)) (Fresh (l1 ++ (l2 ++ l3)) (w.alloc (.cells #[v1, v2, v3] 34))) := by
  subst hg
  have := join_any _ _ _ _ (Rds.laid (fun k => K1 k ∨ K2 k ∨ K3 k) w [(v1, l1), (v2, l2), (v3, l3)] 34 (fun k hk => by rcases hk with hk | hk | hk <;> first | exact hk1 k hk | exact hk2 k hk | exact hk3 k hk)
    (fun p hp => by
      simp at hp
      rcases hp with rfl | rfl | rfl
      · exact h1.mono (fun k hk => .inl hk)
      · exact h2.mono (fun k hk => .inr (.inl hk))
      · exact h3.mono (fun k hk => (.inr (.inr hk)))) (show 3 ≤ maxLen by decide))
    (fun k hk => by
      simp
      rcases hk with (hk | hk | hk) | rfl
      · have := hk1 k hk; omega
      · have := hk2 k hk; omega
      · have := hk3 k hk; omega
      · omega) (by simp; omega)
  simpa using this
theorem join4 {K1 K2 K3 K4 : Bs} {w : World} {g : Nat} {v1 v2 v3 v4 : Value} {l1 l2 l3 l4 : List Nat} (h1 : Rd K1 w v1 l1) (h2 : Rd K2 w v2 l2) (h3 : Rd K3 w v3 l3) (h4 : Rd K4 w v4 l4) (hk1 : ∀ k, K1 k → k < w.heap.size) (hk2 : ∀ k, K2 k → k < w.heap.size) (hk3 : ∀ k, K3 k → k < w.heap.size) (hk4 : ∀ k, K4 k → k < w.heap.size) (hlen : l1.length + l2.length + l3.length + l4.length ≤ 1000000000000) (hg : g = w.heap.size) :
    Calls Tryz.prog 35 #[.slice (some ⟨g, 0, none⟩) 4 4] (w.alloc (.cells #[v1, v2, v3, v4] 34)) (Fresh (l1 ++ (l2 ++ (l3 ++ l4))) (w.alloc (.cells #[v1, v2, v3, v4] 34))) := by
  subst hg
  have := join_any _ _ _ _ (Rds.laid (fun k => K1 k ∨ K2 k ∨ K3 k ∨ K4 k) w [(v1, l1), (v2, l2), (v3, l3), (v4, l4)] 34 (fun k hk => by rcases hk with hk | hk | hk | hk <;> first | exact hk1 k hk | exact hk2 k hk | exact hk3 k hk | exact hk4 k hk)
    (fun p hp => by
      simp at hp
      rcases hp with rfl | rfl | rfl | rfl
      · exact h1.mono (fun k hk => .inl hk)
      · exact h2.mono (fun k hk => .inr (.inl hk))
      · exact h3.mono (fun k hk => .inr (.inr (.inl hk)))
      · exact h4.mono (fun k hk => (.inr (.inr (.inr hk))))) (show 4 ≤ maxLen by decide))
    (fun k hk => by
      simp
      rcases hk with (hk | hk | hk | hk) | rfl
      · have := hk1 k hk; omega
      · have := hk2 k hk; omega
      · have := hk3 k hk; omega
      · have := hk4 k hk; omega
      · omega) (by simp; omega)
  simpa using this
theorem join2d {K1 K2 : Bs} {w : World} {g : Nat} {v1 v2 : Value} {l1 l2 : List Nat} (h1 : Rd K1 w v1 l1) (h2 : Rd K2 w v2 l2) (hk1 : ∀ k, K1 k → k < w.heap.size) (hk2 : ∀ k, K2 k → k < w.heap.size) (hlen : l1.length + l2.length ≤ 1000000000000) (hg : g = w.heap.size) :
    Calls Tryz.prog 35 #[.slice (some ⟨g, 0, none⟩) 2 2] (w.alloc (.cells #[v1, v2] 34)).drew (Fresh (l1 ++ l2) (w.alloc (.cells #[v1, v2] 34)).drew) :=
  join2 (w := w.drew) h1 h2 hk1 hk2 hlen hg
theorem join3d {K1 K2 K3 : Bs} {w : World} {g : Nat} {v1 v2 v3 : Value} {l1 l2 l3 : List Nat} (h1 : Rd K1 w v1 l1) (h2 : Rd K2 w v2 l2) (h3 : Rd K3 w v3 l3) (hk1 : ∀ k, K1 k → k < w.heap.size) (hk2 : ∀ k, K2 k → k < w.heap.size) (hk3 : ∀ k, K3 k → k < w.heap.size) (hlen : l1.length + l2.length + l3.length ≤ 1000000000000) (hg : g = w.heap.size) :
    Calls Tryz.prog 35 #[.slice (some ⟨g, 0, none⟩) 3 3] (w.alloc (.cells #[v1, v2, v3] 34)).drew (Fresh (l1 ++ (l2 ++ l3)) (w.alloc (.cells #[v1, v2, v3] 34)).drew) :=
  join3 (w := w.drew) h1 h2 h3 hk1 hk2 hk3 hlen hg
theorem join4d {K1 K2 K3 K4 : Bs} {w : World} {g : Nat} {v1 v2 v3 v4 : Value} {l1 l2 l3 l4 : List Nat} (h1 : Rd K1 w v1 l1) (h2 : Rd K2 w v2 l2) (h3 : Rd K3 w v3 l3) (h4 : Rd K4 w v4 l4) (hk1 : ∀ k, K1 k → k < w.heap.size) (hk2 : ∀ k, K2 k → k < w.heap.size) (hk3 : ∀ k, K3 k → k < w.heap.size) (hk4 : ∀ k, K4 k → k < w.heap.size) (hlen : l1.length + l2.length + l3.length + l4.length ≤ 1000000000000) (hg : g = w.heap.size) :
    Calls Tryz.prog 35 #[.slice (some ⟨g, 0, none⟩) 4 4] (w.alloc (.cells #[v1, v2, v3, v4] 34)).drew (Fresh (l1 ++ (l2 ++ (l3 ++ l4))) (w.alloc (.cells #[v1, v2, v3, v4] 34)).drew) :=
  join4 (w := w.drew) h1 h2 h3 h4 hk1 hk2 hk3 hk4 hlen hg

theorem length_any (n : Nat) (wide big : Bool) (w : World) (h : n < 18446744073709551616) :
    Calls Tryz.prog 66 #[.int .u64 n, .bool wide, .bool big] w (Fresh (lenB n wide big) w) := by
  cases wide
  · go_enter Tryz.func66, Tryz.ntmps66
    go_wp2_with (go_at_call 64; refine (number_any n 4 big _ h (by decide)).mono ?_; rintro e w' ⟨va, vn, vc, rfl, ho, hf⟩)
    go_ret
    exact fresh_mk ho hf
  · go_enter Tryz.func66, Tryz.ntmps66
    go_wp2_with fail
    refine (number_any n 8 big _ h (by decide)).mono ?_
    rintro e w1 ⟨va, vn, vc, rfl, ho, hf⟩
    go_wp2_with fail
    have h255 : Rd (fun k => k = w.heap.size) (w.alloc (.cells #[.int .u8 255, .int .u8 255, .int .u8 255, .int .u8 255] 5)) (.slice (some ⟨w.heap.size, 0, none⟩) 4 4) [255, 255, 255, 255] :=
      ⟨Sl.laid w (bv [255, 255, 255, 255]) 1 4 5 rfl (by decide), by intro y hy; simp at hy; omega⟩
    have hsz := hf.size
    simp at hsz
    refine (join2 (h255.keep (hf.same fun k hk => ⟨by simp; omega, id⟩)) ho.rd (fun k hk => by omega) (fun k hk => (own_lt ho k hk).2) (by simp) rfl).mono ?_
    rintro e w2 ⟨v2, n2, c2, rfl, ho2, hf2⟩
    go_wp2_with fail
    go_ret
    have hsz := hf.size
    simp at hsz
    refine fresh_mk ?_ ?_
    · have := ho2.mono_base (b := w.heap.size) (by simp; omega)
      simpa [lenB] using this
    · exact ((((Frame.refl _ _).alloc _).trans hf (fun _ h => h.elim)).alloc _).trans hf2 (fun _ h => h.elim)

end Go.Proofs.YtklcoppfkfenfaaGreatDoor
namespace Go.Proofs.YtklcoppfkfenfaaGreatDoor
set_option maxRecDepth 100000
open Go Go.RowKit

/-- the cell of a row of structs -/
theorem flat_get {α : Type} (f : α → List Value) (sz : Nat) (l : List α) (hf : ∀ x ∈ l, (f x).length = sz) (k j : Nat) (hk : k < l.length) (hj : j < sz) :
    ∃ h : k * sz + j < (l.flatMap f).length, (l.flatMap f)[k * sz + j] = (f l[k])[j]'(by rw [hf _ (List.getElem_mem _)]; exact hj) := by
  induction l generalizing k with
  | nil => simp at hk
  | cons x l ih =>
    have hx : (f x).length = sz := hf x (by simp)
    cases k with
    | zero =>
      refine ⟨by simp [hx]; omega, ?_⟩
      simp only [List.flatMap_cons, Nat.zero_mul, Nat.zero_add, List.getElem_cons_zero]
      rw [List.getElem_append_left (by omega)]
    | succ k =>
      obtain ⟨h1, h2⟩ := ih (fun y hy => hf y (by simp [hy])) k (by simpa using hk)
      have e : (k + 1) * sz + j = (f x).length + (k * sz + j) := by rw [hx, Nat.add_mul]; omega
      refine ⟨by simp only [List.flatMap_cons, List.length_append]; omega, ?_⟩
      simp only [List.flatMap_cons, e, List.getElem_cons_succ]
      rw [List.getElem_append_right (by omega)]
      simp only [Nat.add_sub_cancel_left]
      exact h2
theorem flat_length {α : Type} (f : α → List Value) (sz : Nat) (l : List α) (hf : ∀ x ∈ l, (f x).length = sz) : (l.flatMap f).length = l.length * sz := by
  induction l with
  | nil => simp
  | cons x l ih => simp [hf x (by simp), ih fun y hy => hf y (by simp [hy]), Nat.add_mul]; omega

/-- v is a slice of structs that are told by l -/
def Ar {α : Type} (K : Bs) (w : World) (sz : Nat) (v : Value) (l : List α) (f : α → List Value) : Prop :=
  (∀ x ∈ l, (f x).length = sz) ∧ Sl K w sz v l.length (l.flatMap f)
theorem Ar.keep {α : Type} {K : Bs} {w w' : World} {sz : Nat} {v : Value} {l : List α} {f : α → List Value} (h : Ar K w sz v l f) (hs : Same K w w') : Ar K w' sz v l f := ⟨h.1, h.2.keep hs⟩
theorem Ar.mono {α : Type} {K K' : Bs} {w : World} {sz : Nat} {v : Value} {l : List α} {f : α → List Value} (h : Ar K w sz v l f) (hs : ∀ k, K k → K' k) : Ar K' w sz v l f := ⟨h.1, h.2.mono hs⟩
theorem Ar.parts {α : Type} {K : Bs} {w : World} {sz : Nat} {v : Value} {l : List α} {f : α → List Value} (h : Ar K w sz v l f) (hsz : 0 < sz) :
    (l = [] ∧ ∃ a cap, v = .slice a 0 cap ∧ cap ≤ maxLen ∧ (a = none → cap = 0)) ∨
    (0 < l.length ∧ ∃ b o cap, v = .slice (some ⟨b, o, none⟩) l.length cap ∧ K b ∧ l.length ≤ cap ∧ cap ≤ maxLen ∧
      ∀ k (h : k < l.length) j (c : Value), (f l[k])[j]? = some c → w.cell? ⟨b, o + k * sz + j, none⟩ = some c) := by
  rcases h.2.parts hsz with ⟨h0, _, a, cap, hv, hc⟩ | ⟨h0, b, o, cap, hv, hb, h1, h2, hc⟩
  · exact .inl ⟨List.eq_nil_of_length_eq_zero h0, a, cap, hv, hc⟩
  · refine .inr ⟨h0, b, o, cap, hv, hb, h1, h2, fun k hk j c hj => ?_⟩
    obtain ⟨hj1, hj2⟩ := List.getElem?_eq_some_iff.1 hj
    have hj3 : j < sz := by rw [h.1 _ (List.getElem_mem hk)] at hj1; exact hj1
    obtain ⟨g1, g2⟩ := flat_get f sz l h.1 k j hk hj3
    rw [Nat.add_assoc, hc _ g1, g2, hj2]

def itemC (it : ItemD) : List Value := [.int .i64 it.kind, .int .u64 (it.a : Int), .int .u64 (it.b : Int)]
def ItemsAt (K : Bs) (w : World) (v : Value) (its : List ItemD) : Prop :=
  Ar K w 3 v its itemC ∧ ∀ it ∈ its, (-9223372036854775808 ≤ it.kind ∧ it.kind ≤ 9223372036854775807) ∧ it.a < 18446744073709551616 ∧ it.b < 18446744073709551616
theorem ItemsAt.keep {K : Bs} {w w' : World} {v : Value} {l : List ItemD} (h : ItemsAt K w v l) (hs : Same K w w') : ItemsAt K w' v l := ⟨h.1.keep hs, h.2⟩
theorem ItemsAt.mono {K K' : Bs} {w : World} {v : Value} {l : List ItemD} (h : ItemsAt K w v l) (hs : ∀ k, K k → K' k) : ItemsAt K' w v l := ⟨h.1.mono hs, h.2⟩

/-- an attribute with the values of its two slices -/
abbrev AttrV := AttrD × Value × Value
def attrC (p : AttrV) : List Value := [.int .u32 (p.1.attr : Int), .int .u32 (p.1.form : Int), .int .u64 (p.1.n : Int), p.2.1, p.2.2]
def AttrOk (K : Bs) (w : World) (p : AttrV) : Prop :=
  p.1.attr < 4294967296 ∧ p.1.form < 4294967296 ∧ p.1.n < 18446744073709551616 ∧ Rd K w p.2.1 p.1.data ∧ ItemsAt K w p.2.2 p.1.list
theorem AttrOk.keep {K : Bs} {w w' : World} {p : AttrV} (h : AttrOk K w p) (hs : Same K w w') : AttrOk K w' p := ⟨h.1, h.2.1, h.2.2.1, h.2.2.2.1.keep hs, h.2.2.2.2.keep hs⟩
theorem AttrOk.mono {K K' : Bs} {w : World} {p : AttrV} (h : AttrOk K w p) (hs : ∀ k, K k → K' k) : AttrOk K' w p := ⟨h.1, h.2.1, h.2.2.1, h.2.2.2.1.mono hs, h.2.2.2.2.mono hs⟩
def AttrsAt (K : Bs) (w : World) (v : Value) (al : List AttrD) : Prop :=
  ∃ ps : List AttrV, ps.map Prod.fst = al ∧ Ar K w 5 v ps attrC ∧ ∀ p ∈ ps, AttrOk K w p
theorem AttrsAt.keep {K : Bs} {w w' : World} {v : Value} {l : List AttrD} (h : AttrsAt K w v l) (hs : Same K w w') : AttrsAt K w' v l := by
  obtain ⟨ps, h1, h2, h3⟩ := h
  exact ⟨ps, h1, h2.keep hs, fun p hp => (h3 p hp).keep hs⟩
theorem AttrsAt.mono {K K' : Bs} {w : World} {v : Value} {l : List AttrD} (h : AttrsAt K w v l) (hs : ∀ k, K k → K' k) : AttrsAt K' w v l := by
  obtain ⟨ps, h1, h2, h3⟩ := h
  exact ⟨ps, h1, h2.mono hs, fun p hp => (h3 p hp).mono hs⟩

theorem AttrsAt.lt {K : Bs} {w : World} {v : Value} {al : List AttrD} (h : AttrsAt K w v al) : ∀ x ∈ al, x.attr < 18446744073709551616 ∧ x.form < 18446744073709551616 := by
  obtain ⟨ps, rfl, _, h3⟩ := h
  intro x hx
  obtain ⟨p, hp, rfl⟩ := List.mem_map.1 hx
  obtain ⟨h1, h2, _⟩ := h3 p hp
  omega

/-- a node with the values of its two slices -/
abbrev NodeV := NodeD × Value × Value
def nodeC (p : NodeV) : List Value := [.int .u32 (p.1.tag : Int), p.2.1, .bool p.1.opn, p.2.2]
/-- the node lies in memory; its depth is less than d -/
def NodeAt : Nat → Bs → World → NodeV → Prop
  | 0, _, _, _ => False
  | d + 1, K, w, p => p.1.tag < 4294967296 ∧ AttrsAt K w p.2.1 p.1.attrs ∧
    ∃ ps : List NodeV, ps.map Prod.fst = p.1.kids ∧ Ar K w 4 p.2.2 ps nodeC ∧ ∀ q ∈ ps, NodeAt d K w q
theorem NodeAt.keep {d : Nat} : ∀ {K : Bs} {w w' : World} {p : NodeV}, NodeAt d K w p → Same K w w' → NodeAt d K w' p := by
  induction d with
  | zero => intro K w w' p h; exact h.elim
  | succ d ih =>
    rintro K w w' p ⟨h1, h2, ps, h3, h4, h5⟩ hs
    exact ⟨h1, h2.keep hs, ps, h3, h4.keep hs, fun q hq => ih (h5 q hq) hs⟩
theorem NodeAt.mono {d : Nat} : ∀ {K K' : Bs} {w : World} {p : NodeV}, NodeAt d K w p → (∀ k, K k → K' k) → NodeAt d K' w p := by
  induction d with
  | zero => intro K K' w p h; exact h.elim
  | succ d ih =>
    rintro K K' w p ⟨h1, h2, ps, h3, h4, h5⟩ hs
    exact ⟨h1, h2.mono hs, ps, h3, h4.mono hs, fun q hq => ih (h5 q hq) hs⟩

/-- an element of a slice of structs -/
theorem Ar.elem {α : Type} {K : Bs} {w : World} {sz : Nat} {v : Value} {l : List α} {f : α → List Value} (h : Ar K w sz v l f) (hsz : 0 < sz) :
    ∃ a cap, v = .slice a l.length cap ∧ l.length ≤ cap ∧ cap ≤ maxLen ∧ ∀ k (hk : k < l.length), ∃ b o, a = some ⟨b, o, none⟩ ∧ K b ∧
      ∀ j (c : Value), (f l[k])[j]? = some c → w.cell? ⟨b, o + k * sz + j, none⟩ = some c := by
  rcases h.parts hsz with ⟨rfl, a, cap, hv, hc, _⟩ | ⟨h0, b, o, cap, hv, hb, h1, h2, hc⟩
  · exact ⟨a, cap, hv, Nat.zero_le _, hc, fun k hk => by simp at hk⟩
  · exact ⟨_, cap, hv, h1, h2, fun k hk => ⟨b, o, rfl, hb, fun j c hj => hc k hk j c hj⟩⟩

theorem ItemsAt.elem {K : Bs} {w : World} {v : Value} {l : List ItemD} (h : ItemsAt K w v l) :
    ∃ a cap, v = .slice a l.length cap ∧ l.length ≤ cap ∧ cap ≤ maxLen ∧ ∀ k (hk : k < l.length), ∃ b o, a = some ⟨b, o, none⟩ ∧ K b ∧
      w.cell? ⟨b, o + k * 3, none⟩ = some (.int .i64 l[k].kind) ∧ w.cell? ⟨b, o + k * 3 + 1, none⟩ = some (.int .u64 (l[k].a : Int)) ∧ w.cell? ⟨b, o + k * 3 + 2, none⟩ = some (.int .u64 (l[k].b : Int)) ∧
      (-9223372036854775808 ≤ l[k].kind ∧ l[k].kind ≤ 9223372036854775807) ∧ l[k].a < 18446744073709551616 ∧ l[k].b < 18446744073709551616 := by
  obtain ⟨a, cap, hv, h1, h2, h3⟩ := h.1.elem (by decide)
  refine ⟨a, cap, hv, h1, h2, fun k hk => ?_⟩
  obtain ⟨b, o, ha, hb, hc⟩ := h3 k hk
  exact ⟨b, o, ha, hb, hc 0 _ rfl, hc 1 _ rfl, hc 2 _ rfl, h.2 _ (List.getElem_mem hk)⟩

theorem AttrsAt.elem {K : Bs} {w : World} {v : Value} {al : List AttrD} (h : AttrsAt K w v al) :
    ∃ a cap, v = .slice a al.length cap ∧ al.length ≤ cap ∧ cap ≤ maxLen ∧ ∀ k (hk : k < al.length), ∃ b o da dc la lc, a = some ⟨b, o, none⟩ ∧ K b ∧
      w.cell? ⟨b, o + k * 5, none⟩ = some (.int .u32 (al[k].attr : Int)) ∧ w.cell? ⟨b, o + k * 5 + 1, none⟩ = some (.int .u32 (al[k].form : Int)) ∧ w.cell? ⟨b, o + k * 5 + 2, none⟩ = some (.int .u64 (al[k].n : Int)) ∧
      w.cell? ⟨b, o + k * 5 + 3, none⟩ = some (.slice da al[k].data.length dc) ∧ w.cell? ⟨b, o + k * 5 + 4, none⟩ = some (.slice la al[k].list.length lc) ∧
      al[k].attr < 4294967296 ∧ al[k].form < 4294967296 ∧ al[k].n < 18446744073709551616 ∧ Rd K w (.slice da al[k].data.length dc) al[k].data ∧ ItemsAt K w (.slice la al[k].list.length lc) al[k].list := by
  obtain ⟨ps, rfl, har, hok⟩ := h
  obtain ⟨a, cap, hv, h1, h2, h3⟩ := har.elem (by decide)
  refine ⟨a, cap, by rw [List.length_map]; exact hv, by rw [List.length_map]; exact h1, h2, fun k hk0 => ?_⟩
  have hk : k < ps.length := by simpa using hk0
  obtain ⟨b, o, ha, hb, hc⟩ := h3 k hk
  obtain ⟨o1, o2, o3, o4, o5⟩ := hok ps[k] (List.getElem_mem hk)
  obtain ⟨da, dc, hd, _⟩ := o4.1.2
  obtain ⟨la, lc, hl, _⟩ := o5.elem
  simp only [List.getElem_map]
  have c3 := hc 3 _ rfl
  have c4 := hc 4 _ rfl
  rw [hd] at c3 o4
  rw [hl] at c4 o5
  exact ⟨b, o, da, dc, la, lc, ha, hb, hc 0 _ rfl, hc 1 _ rfl, hc 2 _ rfl, c3, c4, o1, o2, o3, o4, o5⟩

/-- a node: its two slices, and what is within it -/
theorem NodeAt.elem {d : Nat} {K : Bs} {w : World} {p : NodeV} (h : NodeAt (d + 1) K w p) :
    ∃ a cap ka kc, p.2.1 = .slice a p.1.attrs.length cap ∧ p.2.2 = .slice ka p.1.kids.length kc ∧ p.1.kids.length ≤ kc ∧ kc ≤ maxLen ∧ p.1.tag < 4294967296 ∧ AttrsAt K w (.slice a p.1.attrs.length cap) p.1.attrs ∧
      ∀ k (hk : k < p.1.kids.length), ∃ b o a' cap' ka' kc', ka = some ⟨b, o, none⟩ ∧ K b ∧
        w.cell? ⟨b, o + k * 4, none⟩ = some (.int .u32 (p.1.kids[k].tag : Int)) ∧ w.cell? ⟨b, o + k * 4 + 1, none⟩ = some (.slice a' p.1.kids[k].attrs.length cap') ∧
        w.cell? ⟨b, o + k * 4 + 2, none⟩ = some (.bool p.1.kids[k].opn) ∧ w.cell? ⟨b, o + k * 4 + 3, none⟩ = some (.slice ka' p.1.kids[k].kids.length kc') ∧
        NodeAt d K w (p.1.kids[k], .slice a' p.1.kids[k].attrs.length cap', .slice ka' p.1.kids[k].kids.length kc') := by
  obtain ⟨nd, av, kv⟩ := p
  obtain ⟨h1, h2, ps, h3, h4, h5⟩ := h
  obtain ⟨a, cap, ha, _⟩ := h2.elem
  obtain ⟨ka, kc, hk, hk1, hk2, hk3⟩ := h4.elem (by decide)
  dsimp only at *
  subst ha
  have hl : ps.length = nd.kids.length := by rw [← h3]; simp
  refine ⟨a, cap, ka, kc, rfl, by rw [hk, hl], by omega, hk2, h1, h2, fun k hk' => ?_⟩
  obtain ⟨b, o, hka, hb, hc⟩ := hk3 k (by omega)
  have hn := h5 ps[k] (List.getElem_mem _)
  have e : ps[k].1 = nd.kids[k] := by simp [← h3]
  cases d with
  | zero => exact hn.elim
  | succ d =>
  obtain ⟨n1, n2, qs, n3, n4, n5⟩ := hn
  obtain ⟨a', cap', ha', _⟩ := n2.elem
  obtain ⟨ka', kc', hk'', _⟩ := n4.elem (by decide)
  have hl' : qs.length = nd.kids[k].kids.length := by rw [← e, ← n3]; simp
  have c0 := hc 0 _ rfl
  have c1 := hc 1 _ rfl
  have c2 := hc 2 _ rfl
  have c3 := hc 3 _ rfl
  rw [e] at c0 c2 n1 n2 ha' n3
  rw [ha'] at c1 n2
  rw [hk'', hl'] at c3
  rw [hk'', hl'] at n4
  exact ⟨b, o, a', cap', ka', kc', hka, hb, c0, c1, c2, c3, n1, n2, qs, n3, n4, n5⟩

end Go.Proofs.YtklcoppfkfenfaaGreatDoor
