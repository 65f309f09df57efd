/-
  Plain law: the first bytes of a unit. The reader: a section with a name is added.
-/
import Derived.Test.YtklcoppfkfenfaaGreatDoorFP23
import Derived.Test.YtklcoppfkfenfaaGreatDoorFP33
set_option linter.all false
set_option linter.unusedVariables false
set_option linter.unusedSimpArgs false
namespace Go.Proofs.YtklcoppfkfenfaaGreatDoor

def vOff (r : URD) : Nat := if r.wide then 12 else 4
theorem numV (v : Nat) (hv : v < 256) (big : Bool) : num v 2 big = if big then [0, v] else [v, 0] := by
  cases big <;> simp [num, byteAt, List.range_succ] <;> omega
theorem unit_head (big : Bool) (r : URD) (rest : List Nat) (hv : r.version < 256) (hb : (r.body big).length < 4294967280) :
    vOff r + 2 ≤ (r.bytes big ++ rest).length ∧ 6 ≤ (r.bytes big ++ rest).length ∧ (r.wide = true → 14 ≤ (r.bytes big ++ rest).length) ∧
    (r.bytes big ++ rest)[vOff r]? = some (if big then 0 else r.version) ∧ (r.bytes big ++ rest)[vOff r + 1]? = some (if big then r.version else 0) ∧
    ∃ a b c d, (r.bytes big ++ rest)[0]? = some a ∧ (r.bytes big ++ rest)[1]? = some b ∧ (r.bytes big ++ rest)[2]? = some c ∧ (r.bytes big ++ rest)[3]? = some d ∧
      ((r.wide = true ∧ a = 255 ∧ b = 255 ∧ c = 255 ∧ d = 255) ∨ (r.wide = false ∧ ¬ (a = 255 ∧ b = 255 ∧ c = 255 ∧ d = 255))) := by
  have hl := r.bytes_length big
  have hbody : r.body big = num r.version 2 big ++ (num r.aoff (wordF r.wide) big ++ ([r.asize] ++ piecesB r.ps)) := rfl
  generalize hn : (r.body big).length = n at *
  have hbytes : r.bytes big = lenB n r.wide big ++ r.body big := by unfold URD.bytes; rw [hn]
  have h2 := numV r.version hv big
  unfold vOff
  unfold URD.hd wordF at hl
  cases hw : r.wide with
  | true =>
    rw [hw] at hl hbytes
    simp only [if_true] at hl ⊢
    have e : r.bytes big ++ rest = [255, 255, 255, 255] ++ num n 8 big ++ (num r.version 2 big ++ (num r.aoff (wordF r.wide) big ++ ([r.asize] ++ piecesB r.ps) ++ rest)) := by
      rw [hbytes, hbody]; simp [lenB]
    have hlen : ([255, 255, 255, 255] ++ num n 8 big).length = 12 := by simp
    have g0 : (r.bytes big ++ rest)[12]? = (num r.version 2 big)[0]? := by
      rw [e, List.getElem?_append_right (by omega), hlen, List.getElem?_append_left (by simp)]
    have g1 : (r.bytes big ++ rest)[13]? = (num r.version 2 big)[1]? := by
      rw [e, List.getElem?_append_right (by omega), hlen, List.getElem?_append_left (by simp)]
    refine ⟨by rw [List.length_append]; omega, by rw [List.length_append]; omega, fun _ => by rw [List.length_append]; omega, ?_, ?_, 255, 255, 255, 255, ?_, ?_, ?_, ?_, .inl ⟨trivial, rfl, rfl, rfl, rfl⟩⟩
    · rw [g0, h2]; cases big <;> rfl
    · rw [g1, h2]; cases big <;> rfl
    · rw [e]; rfl
    · rw [e]; rfl
    · rw [e]; rfl
    · rw [e]; rfl
  | false =>
    rw [hw] at hl hbytes
    simp only [Bool.false_eq_true, if_false] at hl ⊢
    have e : r.bytes big ++ rest = num n 4 big ++ (num r.version 2 big ++ (num r.aoff (wordF r.wide) big ++ ([r.asize] ++ piecesB r.ps) ++ rest)) := by
      rw [hbytes, hbody]; simp [lenB]
    have hlen : (num n 4 big).length = 4 := by simp
    have g0 : (r.bytes big ++ rest)[4]? = (num r.version 2 big)[0]? := by
      rw [e, List.getElem?_append_right (by omega), hlen, List.getElem?_append_left (by simp)]
    have g1 : (r.bytes big ++ rest)[5]? = (num r.version 2 big)[1]? := by
      rw [e, List.getElem?_append_right (by omega), hlen, List.getElem?_append_left (by simp)]
    have gi : ∀ i, i < 4 → (r.bytes big ++ rest)[i]? = some (byteAt n (if big then 3 - i else i)) := fun i hi => by
      rw [e, List.getElem?_append_left (by simp; omega)]
      simp [num, hi]
    refine ⟨by rw [List.length_append]; omega, by rw [List.length_append]; omega, fun h => (by cases h), ?_, ?_, _, _, _, _, gi 0 (by omega), gi 1 (by omega), gi 2 (by omega), gi 3 (by omega), .inr ⟨trivial, ?_⟩⟩
    · rw [g0, h2]; cases big <;> rfl
    · rw [g1, h2]; cases big <;> rfl
    · cases big <;> simp [byteAt] <;> omega
end Go.Proofs.YtklcoppfkfenfaaGreatDoor
namespace Go.Proofs.YtklcoppfkfenfaaGreatDoor
set_option maxRecDepth 100000
open Go Go.RowKit

def nmOffs : ByteArray := ByteArray.mk #[46, 100, 101, 98, 117, 103, 95, 115, 116, 114, 95, 111, 102, 102, 115, 101, 116, 115]
def nmAddr : ByteArray := ByteArray.mk #[46, 100, 101, 98, 117, 103, 95, 97, 100, 100, 114]
def nmRngs : ByteArray := ByteArray.mk #[46, 100, 101, 98, 117, 103, 95, 114, 110, 103, 108, 105, 115, 116, 115]

theorem addSection_any (D : Nat) (cs : Array Value) (nm : ByteArray) (a : Option Addr) (n cap : Nat) (w : World) (hb : w.heap[D]? = some (.cells cs 149)) (hc : cs.size = 18) (hnm : nm = nmOffs ∨ nm = nmAddr ∨ nm = nmRngs) :
    Calls Tryz.prog 44 #[.pointer (some ⟨D, 0, none⟩), .string nm, .slice a n cap] w fun e w' => e = .returned .nilIface ∧ ∃ i, (i = 8 ∨ i = 10 ∨ i = 11) ∧ w' = w.setCell ⟨D, i, none⟩ (.slice a n cap) := by
  have hfz : ∀ i, w.frozen? ⟨D, i, none⟩ = false := fun i => by simp [World.frozen?, hb]
  have hcell : ∀ i, i < 18 → ∃ v, w.cell? ⟨D, i, none⟩ = some v := fun i hi => ⟨cs[i], by rw [cell_of_row _ _ _ _ _ _ hb, Array.getElem?_eq_getElem (by omega)]⟩
  obtain ⟨v8, c8⟩ := hcell 8 (by decide)
  obtain ⟨v10, c10⟩ := hcell 10 (by decide)
  obtain ⟨v11, c11⟩ := hcell 11 (by decide)
  have f8 := hfz 8; have f10 := hfz 10; have f11 := hfz 11
  clear hfz hcell hb hc
  rcases hnm with rfl | rfl | rfl
  · unfold nmOffs
    go_enter Tryz.func44, Tryz.ntmps44
    go_wp2_with fail
    go_ret
    exact ⟨rfl, 10, .inr (.inl rfl), rfl⟩
  · unfold nmAddr
    go_enter Tryz.func44, Tryz.ntmps44
    go_wp2_with fail
    go_ret
    exact ⟨rfl, 8, .inl rfl, rfl⟩
  · unfold nmRngs
    go_enter Tryz.func44, Tryz.ntmps44
    go_wp2_with fail
    go_ret
    exact ⟨rfl, 11, .inr (.inr rfl), rfl⟩

/-- what the data points to lies beside its own block -/
def OutD (w : World) (D R : Nat) (KX : Bs) (str : List Nat) (us : List UV) : Prop :=
  ∃ KY : Bs, (∀ k, KY k → KX k ∧ k ≠ D) ∧ (∃ sa sn sc, w.cell? ⟨D, 7, none⟩ = some (.slice sa sn sc) ∧ Rd KY w (.slice sa sn sc) str) ∧ (∀ u ∈ us, Rd KY w u.dv (piecesB u.r.ps) ∧ (∃ n, TabAt KY w u.M n (u.r.version : Int) u.r.abs) ∧ u.M ≠ D) ∧ R ≠ D
theorem OutD.keep {w w' : World} {D R : Nat} {KX S : Bs} {big : Bool} {str : List Nat} {us : List UV} (h : OutD w D R KX str us) (hd : DatAt w D R KX big str us) (hf : Frame S w w') (hS : ∀ k, KX k → ¬ S k) : OutD w' D R KX str us := by
  obtain ⟨KY, h1, ⟨sa, sn, sc, h2, h3⟩, h4, h5⟩ := h
  have hs : Same KY w w' := hf.same fun k hk => ⟨hd.lt k (h1 k hk).1, hS k (h1 k hk).1⟩
  refine ⟨KY, h1, ⟨sa, sn, sc, hf.cell h2 (hS D hd.hD), h3.keep hs⟩, fun u hu => ?_, h5⟩
  obtain ⟨q1, ⟨n, q2⟩, q3⟩ := h4 u hu
  have hM := (hd.each u hu).2.2
  exact ⟨q1.keep hs, ⟨n, q2.keep hs (hf.block _ (hd.lt _ hM) (hS _ hM))⟩, q3⟩
theorem DatAt.setD {w : World} {D R : Nat} {KX : Bs} {big : Bool} {str : List Nat} {us : List UV} {cs : Array Value} (h : DatAt w D R KX big str us) (hb : w.heap[D]? = some (.cells cs 149)) (hy : OutD w D R KX str us) (i : Nat) (hi : i = 8 ∨ i = 10 ∨ i = 11) (v : Value) :
    DatAt (w.setCell ⟨D, i, none⟩ v) D R KX big str us ∧ OutD (w.setCell ⟨D, i, none⟩ v) D R KX str us := by
  obtain ⟨KY, hKY, ⟨sa, sn, sc, h1, h2⟩, heach, hRD⟩ := hy
  have hs : Same KY w (w.setCell ⟨D, i, none⟩ v) := fun k hk => Below.heap_setCell _ _ _ _ (hKY k hk).2
  have hb' := heap_setCell_row hb (i := i) v
  have hc : ∀ t, t ≠ i → (w.setCell ⟨D, i, none⟩ v).cell? ⟨D, t, none⟩ = w.cell? ⟨D, t, none⟩ := fun t ht => by
    rw [cell_of_row _ _ _ _ _ _ hb', cell_of_row _ _ _ _ _ _ hb, Array.getElem?_setIfInBounds_ne (Ne.symm ht)]
  have hsz : (w.setCell ⟨D, i, none⟩ v).heap.size = w.heap.size := by simp [World.setCell]
  have he : ∀ u ∈ us, Rd KY (w.setCell ⟨D, i, none⟩ v) u.dv (piecesB u.r.ps) ∧ (∃ n, TabAt KY (w.setCell ⟨D, i, none⟩ v) u.M n (u.r.version : Int) u.r.abs) ∧ u.M ≠ D := fun u hu => by
    obtain ⟨q1, ⟨n, q2⟩, q3⟩ := heach u hu
    exact ⟨q1.keep hs, ⟨n, q2.keep hs (Below.heap_setCell _ _ _ _ q3)⟩, q3⟩
  have h7 := (hc 7 (by omega)).trans h1
  refine ⟨⟨h.hD, h.hR, (hc 17 (by omega)).trans h.units, (Below.heap_setCell _ _ _ _ hRD).trans h.row, ⟨sa, sn, sc, h7, (h2.keep hs).mono fun k hk => (hKY k hk).1⟩, (hc 14 (by omega)).trans h.order, fun u hu => ?_, fun k hk => by rw [hsz]; exact h.lt k hk, h.ne⟩,
    ⟨KY, hKY, ⟨sa, sn, sc, h7, h2.keep hs⟩, he, hRD⟩⟩
  obtain ⟨q1, ⟨n, q2⟩, _⟩ := he u hu
  exact ⟨q1.mono fun k hk => (hKY k hk).1, ⟨n, q2.mono fun k hk => (hKY k hk).1⟩, (h.each u hu).2.2⟩
end Go.Proofs.YtklcoppfkfenfaaGreatDoor
