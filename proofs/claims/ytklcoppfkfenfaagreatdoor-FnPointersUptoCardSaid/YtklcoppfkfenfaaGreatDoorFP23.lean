/-
  Plain words: a unit as it is read.
-/
import Derived.Test.YtklcoppfkfenfaaGreatDoorFP19
import Derived.Test.YtklcoppfkfenfaaGreatDoorFP22
set_option linter.all false
set_option linter.unusedVariables false
set_option linter.unusedSimpArgs false
namespace Go.Proofs.YtklcoppfkfenfaaGreatDoor

/-- a unit as it is read -/
structure URD where
  version : Nat
  wide : Bool
  asize : Nat
  aoff : Nat
  abs : List AbD
  ps : List PieceD
def URD.body (big : Bool) (r : URD) : List Nat := num r.version 2 big ++ (num r.aoff (wordF r.wide) big ++ ([r.asize] ++ piecesB r.ps))
def URD.bytes (big : Bool) (r : URD) : List Nat := lenB (r.body big).length r.wide big ++ r.body big
/-- how long its head is -/
def URD.hd (r : URD) : Nat := (if r.wide then 12 else 4) + (2 + (wordF r.wide + 1))
theorem URD.bytes_length (big : Bool) (r : URD) : (r.bytes big).length = r.hd + (piecesB r.ps).length := by
  simp only [URD.bytes, URD.body, URD.hd, List.length_append, lenB_length, num_length, List.length_cons, List.length_nil]; omega
def URD.env (big : Bool) (str : List Nat) (r : URD) : EnvD := { big := big, wide := r.wide, asize := r.asize, version := r.version, str := str, addr := [], addrBase := 0, rng := [], rngBase := 0 }
/-- a unit at a place is right -/
structure UROk (big : Bool) (abv str : List Nat) (off : Nat) (r : URD) : Prop where
  version : 2 ≤ r.version ∧ r.version ≤ 4
  asize : r.asize = 4 ∨ r.asize = 8
  tab : ∃ pre rest, abv = pre ++ (tabB r.abs 1 ++ 0 :: rest) ∧ pre.length = r.aoff
  abs : ∀ ab ∈ r.abs, AbOk ab ∧ (∀ p ∈ ab.fields, (p.2 ≠ 27 ∧ p.2 ≠ 35 ∧ p.2 ≠ 22) ∧ p.1 ≠ 1) ∧ ab.fields.length ≤ 1000
  absl : r.abs.length ≤ 1000000
  ps : PiecesOk (r.env big str) r.abs (off + r.hd) r.ps
  codes : ∀ p ∈ r.ps, p.code < 4294967296
  ne : r.ps ≠ []
def URsOk (big : Bool) (abv str : List Nat) : Nat → List URD → Prop
  | _, [] => True
  | off, r :: rs => UROk big abv str off r ∧ URsOk big abv str (off + (r.bytes big).length) rs
theorem URsOk.append {big : Bool} {abv str : List Nat} : ∀ {off : Nat} {a b : List URD}, URsOk big abv str off a → URsOk big abv str (off + (a.flatMap (URD.bytes big)).length) b → URsOk big abv str off (a ++ b)
  | _, [], _, _, h => by simpa using h
  | off, r :: a, b, h, k => ⟨h.1, URsOk.append h.2 (by rw [List.flatMap_cons, List.length_append] at k; rwa [Nat.add_assoc])⟩
end Go.Proofs.YtklcoppfkfenfaaGreatDoor
