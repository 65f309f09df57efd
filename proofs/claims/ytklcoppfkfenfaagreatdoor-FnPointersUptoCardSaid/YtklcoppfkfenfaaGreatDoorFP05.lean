/-
  Plain functions: what the writer of the package spec makes of units. Nothing of the program stands here. How a writer lies in memory: its block, the rows that it owns, what these point to. Walks: the writer's values.
-/
import Derived.Test.YtklcoppfkfenfaaGreatDoorFP02
import Derived.Test.YtklcoppfkfenfaaGreatDoorFP04
set_option linter.all false
set_option linter.unusedVariables false
set_option linter.unusedSimpArgs false
namespace Go.Proofs.YtklcoppfkfenfaaGreatDoor

/-- a field of an entry as it is read, and an entry -/
structure FieldD where
  attr : Nat
  cls : Int
  kind : Int
  n : Nat
  data : List Nat
structure EntryD where
  off : Nat
  tag : Nat
  children : Bool
  fields : List FieldD

/-- the state of a writer -/
structure WSt where
  big : Bool
  abv : List Nat
  ranges : List Nat
  str : List Nat
  info : List Nat
  rngs : List Nat
  strs : List Nat
  addrs : List Nat
  offsets : List Nat
  units : List Nat
  places : List Nat
  due : List EntryD
  lists : List (List Nat)
  base : Nat
  strBase : Nat
  adBase : Nat
  liBase : Nat

def classF (attr form : Nat) (version : Int) : Int :=
  if form = 1 ∨ 0 ≤ addrxF form then 1 else
  if form = 8 ∨ form = 14 ∨ 0 ≤ strxF form then 12 else
  if form = 10 ∧ (attr = 56 ∨ attr = 11) then 4 else
  if form = 10 then 2 else
  if form = 12 then 5 else
  if form = 23 then pointerF attr else
  if form = 32 then 11 else
  if form = 35 then 17 else
  if refF form then 10 else
  if version < 4 ∧ pointerF attr ≠ 0 then pointerF attr else 3

/-- an item of a list of ranges: bytes, and the table of addresses behind it -/
def itemB (version : Int) (size : Nat) (big : Bool) (it : ItemD) (places : List Nat) : List Nat × List Nat :=
  if version < 5 ∧ it.kind = 1 then (num (if size = 4 then 4294967295 else 18446744073709551615) size big ++ num it.a size big, places) else
  if version < 5 then (num it.a size big ++ num it.b size big, places) else
  if it.kind = 0 then ([4] ++ (uleb it.a ++ uleb it.b), places) else
  if it.kind = 1 then ([5] ++ num it.a size big, places) else
  if it.kind = 2 then ([6] ++ (num it.a size big ++ num it.b size big), places) else
  if it.kind = 3 then ([7] ++ (num it.a size big ++ uleb it.b), places) else
  if it.kind = 4 then ([1] ++ uleb places.length, places ++ [it.a]) else
  if it.kind = 5 then ([2] ++ (uleb places.length ++ uleb (places.length + 1)), places ++ [it.a] ++ [it.b]) else
  ([3] ++ (uleb places.length ++ uleb it.b), places ++ [it.a])
def itemsB (version : Int) (size : Nat) (big : Bool) : List ItemD → List Nat × List Nat → List Nat × List Nat
  | [], p => p
  | it :: its, p => let r := itemB version size big it p.2; itemsB version size big its (p.1 ++ r.1, r.2)
def listB (version : Int) (size : Nat) (big : Bool) (its : List ItemD) (places : List Nat) : List Nat × List Nat :=
  let r := itemsB version size big its ([], places)
  (if version < 5 then r.1 ++ (num 0 size big ++ num 0 size big) else r.1 ++ [0], r.2)

/-- a value: its bytes, its kind, number and data as it is read, and the writer behind it -/
structure ValR where
  bytes : List Nat
  kind : Int
  n : Nat
  data : List Nat
  st : WSt
def rangesF (version : Int) (wide : Bool) (address : Nat) (a : AttrD) (st : WSt) : ValR :=
  let r := listB version address st.big a.list st.places
  let size := (fixedF version wide address a.form).toNat
  if version < 5 then
    { bytes := num st.ranges.length size st.big, kind := 1, n := st.ranges.length, data := [], st := { st with ranges := st.ranges ++ r.1, places := r.2 } }
  else
    let at_ := st.liBase + st.lists.flatten.length
    let st' := { st with lists := st.lists ++ [r.1], places := r.2 }
    if a.form = 35 then { bytes := uleb st.lists.length, kind := 2, n := at_, data := [], st := st' }
    else { bytes := num at_ size st.big, kind := 1, n := at_, data := [], st := st' }
/-- a number of 64 bits with its sign -/
def sgn (n : Nat) : Int := if n < 9223372036854775808 then (n : Int) else (n : Int) - 18446744073709551616
def isRangesF (a : AttrD) : Bool := a.attr = 85 && (a.form = 35 || a.form = 23 || a.form = 6)
def valueF (version : Int) (wide : Bool) (address : Nat) (a : AttrD) (st : WSt) : ValR :=
  let size := (fixedF version wide address a.form).toNat
  if isRangesF a then rangesF version wide address a st else
  if a.form = 27 then { bytes := uleb st.places.length, kind := 2, n := cutF a.n address, data := [], st := { st with places := st.places ++ [cutF a.n address] } } else
  if a.form = 1 then { bytes := num (cutF a.n size) size st.big, kind := 2, n := cutF a.n size, data := [], st := st } else
  if a.form = 8 then { bytes := a.data ++ [0], kind := 6, n := 0, data := a.data, st := st } else
  if a.form = 14 then { bytes := num st.str.length size st.big, kind := 6, n := 0, data := a.data, st := { st with str := st.str ++ (a.data ++ [0]) } } else
  if a.form = 13 then { bytes := sleb (sgn a.n), kind := 1, n := a.n, data := [], st := st } else
  if a.form = 15 then { bytes := uleb a.n, kind := 1, n := a.n, data := [], st := st } else
  { bytes := num (cutF a.n size) size st.big, kind := 1, n := cutF a.n size, data := [], st := st }

/-- the number of a shape among some -/
def codeF (l : List (List Nat)) (s : List Nat) : Nat := match l with
  | [] => 0
  | x :: l => if x = s then 1 else if codeF l s = 0 then 0 else codeF l s + 1

/-- the attributes of a node, one behind the other -/
def attrsF (version : Int) (wide : Bool) (address : Nat) : List AttrD → WSt × List FieldD → WSt × List FieldD
  | [], p => p
  | a :: al, p =>
    let r := valueF version wide address a p.1
    attrsF version wide address al ({ r.st with info := p.1.info ++ r.bytes }, p.2 ++ [{ attr := a.attr, cls := classF a.attr a.form version, kind := r.kind, n := r.n, data := r.data }])
/-- the beginning of a node, its attributes, and what is due of it -/
def headF (version : Int) (wide : Bool) (address : Nat) (l : List (List Nat)) (nd : NodeD) (st : WSt) : WSt :=
  let r := attrsF version wide address nd.attrs ({ st with offsets := st.offsets ++ [st.info.length % 4294967296], info := st.info ++ uleb (codeF l (shapeB nd)) }, [])
  { r.1 with due := r.1.due ++ [{ off := st.info.length % 4294967296, tag := nd.tag, children := childF nd, fields := r.2 }] }
def tailF (nd : NodeD) (st : WSt) : WSt :=
  if childF nd then { st with info := st.info ++ [0], due := st.due ++ [{ off := 0, tag := 0, children := false, fields := [] }] } else st
mutual
def nodeF (version : Int) (wide : Bool) (address : Nat) (l : List (List Nat)) : NodeD → WSt → WSt
  | .mk t al o kids, st => tailF (.mk t al o kids) (kidsF version wide address l kids (headF version wide address l (.mk t al o kids) st))
def kidsF (version : Int) (wide : Bool) (address : Nat) (l : List (List Nat)) : List NodeD → WSt → WSt
  | [], st => st
  | k :: ks, st => kidsF version wide address l ks (nodeF version wide address l k st)
end

/-- how many texts, addresses and lists there are in tables -/
def countA (al : List AttrD) : Nat × Nat × Nat := al.foldl (fun p a =>
  (if 0 ≤ strxF a.form then p.1 + 1 else p.1,
   (a.list.foldl (fun m x => if x.kind = 4 ∨ x.kind = 6 then m + 1 else if x.kind = 5 then m + 2 else m) (if 0 ≤ addrxF a.form then p.2.1 + 1 else p.2.1)),
   if a.attr = 85 ∧ (a.form = 35 ∨ a.form = 23) then p.2.2 + 1 else p.2.2)) (0, 0, 0)
mutual
def countF : NodeD → Nat × Nat × Nat
  | .mk _ al _ kids => let a := countA al; let k := countL kids; (a.1 + k.1, a.2.1 + k.2.1, a.2.2 + k.2.2)
def countL : List NodeD → Nat × Nat × Nat
  | [] => (0, 0, 0)
  | k :: ks => let a := countF k; let r := countL ks; (a.1 + r.1, a.2.1 + r.2.1, a.2.2 + r.2.2)
end

def numA (attr n : Nat) : AttrD := { attr := attr, form := 23, n := n, data := [], list := [] }
/-- a unit whose first entry tells where its tables are -/
def basesF (u : UnitD) (st : WSt) : List AttrD :=
  let head := if u.wide then 12 else 4
  let c := countF u.root
  (if 0 < c.1 then [numA 114 (st.strs.length + head + 4)] else []) ++ (if 0 < c.2.1 then [numA 115 (st.addrs.length + head + 4)] else []) ++ (if 0 < c.2.2 then [numA 116 (st.rngs.length + head + 8)] else [])
def basedU (u : UnitD) (st : WSt) : UnitD :=
  if u.version < 5 then u else
  { u with root := match u.root with | .mk t al o kids => .mk t (if u.late then al ++ basesF u st else basesF u st ++ al) o kids }
def basedS (u : UnitD) (st : WSt) : WSt :=
  if u.version < 5 then st else
  let head := if u.wide then 12 else 4
  { st with strBase := st.strs.length + head + 4, adBase := st.addrs.length + head + 4, liBase := st.rngs.length + head + 8 + (countF u.root).2.2 * wordF u.wide }

def putF (wide big : Bool) (sec head body : List Nat) : List Nat :=
  let b := num 5 2 big ++ (head ++ body)
  sec ++ (lenB b.length wide big ++ b)
def listHeads (word : Nat) (big : Bool) : List (List Nat) → Nat → List Nat
  | [], _ => []
  | l :: ls, at_ => num at_ word big ++ listHeads word big ls (at_ + l.length)
def tablesF (u : UnitD) (st : WSt) : WSt :=
  let st1 := if 0 < st.places.length then { st with addrs := putF u.wide st.big st.addrs [u.address.toNat, 0] (st.places.flatMap fun n => num n u.address.toNat st.big) } else st
  let st2 := if 0 < st.lists.length then { st1 with rngs := putF u.wide st.big st.rngs ([u.address.toNat, 0] ++ num st.lists.length 4 st.big) (listHeads (wordF u.wide) st.big st.lists (st.lists.length * wordF u.wide) ++ st.lists.flatten) } else st1
  { st2 with places := [], lists := [] }

def abbrevB (l : List (List Nat)) (k : Nat) : List Nat := match l with
  | [] => []
  | s :: l => uleb k ++ (s ++ abbrevB l (k + 1))
/-- a unit -/
def unitF (u0 : UnitD) (st0 : WSt) : WSt :=
  let u := basedU u0 st0
  let st := basedS u0 st0
  let l := shapesF u.root []
  let st1 := { st with abv := st.abv ++ (abbrevB l 1 ++ [0]), base := st.info.length % 4294967296 }
  let head := if 5 ≤ u.version then num u.version.toNat 2 st.big ++ ([1, u.address.toNat % 256] ++ num st.abv.length (wordF u.wide) st.big) else num u.version.toNat 2 st.big ++ (num st.abv.length (wordF u.wide) st.big ++ [u.address.toNat % 256])
  let st2 := { st1 with info := st.info ++ (lenB 0 u.wide st.big ++ head), units := st.units ++ [(st.info ++ (lenB 0 u.wide st.big ++ head)).length % 4294967296] }
  let st3 := nodeF u.version u.wide u.address.toNat l u.root st2
  let body := st3.info.drop (st.info.length + (lenB 0 u.wide st.big).length)
  tablesF u { st3 with info := st.info ++ (lenB body.length u.wide st.big ++ body) }
def allF (us : List UnitD) (st : WSt) : WSt := us.foldl (fun st u => unitF u st) st
def startW (big : Bool) : WSt := { big := big, abv := [], ranges := [], str := [], info := [], rngs := [], strs := [], addrs := [], offsets := [], units := [], places := [], due := [], lists := [], base := 0, strBase := 0, adBase := 0, liBase := 0 }

end Go.Proofs.YtklcoppfkfenfaaGreatDoor
namespace Go.Proofs.YtklcoppfkfenfaaGreatDoor
set_option maxRecDepth 100000
open Go Go.RowKit

theorem Own.keep {w w' : World} {base : Nat} {v : Value} {l : List Nat} {S : Bs} (h : Own w base v l) (hf : Frame S w w') (hs : ∀ k, v.ownBlock = some k → ¬ S k) : Own w' base v l :=
  ⟨ownsRow_keep h.1 fun k hk => hf.block k (h.1.lt k hk).2 (hs k hk), h.2⟩
/-- a row that is owned -/
structure RowD where
  v : Value
  e : TypeId
  sz : Nat
  n : Nat
  xs : List Value
def RowD.ok (r : RowD) (w : World) (base : Nat) : Prop := w.ownsRow base r.e r.sz r.v r.n r.xs
/-- rows that are owned, each in a block of its own, none in block B -/
structure RowsOk (w : World) (base B : Nat) (rs : List RowD) : Prop where
  own : ∀ r ∈ rs, r.ok w base
  apart : rs.Pairwise fun a b => ∀ k, a.v.ownBlock = some k → b.v.ownBlock = some k → False
  notB : ∀ r ∈ rs, r.v.ownBlock ≠ some B
/-- the blocks of a writer -/
def SW (B : Nat) (rs : List RowD) : Bs := fun k => k = B ∨ ∃ r ∈ rs, r.v.ownBlock = some k

theorem RowsOk.lt {w : World} {base B : Nat} {rs : List RowD} (h : RowsOk w base B rs) {r : RowD} (hr : r ∈ rs) : ∀ k, r.v.ownBlock = some k → base ≤ k ∧ k < w.heap.size := (h.own r hr).lt

theorem RowsOk.keep {w w' : World} {base B : Nat} {rs : List RowD} {S : Bs} (h : RowsOk w base B rs) (hf : Frame S w w') (hs : ∀ r ∈ rs, ∀ k, r.v.ownBlock = some k → ¬ S k) : RowsOk w' base B rs :=
  ⟨fun r hr => ownsRow_keep (h.own r hr) fun k hk => hf.block k (h.lt hr k hk).2 (hs r hr k hk), h.apart, h.notB⟩

/-- one row is written, or laid anew -/
theorem RowsOk.swap {w w' : World} {base B : Nat} {l1 l2 : List RowD} {r r' : RowD} (h : RowsOk w base B (l1 ++ r :: l2)) (hf : Frame (fun k => r.v.ownBlock = some k) w w') (hm : Moved w r.v r'.v)
    (ho : r'.ok w' base) (hB : B < w.heap.size) : RowsOk w' base B (l1 ++ r' :: l2) := by
  have hap := h.apart
  rw [List.pairwise_append] at hap
  obtain ⟨p1, p2, p3⟩ := hap
  rw [List.pairwise_cons] at p2
  obtain ⟨p4, p5⟩ := p2
  refine ⟨fun x hx => ?_, ?_, fun x hx => ?_⟩
  · rcases List.mem_append.1 hx with hx | hx
    · exact ownsRow_keep (h.own x (by simp [hx])) fun k hk => hf.block k (h.lt (by simp [hx]) k hk).2 (fun e => p3 x hx r (by simp) k hk e)
    · rcases List.mem_cons.1 hx with rfl | hx
      · exact ho
      · exact ownsRow_keep (h.own x (by simp [hx])) fun k hk => hf.block k (h.lt (by simp [hx]) k hk).2 (fun e => p4 x hx k e hk)
  · rw [List.pairwise_append, List.pairwise_cons]
    refine ⟨p1, ⟨fun x hx k e1 e2 => ?_, p5⟩, fun x hx y hy k e1 e2 => ?_⟩
    · rcases hm.or k e1 with e | e
      · exact p4 x hx k e e2
      · have := (h.lt (r := x) (by simp [hx]) k e2).2; omega
    · rcases List.mem_cons.1 hy with rfl | hy
      · rcases hm.or k e2 with e | e
        · exact p3 x hx r (by simp) k e1 e
        · have := (h.lt (r := x) (by simp [hx]) k e1).2; omega
      · exact p3 x hx y (by simp [hy]) k e1 e2
  · rcases List.mem_append.1 hx with hx | hx
    · exact h.notB x (by simp [hx])
    · rcases List.mem_cons.1 hx with rfl | hx
      · intro e
        rcases hm.or B e with e | e
        · exact h.notB r (by simp) e
        · omega
      · exact h.notB x (by simp [hx])
theorem SW.swap {w : World} {B : Nat} {l1 l2 : List RowD} {r r' : RowD} (hm : Moved w r.v r'.v) : ∀ k, SW B (l1 ++ r' :: l2) k → SW B (l1 ++ r :: l2) k ∨ w.heap.size ≤ k := by
  rintro k (rfl | ⟨x, hx, hk⟩)
  · exact .inl (.inl rfl)
  · rcases List.mem_append.1 hx with hx | hx
    · exact .inl (.inr ⟨x, by simp [hx], hk⟩)
    · rcases List.mem_cons.1 hx with rfl | hx
      · exact (hm.or k hk).imp (fun e => .inr ⟨r, by simp, e⟩) id
      · exact .inl (.inr ⟨x, by simp [hx], hk⟩)

def uv (l : List Nat) : List Value := l.map fun (n : Nat) => .int .u32 (n : Int)
def qv (l : List Nat) : List Value := l.map fun (n : Nat) => .int .u64 (n : Int)

def fieldC (p : FieldD × Value) : List Value := [.int .u32 (p.1.attr : Int), .int .i64 p.1.cls, .int .i64 p.1.kind, .int .u64 (p.1.n : Int), p.2]
def FieldsAt (K : Bs) (w : World) (v : Value) (fs : List FieldD) : Prop :=
  ∃ ps : List (FieldD × Value), ps.map Prod.fst = fs ∧ Ar K w 5 v ps fieldC ∧ ∀ p ∈ ps, Rd K w p.2 p.1.data
theorem FieldsAt.keep {K : Bs} {w w' : World} {v : Value} {l : List FieldD} (h : FieldsAt K w v l) (hs : Same K w w') : FieldsAt K w' v l := by
  obtain ⟨ps, h1, h2, h3⟩ := h
  exact ⟨ps, h1, h2.keep hs, fun p hp => (h3 p hp).keep hs⟩
theorem FieldsAt.mono {K K' : Bs} {w : World} {v : Value} {l : List FieldD} (h : FieldsAt K w v l) (hs : ∀ k, K k → K' k) : FieldsAt K' w v l := by
  obtain ⟨ps, h1, h2, h3⟩ := h
  exact ⟨ps, h1, h2.mono hs, fun p hp => (h3 p hp).mono hs⟩

def entC (p : EntryD × Value) : List Value := [.int .u32 (p.1.off : Int), .int .u32 (p.1.tag : Int), .bool p.1.children, p.2]

/-- the values of a writer's fields -/
structure WV where
  abv : Value
  ranges : Value
  str : Value
  info : Value
  rngs : Value
  strs : Value
  addrs : Value
  offsets : Value
  units : Value
  places : Value
  due : Value
  lists : Value
  known : Value
  es : List (EntryD × Value)
  ls : List (List Nat × Value)
  /-- the blocks that its rows may point to -/
  D : Bs

abbrev nilS : Value := .slice none 0 0
/-- the cells of a writer -/
abbrev WV.cells (V : WV) (st : WSt) : Array Value :=
  #[.bool st.big, V.abv, nilS, V.ranges, V.str, nilS, nilS, V.info, V.rngs, V.strs, V.addrs, V.offsets, V.known, V.due, V.units, .int .u32 (st.base : Int), nilS, V.places, V.lists,
    .int .u64 (st.strBase : Int), .int .u64 (st.adBase : Int), .int .u64 (st.liBase : Int)]
/-- the rows of a writer -/
abbrev rowB (v : Value) (l : List Nat) : RowD := ⟨v, 5, 1, l.length, bv l⟩
abbrev WV.rows (V : WV) (st : WSt) : List RowD :=
  [rowB V.abv st.abv, rowB V.ranges st.ranges, rowB V.str st.str, rowB V.info st.info, rowB V.rngs st.rngs, rowB V.strs st.strs, rowB V.addrs st.addrs,
   ⟨V.offsets, 24, 1, st.offsets.length, uv st.offsets⟩, ⟨V.units, 24, 1, st.units.length, uv st.units⟩, ⟨V.places, 29, 1, st.places.length, qv st.places⟩,
   ⟨V.due, 96, 4, V.es.length, V.es.flatMap entC⟩, ⟨V.lists, 34, 1, V.ls.length, V.ls.map Prod.snd⟩]
abbrev WV.S (V : WV) (st : WSt) (B : Nat) : Bs := SW B (V.rows st)

structure WSt.ok (st : WSt) : Prop where
  abv : IsBytes st.abv
  ranges : IsBytes st.ranges
  str : IsBytes st.str
  info : IsBytes st.info
  rngs : IsBytes st.rngs
  strs : IsBytes st.strs
  addrs : IsBytes st.addrs
  offsets : ∀ x ∈ st.offsets, x < 4294967296
  units : ∀ x ∈ st.units, x < 4294967296
  places : ∀ x ∈ st.places, x < 18446744073709551616

/-- a writer in memory -/
structure Wr (w : World) (base B : Nat) (V : WV) (st : WSt) : Prop where
  hb : base ≤ B
  cells : w.heap[B]? = some (.cells (V.cells st) 82 (0, 0))
  rows : RowsOk w base B (V.rows st)
  ok : st.ok
  due : V.es.map Prod.fst = st.due
  dueAt : ∀ p ∈ V.es, FieldsAt V.D w p.2 p.1.fields
  lists : V.ls.map Prod.fst = st.lists
  listsAt : ∀ p ∈ V.ls, Rd V.D w p.2 p.1
  hD : ∀ k, V.D k → k < w.heap.size ∧ ¬ V.S st B k

theorem Wr.lt {w : World} {base B : Nat} {V : WV} {st : WSt} (h : Wr w base B V st) : B < w.heap.size := (Array.getElem?_eq_some_iff.1 h.cells).1
theorem Wr.S_lt {w : World} {base B : Nat} {V : WV} {st : WSt} (h : Wr w base B V st) : ∀ k, V.S st B k → base ≤ k ∧ k < w.heap.size := by
  rintro k (rfl | ⟨r, hr, hk⟩)
  · exact ⟨h.hb, h.lt⟩
  · exact h.rows.lt hr k hk

theorem heap_setCell_row {w : World} {B i : Nat} {cs : Array Value} {T : TypeId} {fr : Nat × Nat} (h : w.heap[B]? = some (.cells cs T fr)) (u : Value) :
    (w.setCell ⟨B, i, none⟩ u).heap[B]? = some (.cells (cs.setIfInBounds i u) T fr) := by
  simp only [World.setCell, Array.getElem?_modify, if_true, h]
  rfl

/-- what lies beside a writer may turn -/
theorem Wr.keep {w w' : World} {base B : Nat} {V : WV} {st : WSt} {T : Bs} (h : Wr w base B V st) (hf : Frame T w w') (hT : ∀ k, T k → k < w.heap.size → ¬ V.S st B k ∧ ¬ V.D k) : Wr w' base B V st := by
  have hsame : Same V.D w w' := hf.same fun k hk => ⟨(h.hD k hk).1, fun e => (hT k e (h.hD k hk).1).2 hk⟩
  refine ⟨h.hb, ?_, h.rows.keep hf fun r hr k hk e => ?_, h.ok, h.due, fun p hp => (h.dueAt p hp).keep hsame, h.lists, fun p hp => (h.listsAt p hp).keep hsame, fun k hk => ⟨by have := (h.hD k hk).1; have := hf.size; omega, (h.hD k hk).2⟩⟩
  · rw [hf.block B h.lt fun e => (hT B e h.lt).1 (.inl rfl)]; exact h.cells
  · exact (hT k e (h.rows.lt hr k hk).2).1 (.inr ⟨r, hr, hk⟩)
theorem Wr.keep0 {w w' : World} {base B : Nat} {V : WV} {st : WSt} (h : Wr w base B V st) (hf : Frame no w w') : Wr w' base B V st := h.keep hf (fun _ h => h.elim)

/-- a cell of the writer -/
theorem Wr.cell {w : World} {base B : Nat} {V : WV} {st : WSt} (h : Wr w base B V st) (i : Nat) : w.cell? ⟨B, i, none⟩ = (V.cells st)[i]? := cell_of_row w B i _ _ _ h.cells
theorem Wr.frozen {w : World} {base B : Nat} {V : WV} {st : WSt} (h : Wr w base B V st) (i : Nat) : w.frozen? ⟨B, i, none⟩ = false := by
  simp [World.frozen?, h.cells]

/-- from one writer's state to another: what has turned is the writer's, or new -/
structure WrTo (base B : Nat) (w : World) (V : WV) (st : WSt) (w' : World) (V' : WV) (st' : WSt) : Prop where
  wr : Wr w' base B V' st'
  frame : Frame (V.S st B) w w'
  more : ∀ k, V'.S st' B k → V.S st B k ∨ w.heap.size ≤ k
  moreD : ∀ k, V'.D k → V.D k ∨ w.heap.size ≤ k
  lessD : ∀ k, V.D k → V'.D k
theorem WrTo.refl {base B : Nat} {w : World} {V : WV} {st : WSt} (h : Wr w base B V st) : WrTo base B w V st w V st := ⟨h, Frame.refl _ _, fun _ h => .inl h, fun _ h => .inl h, fun _ h => h⟩
theorem WrTo.trans {base B : Nat} {w w1 w2 : World} {V V1 V2 : WV} {st st1 st2 : WSt} (h : WrTo base B w V st w1 V1 st1) (k : WrTo base B w1 V1 st1 w2 V2 st2) : WrTo base B w V st w2 V2 st2 :=
  ⟨k.wr, h.frame.trans k.frame h.more, fun i hi => (k.more i hi).elim (h.more i) fun e => .inr (Nat.le_trans h.frame.size e),
   fun i hi => (k.moreD i hi).elim (h.moreD i) fun e => .inr (Nat.le_trans h.frame.size e), fun i hi => k.lessD i (h.lessD i hi)⟩
/-- what is new since the beginning, and is not the writer's, may turn -/
theorem WrTo.step {base B : Nat} {w w1 w2 : World} {V V1 : WV} {st st1 : WSt} {T : Bs} (h : WrTo base B w V st w1 V1 st1) (hf : Frame T w1 w2) (hT : ∀ k, T k → k < w1.heap.size → w.heap.size ≤ k ∧ ¬ V1.S st1 B k ∧ ¬ V1.D k) : WrTo base B w V st w2 V1 st1 :=
  ⟨h.wr.keep hf fun k h1 h2 => (hT k h1 h2).2,
   h.frame.trans hf (fun k hk => by
     rcases Nat.lt_or_ge k w1.heap.size with h1 | h1
     · exact .inr (hT k hk h1).1
     · exact .inr (Nat.le_trans h.frame.size h1)), h.more, h.moreD, h.lessD⟩
theorem WrTo.step0 {base B : Nat} {w w1 w2 : World} {V V1 : WV} {st st1 : WSt} (h : WrTo base B w V st w1 V1 st1) (hf : Frame no w1 w2) : WrTo base B w V st w2 V1 st1 :=
  h.step hf fun _ h => h.elim
/-- what lies in K stays, K apart from the writer -/
theorem WrTo.same {base B : Nat} {w w' : World} {V V' : WV} {st st' : WSt} (h : WrTo base B w V st w' V' st') {K : Bs} (hK : ∀ k, K k → k < w.heap.size ∧ ¬ V.S st B k) : Same K w w' := h.frame.same hK
theorem WrTo.apart {base B : Nat} {w w' : World} {V V' : WV} {st st' : WSt} (h : WrTo base B w V st w' V' st') {k : Nat} (hk : k < w.heap.size) (hn : ¬ V.S st B k ∧ ¬ V.D k) : ¬ V'.S st' B k ∧ ¬ V'.D k :=
  ⟨fun e => (h.more k e).elim hn.1 fun e => by omega, fun e => (h.moreD k e).elim hn.2 fun e => by omega⟩
/-- what is the writer's, or it points to, was there or is new -/
theorem WrTo.new {base B : Nat} {w w' : World} {V V' : WV} {st st' : WSt} (h : WrTo base B w V st w' V' st') {k : Nat} (hk : w'.heap.size ≤ k) : ¬ V'.S st' B k ∧ ¬ V'.D k :=
  ⟨fun e => by have := (h.wr.S_lt k e).2; omega, fun e => by have := (h.wr.hD k e).1; omega⟩

theorem WV.S_swap {B : Nat} {V V' : WV} {st st' : WSt} {l1 l2 : List RowD} {r r' : RowD} (hr : V.rows st = l1 ++ r :: l2) (hr' : V'.rows st' = l1 ++ r' :: l2) : ∀ k, V'.S st' B k → V.S st B k ∨ r'.v.ownBlock = some k := by
  intro k hk
  unfold WV.S at hk ⊢
  rw [hr'] at hk; rw [hr]
  rcases hk with rfl | ⟨x, hx, hk⟩
  · exact .inl (.inl rfl)
  · rcases List.mem_append.1 hx with hx | hx
    · exact .inl (.inr ⟨x, by simp [hx], hk⟩)
    · rcases List.mem_cons.1 hx with rfl | hx
      · exact .inr hk
      · exact .inl (.inr ⟨x, by simp [hx], hk⟩)

/-- one row and its field are turned -/
theorem Wr.upd {w w1 : World} {base B i : Nat} {V V' : WV} {st st' : WSt} (h : Wr w base B V st) {l1 l2 : List RowD} {r r' : RowD} (hr : V.rows st = l1 ++ r :: l2) (hr' : V'.rows st' = l1 ++ r' :: l2)
    (hc : V'.cells st' = (V.cells st).setIfInBounds i r'.v) (hf : Frame (fun k => r.v.ownBlock = some k) w w1) (hm : Moved w r.v r'.v) (ho : r'.ok w1 base) (hok : st'.ok)
    (hdue : V'.es.map Prod.fst = st'.due) (hde : ∀ p ∈ V'.es, p ∈ V.es ∨ FieldsAt V'.D w1 p.2 p.1.fields)
    (hls : V'.ls.map Prod.fst = st'.lists) (hle : ∀ p ∈ V'.ls, p ∈ V.ls ∨ Rd V'.D w1 p.2 p.1)
    (hD1 : ∀ k, V.D k → V'.D k) (hD2 : ∀ k, V'.D k → V.D k ∨ (w.heap.size ≤ k ∧ k < w1.heap.size ∧ r'.v.ownBlock ≠ some k)) :
    WrTo base B w V st (w1.setCell ⟨B, i, none⟩ r'.v) V' st' := by
  have hB := h.lt
  have hrows := h.rows
  rw [hr] at hrows
  have hrB : ∀ k, r.v.ownBlock = some k → k ≠ B := fun k hk e => hrows.notB r (by simp) (e ▸ hk)
  have hsw := hrows.swap (r' := r') hf hm ho hB
  have hmore : ∀ k, V'.S st' B k → V.S st B k ∨ w.heap.size ≤ k := by
    intro k hk
    unfold WV.S at hk ⊢
    rw [hr'] at hk; rw [hr]
    exact SW.swap hm k hk
  have hfB : Frame (fun k => k = B) w1 (w1.setCell ⟨B, i, none⟩ r'.v) := (Frame.refl (fun k => k = B) w1).setCell (p := ⟨B, i, none⟩) (.inl rfl) _
  have hfr : Frame (V.S st B) w (w1.setCell ⟨B, i, none⟩ r'.v) :=
    (hf.mono (S' := V.S st B) fun k hk => .inl (.inr ⟨r, by rw [hr]; simp, hk⟩)).trans hfB fun k hk => .inl (.inl hk)
  have hb1 : w1.heap[B]? = some (.cells (V.cells st) 82 (0, 0)) := by rw [hf.block B hB fun e => hrB B e rfl]; exact h.cells
  have hs : Same V.D w (w1.setCell ⟨B, i, none⟩ r'.v) := hfr.same fun k hk => h.hD k hk
  have hDn : ∀ k, V'.D k → k < (w1.setCell ⟨B, i, none⟩ r'.v).heap.size ∧ ¬ V'.S st' B k := fun k hk => by
    rcases hD2 k hk with h1 | ⟨h1, h2, h3⟩
    · exact ⟨by have := (h.hD k h1).1; have := hfr.size; omega, fun e => (hmore k e).elim (h.hD k h1).2 fun e => by have := (h.hD k h1).1; omega⟩
    · refine ⟨by have := hfB.size; omega, ?_⟩
      rintro (rfl | ⟨x, hx, hxk⟩)
      · omega
      · rw [hr'] at hx
        rcases List.mem_append.1 hx with hx | hx
        · have := (hrows.lt (r := x) (by simp [hx]) k hxk).2; omega
        · rcases List.mem_cons.1 hx with rfl | hx
          · exact h3 hxk
          · have := (hrows.lt (r := x) (by simp [hx]) k hxk).2; omega
  have hs1 : Same V'.D w1 (w1.setCell ⟨B, i, none⟩ r'.v) := fun k hk => Below.heap_setCell _ _ _ _ fun e => (hDn k hk).2 (.inl e)
  refine ⟨⟨h.hb, ?_, ?_, hok, hdue, fun p hp => ?_, hls, fun p hp => ?_, hDn⟩, hfr, hmore, fun k hk => (hD2 k hk).imp id fun e => e.1, hD1⟩
  · rw [heap_setCell_row hb1, hc]
  · rw [hr']; exact hsw.keep hfB fun x hx k hk e => hsw.notB x hx (e ▸ hk)
  · exact (hde p hp).elim (fun hp => ((h.dueAt p hp).keep hs).mono hD1) fun hf => hf.keep hs1
  · exact (hle p hp).elim (fun hp => ((h.listsAt p hp).keep hs).mono hD1) fun hf => hf.keep hs1

end Go.Proofs.YtklcoppfkfenfaaGreatDoor
namespace Go.Proofs.YtklcoppfkfenfaaGreatDoor
set_option maxRecDepth 100000
open Go Go.RowKit

set_option maxHeartbeats 1000000 in
theorem numClo_any (kind : Int) (n size : Nat) (big : Bool) (sb bb B : Nat) (w : World) (hn : n < 18446744073709551616) (hs : size ≤ 8)
    (h1 : w.cell? ⟨sb, 0, none⟩ = some (.int .i64 size)) (h2 : w.cell? ⟨bb, 0, none⟩ = some (.pointer (some ⟨B, 0, none⟩))) (h3 : w.cell? ⟨B, 0, none⟩ = some (.bool big)) :
    Calls Tryz.prog 110 #[.int .i64 kind, .int .u64 n, .pointer (some ⟨sb, 0, none⟩), .pointer (some ⟨bb, 0, none⟩)] w fun e w' =>
      ∃ a m c, e = .returned (.tuple #[.slice a m c, .agg #[.int .i64 kind, .int .u64 n, .slice none 0 0]]) ∧ Own w' w.heap.size (.slice a m c) (num n size big) ∧ Frame no w w' := by
  have e1 := cell_alloc h1 (.cells #[.int .i64 0, .int .u64 0, .slice none 0 0] 99)
  have e2 := cell_alloc h2 (.cells #[.int .i64 0, .int .u64 0, .slice none 0 0] 99)
  have e3 := cell_alloc h3 (.cells #[.int .i64 0, .int .u64 0, .slice none 0 0] 99)
  have z0 : (w.alloc (.cells #[.int .i64 0, .int .u64 0, .slice none 0 0] 99)).drew.cell? ⟨w.heap.size, 0, none⟩ = some (.int .i64 0) := cell_new _ _ _ _
  have z1 : (w.alloc (.cells #[.int .i64 0, .int .u64 0, .slice none 0 0] 99)).drew.cell? ⟨w.heap.size, 1, none⟩ = some (.int .u64 0) := cell_new _ _ _ _
  have z2 : (w.alloc (.cells #[.int .i64 0, .int .u64 0, .slice none 0 0] 99)).drew.cell? ⟨w.heap.size, 2, none⟩ = some (.slice none 0 0) := cell_new _ _ _ _
  have f0 : (w.alloc (.cells #[.int .i64 0, .int .u64 0, .slice none 0 0] 99)).drew.frozen? ⟨w.heap.size, 0, none⟩ = false := frozen_new _ _ _ _
  have f1 : (w.alloc (.cells #[.int .i64 0, .int .u64 0, .slice none 0 0] 99)).drew.frozen? ⟨w.heap.size, 1, none⟩ = false := frozen_new _ _ _ _
  have f2 : (w.alloc (.cells #[.int .i64 0, .int .u64 0, .slice none 0 0] 99)).drew.frozen? ⟨w.heap.size, 2, none⟩ = false := frozen_new _ _ _ _
  have d1 : sb ≠ w.heap.size := Nat.ne_of_lt (cell_lt h1)
  have d2 : bb ≠ w.heap.size := Nat.ne_of_lt (cell_lt h2)
  have d3 : B ≠ w.heap.size := Nat.ne_of_lt (cell_lt h3)
  go_enter Tryz.func110, Tryz.ntmps110
  go_wp2_with fail
  go_region_held3 (fun w' => w'.cell? ⟨sb, 0, none⟩ = some (.int .i64 size) ∧ w'.cell? ⟨bb, 0, none⟩ = some (.pointer (some ⟨B, 0, none⟩)) ∧ w'.cell? ⟨B, 0, none⟩ = some (.bool big))
    (first | exact ⟨cell_set (cell_set (cell_set (hf.cell e1 id) d1 _) d1 _) d1 _, cell_set (cell_set (cell_set (hf.cell e2 id) d2 _) d2 _) d2 _, cell_set (cell_set (cell_set (hf.cell e3 id) d3 _) d3 _) d3 _⟩ | exact ⟨hf.cell e1 id, hf.cell e2 id, hf.cell e3 id⟩ | exact ⟨e1, e2, e3⟩)
    (first
      | (go_at_call 64
         ((with_reducible refine (number_any n size big _ hn hs).mono ?_); rintro e w3 ⟨a3, n3, c3, rfl, ho, hf⟩)
         have q0 := hf.cell z0 id
         have q1 := hf.cell z1 id
         have q2 := hf.cell z2 id
         have r0 := (hf.frozen z0 id).trans f0
         have r1 := (hf.frozen z1 id).trans f1
         have r2 := (hf.frozen z2 id).trans f2))
  have hsz := hf.size
  simp at hsz
  go_wp2_with fail
  refine bodyPost_ret (v := .tuple #[.slice a3 n3 c3, .agg #[.int .i64 kind, .int .u64 n, .slice none 0 0]]) ?_ rfl ?_
  · simp [results, Tryz.results110, go_sem, q0, q1, q2]
  · have hne : ∀ k, (Value.slice a3 n3 c3).ownBlock = some k → ¬ k = w.heap.size := fun k hk e => by have := (own_lt ho k hk).1; simp at this; omega
    refine ⟨a3, n3, c3, rfl, ?_, ?_⟩
    · refine (ho.keep (S := fun k => k = w.heap.size) ?_ hne).mono_base (by simp)
      exact (((Frame.refl (fun k => k = w.heap.size) w3).set (.inl rfl) _).set (.inl rfl) _).set (.inl rfl) _
    · exact ((((((Frame.refl no w).alloc _).drew).trans hf (fun _ h => h.elim)).set (.inr (Nat.le_refl _)) _).set (.inr (Nat.le_refl _)) _).set (.inr (Nat.le_refl _)) _

theorem indexed0_any (n : Nat) (p : Value) (w : World) (h : n < 9223372036854775808) :
    Calls Tryz.prog 112 #[p, .int .i64 n, .int .i64 0] w (Fresh (uleb n) w) := by
  go_enter Tryz.func112, Tryz.ntmps112
  go_wp2_with fail
  (with_reducible refine (unsigned_any n _ (by omega)).mono ?_)
  rintro e w' ⟨va, vn, vc, rfl, ho, hf⟩
  go_wp2_with fail
  go_ret
  exact fresh_mk ho hf
theorem info29 : (Tryz.prog.info? 29).map (fun i => (i.zero, i.size, i.bytes)) = some (some (.int .u64 0), 1, 8) := by kernel_rfl
theorem underlying64 : Tryz.prog.underlying 64 = some (.slice 29) := by kernel_rfl

end Go.Proofs.YtklcoppfkfenfaaGreatDoor
