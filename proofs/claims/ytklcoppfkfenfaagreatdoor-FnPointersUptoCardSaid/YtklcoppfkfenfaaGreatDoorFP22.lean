/-
  The reader: texts out of a buffer; a new buffer. The reader: what a buffer asks of its unit; an address out of a buffer. Maps with whole numbers as keys, whatever their elements are; the table of classes. The reader: the class of a form. Words for the reader's tables of abbreviations: rows of structs that are filled one after the other, abbreviations in bytes and in memory.
-/
import Derived.Test.YtklcoppfkfenfaaGreatDoorFP21
import Derived.Lib.BytesEntry
import Derived.Laws.BytesArg
import Derived.Test.YtklcoppfkfenfaaGreatDoorFP05
import Derived.Maps.OwnSet
import Derived.Test.YtklcoppfkfenfaaGreatDoorFP02
import Derived.Test.YtklcoppfkfenfaaGreatDoorFP19
import Derived.Laws.MakeOwn
set_option linter.all false
set_option linter.unusedVariables false
set_option linter.unusedSimpArgs false
namespace Go.Proofs.YtklcoppfkfenfaaGreatDoor
set_option maxRecDepth 100000
open Go Go.RowKit

/-- a text of bytes -/
def strB (l : List Nat) : ByteArray := strOfNums (l.map fun (n : Nat) => (n : Int))
theorem strB_size (l : List Nat) : (strB l).size = l.length := by rw [strB, strOfNums_size, List.length_map]

theorem ul9 : Tryz.prog.underlying 9 = some .string := by kernel_rfl
theorem ul5 : Tryz.prog.underlying 5 = some (.int .u8) := by kernel_rfl
theorem conv34 {K : Bs} {w : World} {a : Option Addr} {n cap : Nat} {l : List Nat} (h : Rd K w (.slice a n cap) l) : (convert 34 9 (.slice a n cap)).run Tryz.prog w = .ok (.string (strB l)) w := by
  obtain ⟨⟨hl, a', c', he, h1, h2, h3, hc⟩, hb⟩ := h
  simp only [Value.slice.injEq] at he
  obtain ⟨rfl, rfl, rfl⟩ := he
  cases a with
  | none =>
    have h0 : l = [] := List.eq_nil_of_length_eq_zero (by have := h3 rfl; omega)
    subst h0
    rw [run_convert_bytes_nil w 34 5 underlying34 ul5 _ _ 9 ul9]
    rfl
  | some ad =>
    rcases Nat.eq_zero_or_pos l.length with h0 | h0
    · have h0' : l = [] := List.eq_nil_of_length_eq_zero h0
      subst h0'
      rw [run_convert_bytes_string w 34 9 5 (some ad) _ _ underlying34 ul5 ul9, run_bytesToString w ad _ _ [] (by simp [loadCells, loadCellsFrom])]
      rfl
    · obtain ⟨b, o, ha, _, _⟩ := hc 0 (by simpa using h0)
      simp only [Option.some.injEq] at ha
      subst ha
      refine run_convert_bytes_arg w 34 5 underlying34 ul5 b o l.length cap _ (by simp) (fun i hi => ?_) 9 ul9
      obtain ⟨b', o', ha', _, hcell⟩ := hc i (by simpa using hi)
      simp only [Option.some.injEq, Addr.mk.injEq, and_true] at ha'
      obtain ⟨rfl, rfl⟩ := ha'
      rw [hcell, bv_get]
      rw [List.getD_eq_getElem?_getD, List.getElem?_map, List.getElem?_eq_getElem hi]; rfl

theorem indexByte_zero : ∀ (d l : List Nat), (∀ x ∈ d, x ≠ 0 ∧ x < 256) → Lib.indexByte (Lib.bytesOf ((d ++ 0 :: l).map fun (n : Nat) => (n : Int))) 0 = (d.length : Int)
  | [], l, _ => by simp [Lib.bytesOf, Lib.indexByte]
  | x :: d, l, h => by
    have ih := indexByte_zero d l fun y hy => h y (by simp [hy])
    have hx := h x (by simp)
    simp only [List.cons_append, List.map_cons, Lib.bytesOf, Lib.indexByte, List.length_cons] at ih ⊢
    have h1 : (UInt8.ofNat ((x : Int).toNat) == 0) = false := by
      rw [Int.toNat_natCast]
      simp only [beq_eq_false_iff_ne, ne_eq]
      intro e
      have := congrArg UInt8.toNat e
      simp at this
      omega
    rw [h1]
    simp only [Bool.false_eq_true, if_false]
    rw [ih]
    have h2 : ((d.length : Int) == -1) = false := by rw [beq_eq_false_iff_ne]; omega
    rw [h2]
    rfl

theorem indexByte_any {K : Bs} {w : World} {b o n cap : Nat} {d l : List Nat} (h : Rd K w (.slice (some ⟨b, o, none⟩) n cap) (d ++ 0 :: l)) (hd : ∀ x ∈ d, x ≠ 0 ∧ x < 256) :
    Calls Tryz.prog 106 #[.slice (some ⟨b, o, none⟩) n cap, .int .u8 0] w fun e w' => e = .returned (.int .i64 (d.length : Int)) ∧ w = w' := by
  obtain ⟨b', o', ha, hn, _, _, hc⟩ := rd_cell h (by rw [List.length_append, List.length_cons]; omega)
  simp only [Option.some.injEq, Addr.mk.injEq, and_true] at ha
  obtain ⟨rfl, rfl⟩ := ha
  have hrun := Lib.run_indexByteSlice (P := Tryz.prog) w b o n cap ((d ++ 0 :: l).map fun (n : Nat) => (n : Int)) (by rw [hn]; simp) (fun i hi => by
    rw [(hc i (by omega)).1]
    rw [hn] at hi
    rw [List.getD_eq_getElem?_getD, List.getElem?_map, List.getElem?_eq_getElem hi]; rfl) 0
  have e0 : Int.toNat 0 = 0 := rfl
  rw [e0, show ((0 : Nat).toUInt8) = (0 : UInt8) from rfl, indexByte_zero d l hd] at hrun
  have HR := Lib.hid hrun; have HN := Lib.hid hn; clear hrun hc hn
  go_enter Tryz.func106, Tryz.ntmps106
  go_wp2
  rw [run_callFunc_extern Tryz.func118 (by kernel_rfl) (by kernel_rfl) (by kernel_rfl) (e := Extern.BytealgIndexByte.indexByte) (by kernel_rfl), HR.out]
  simp only [Result.andThen]
  rw [Oper.upon_value]
  go_wp2
  go_ret
  exact ⟨rfl, rfl⟩

theorem Rd.pre {K : Bs} {w : World} {a : Option Addr} {n cap : Nat} {d l : List Nat} (h : Rd K w (.slice a n cap) (d ++ l)) : Rd K w (.slice a d.length cap) d := by
  obtain ⟨⟨hl, a', c', he, h1, h2, h3, hc⟩, hb⟩ := h
  simp only [Value.slice.injEq] at he
  obtain ⟨rfl, hn, rfl⟩ := he
  rw [List.length_append] at h1
  refine ⟨⟨by simp, a, cap, rfl, by omega, h2, h3, fun j hj => ?_⟩, fun x hx => hb x (by simp [hx])⟩
  have hj' : j < d.length := by simpa using hj
  obtain ⟨b, o, ha, hb, hcell⟩ := hc j (by rw [bv_length, List.length_append]; omega)
  refine ⟨b, o, ha, hb, ?_⟩
  rw [hcell, bv_get, bv_get]
  rw [List.getElem_append_left hj']

theorem string_any (B : Nat) (K : Bs) (c : BufK) (off : Nat) (d l : List Nat) (w : World) (h : Buf w B K c off (d ++ 0 :: l)) (hd : ∀ x ∈ d, x ≠ 0 ∧ x < 256) :
    Calls Tryz.prog 78 #[.pointer (some ⟨B, 0, none⟩)] w (Got B K c (off + (d.length + 1)) l w (.string (strB d))) := by
  obtain ⟨a, n, cap, h1, hr⟩ := h.ex
  obtain ⟨c0, c1, c2, c4, c5, c6, f4, f5⟩ := buf_cells h1
  obtain ⟨b, o, rfl, hn, hnc, hcm, _⟩ := rd_cell hr (by rw [List.length_append, List.length_cons]; omega)
  have hlt := h.lt
  rw [List.length_append, List.length_cons] at hn hlt
  have hrd := hr.pre
  obtain ⟨a2, n2, c2', hsl2, hrd2, hn2⟩ := cut_lo hr (z := (d.length : Int) + 1) (d.length + 1) (by rfl) (by rw [List.length_append, List.length_cons]; omega)
  have e2 : (d ++ 0 :: l).drop (d.length + 1) = l := by rw [← List.drop_drop, List.drop_left]; rfl
  rw [e2] at hrd2
  have hconv := conv34 hrd
  have H1 := Lib.hid h1; have HR := Lib.hid hr; have HR2 := Lib.hid hrd2; have HNB := Lib.hid h.apart
  have hsl2' := hsl2 .i64
  have hw : IntKind.u32.wrap ((d.length : Int) + 1) = (d.length : Int) + 1 := by rw [IntKind.wrap_u32]; omega
  have hn1 : d.length + 1 ≤ n := by omega
  have hdc : d.length ≤ cap := by omega
  clear h1 hr hrd hrd2 hsl2 hn2 h e2 c0 c1 c2 c6 hn
  go_enter Tryz.func78, Tryz.ntmps78
  go_wp2_with fail
  (with_reducible refine (indexByte_any HR.out hd).mono ?_)
  rintro e w' ⟨rfl, rfl⟩
  go_wp2_with fail
  go_ret
  exact ⟨rfl, Buf.move H1.out HNB.out (l' := l) (off' := off + (d.length + 1)) HR2.out (by omega) (by omega)⟩

/-- a new buffer -/
theorem makeBuf_any (D : Nat) (ft : TypeId) (fv : Value) (nm : ByteArray) (z : Int) (a : Option Addr) (n cap : Nat) (big : Bool) (w : World) (hD : w.cell? ⟨D, 14, none⟩ = some (.bool big)) :
    Calls Tryz.prog 53 #[.pointer (some ⟨D, 0, none⟩), .iface ft fv, .string nm, .int .u32 z, .slice a n cap] w fun e w' =>
      e = .returned (.agg #[.pointer (some ⟨D, 0, none⟩), .bool big, .iface ft fv, .string nm, .int .u32 z, .slice a n cap, .nilIface]) ∧ Frame no w w' := by
  have hD' := cell_alloc hD (.cells #[.pointer none, .bool false, .nilIface, .string ⟨#[]⟩, .int .u32 0, .slice none 0 0, .nilIface] 135)
  go_enter Tryz.func53, Tryz.ntmps53
  go_wp2_with fail
  refine bodyPost_ret (v := .agg #[.pointer (some ⟨D, 0, none⟩), .bool big, .iface ft fv, .string nm, .int .u32 z, .slice a n cap, .nilIface]) ?_ rfl ⟨rfl, ?_⟩
  · simp [results, Tryz.results53, go_sem]
  · exact (Frame.refl _ _).alloc _
end Go.Proofs.YtklcoppfkfenfaaGreatDoor
namespace Go.Proofs.YtklcoppfkfenfaaGreatDoor
set_option maxRecDepth 100000
open Go Go.RowKit

theorem meth_addrsize (p : Option Addr) (w : World) : (method 383 138 (.pointer p) "loop.example/pub-g01464/pub/dwarf.addrsize").run Tryz.prog w = .ok (95, .pointer p) w := by kernel_rfl
theorem meth_dwarf64 (p : Option Addr) (w : World) : (method 383 138 (.pointer p) "loop.example/pub-g01464/pub/dwarf.dwarf64").run Tryz.prog w = .ok (150, .pointer p) w := by kernel_rfl
theorem meth_version (p : Option Addr) (w : World) : (method 383 138 (.pointer p) "loop.example/pub-g01464/pub/dwarf.version").run Tryz.prog w = .ok (151, .pointer p) w := by kernel_rfl
theorem addrsize_any (U uo : Nat) (sz : Int) (w : World) (h : w.cell? ⟨U, uo + 5, none⟩ = some (.int .i64 sz)) :
    Calls Tryz.prog 95 #[.pointer (some ⟨U, uo, none⟩)] w fun e w' => e = .returned (.int .i64 sz) ∧ w = w' := by
  go_enter Tryz.func95, Tryz.ntmps95
  go_wp2_with fail
  go_ret
  exact ⟨rfl, rfl⟩
theorem version_any (U uo : Nat) (v : Int) (w : World) (h : w.cell? ⟨U, uo + 6, none⟩ = some (.int .i64 v)) :
    Calls Tryz.prog 151 #[.pointer (some ⟨U, uo, none⟩)] w fun e w' => e = .returned (.int .i64 v) ∧ w = w' := by
  go_enter Tryz.func151, Tryz.ntmps151
  go_wp2_with fail
  go_ret
  exact ⟨rfl, rfl⟩
theorem dwarf64_any (U uo : Nat) (wide : Bool) (w : World) (h : w.cell? ⟨U, uo + 7, none⟩ = some (.bool wide)) :
    Calls Tryz.prog 150 #[.pointer (some ⟨U, uo, none⟩)] w fun e w' => e = .returned (.tuple #[.bool wide, .bool true]) ∧ w = w' := by
  go_enter Tryz.func150, Tryz.ntmps150
  go_wp2_with fail
  go_ret2
  exact ⟨rfl, rfl⟩
theorem addr_any (B U uo : Nat) (K : Bs) (c : BufK) (off n : Nat) (ad : Nat) (l : List Nat) (w : World) (hfmt : c.fmt = .iface 138 (.pointer (some ⟨U, uo, none⟩))) (hsz : w.cell? ⟨U, uo + 5, none⟩ = some (.int .i64 (ad : Int))) (had : ad = 4 ∨ ad = 8)
    (h : Buf w B K c off (num n ad c.big ++ l)) (hn : n < 2 ^ (8 * ad)) :
    Calls Tryz.prog 82 #[.pointer (some ⟨B, 0, none⟩)] w (Got B K c (off + ad) l w (.int .u64 (n : Int))) := by
  obtain ⟨_, _, c2, _⟩ := h.get
  rw [hfmt] at c2
  have HF := Lib.hid hfmt; clear hfmt
  rcases had with rfl | rfl
  · have hn' : n < 4294967296 := hn
    have hw : IntKind.u64.wrap (n : Int) = n := by rw [IntKind.wrap_u64]; omega
    clear hn
    go_enter Tryz.func82, Tryz.ntmps82
    go_wp2_with fail
    rw [meth_addrsize]
    go_wp2_with fail
    (with_reducible refine (addrsize_any U uo _ _ hsz).mono ?_)
    rintro e w' ⟨rfl, rfl⟩
    go_wp2_with fail
    (with_reducible refine (uint32_any B K c off n l w h (by omega)).mono ?_)
    rintro e w1 ⟨rfl, hb, hf⟩
    clear c2 hsz
    go_wp2_with fail
    go_ret
    exact ⟨rfl, hb, hf⟩
  · have hn' : n < 18446744073709551616 := hn
    clear hn
    go_enter Tryz.func82, Tryz.ntmps82
    go_wp2_with fail
    rw [meth_addrsize]
    go_wp2_with fail
    (with_reducible refine (addrsize_any U uo _ _ hsz).mono ?_)
    rintro e w' ⟨rfl, rfl⟩
    go_wp2_with fail
    (with_reducible refine (uint64_any B K c off n l w h (by omega)).mono ?_)
    rintro e w1 ⟨rfl, hb, hf⟩
    clear c2 hsz
    go_wp2_with fail
    go_ret
    exact ⟨rfl, hb, hf⟩
end Go.Proofs.YtklcoppfkfenfaaGreatDoor
namespace Go.Proofs.YtklcoppfkfenfaaGreatDoor
set_option maxRecDepth 100000
open Go Go.RowKit Go.Maps

/-- an element reads as itself -/
abbrev heldR (v : Value) : Option (DataW Value × List MemPlace) := some (.held v, [])
theorem keyLit_int (q : IntKind) (x : Int) : WideAt.IsKeyLit (.int q x) := trivial
/-- block b is a map of at most n entries with keys of kind q: f -/
def MapU (w : World) (k : TypeId) (q : IntKind) (b n : Nat) (f : Nat → Option Value) : Prop :=
  ∃ D : DataW Value, w.ownsMap Tryz.prog k heldR b n D ∧ ∀ x : Nat, (Lit.int q (x : Int)).wf = true → Maps.has D (.int q x) = (f x).isSome ∧ ∀ z, D.atKey (.int q x) (.held z) = .held ((f x).getD z)
theorem MapU.lt {w : World} {k : TypeId} {q : IntKind} {b n : Nat} {f : Nat → Option Value} (h : MapU w k q b n f) : b < w.heap.size := by
  obtain ⟨D, h1, _⟩ := h; exact h1.lt
theorem MapU.keep {w w' : World} {k : TypeId} {q : IntKind} {b n : Nat} {f : Nat → Option Value} (h : MapU w k q b n f) (hs : w'.heap[b]? = w.heap[b]?) : MapU w' k q b n f := by
  obtain ⟨D, ⟨es, clock, hb, r⟩, h2⟩ := h
  exact ⟨D, ⟨es, clock, hs.trans hb, r⟩, h2⟩
theorem MapU.made (w : World) (k : TypeId) (q : IntKind) : MapU (w.alloc (.map #[] 0)) k q w.heap.size 0 fun _ => none :=
  ⟨_, World.ownsMap_made w Tryz.prog k heldR, fun x hx => ⟨by simp [Maps.has], fun z => by simp [DataW.atKey]⟩⟩
theorem MapU.look {w : World} {t k e : TypeId} {q : IntKind} {b n : Nat} {f : Nat → Option Value} (h : MapU w k q b n f) (hk : Tryz.prog.underlying k = some (.int q)) (ht : Tryz.prog.underlying t = some (.map k e)) {z : Value} (hz : (zeroValue e).run Tryz.prog w = .ok z w)
    (x : Nat) (hx : (Lit.int q (x : Int)).wf = true) : (Instr.lookup t (.map (some b)) (.int q x) true).run Tryz.prog w = .ok (.tuple #[(f x).getD z, .bool (f x).isSome]) w := by
  obtain ⟨D, h1, h2⟩ := h
  obtain ⟨v, ps, hrun, hv⟩ := h1.look_ok (int_keyed hk) ht hz (zd := .held z) (zp := []) rfl (keyOf_int_mk hk hx)
  obtain ⟨g1, g2⟩ := h2 x hx
  rw [g1] at hrun
  rw [g2] at hv
  simp only [heldR, Option.some.injEq, Prod.mk.injEq, DataW.held.injEq] at hv
  rw [← hv.1]
  exact hrun
theorem MapU.put {w : World} {t k e : TypeId} {q : IntKind} {b n : Nat} {f : Nat → Option Value} (h : MapU w k q b n f) (hk : Tryz.prog.underlying k = some (.int q)) (ht : Tryz.prog.underlying t = some (.map k e)) (hn : n < maxLen)
    (x : Nat) (hx : (Lit.int q (x : Int)).wf = true) (v : Value) : ∃ w', (Instr.mapUpdate t (.map (some b)) (.int q x) v).run Tryz.prog w = .ok () w' ∧ MapU w' k q b (n + 1) (fun y => if y = x then some v else f y) ∧ Frame (fun i => i = b) w w' := by
  obtain ⟨D, h1, h2⟩ := h
  obtain ⟨w', hrun, h3, h4⟩ := h1.update (int_keyed hk) ht hn (key := .int q x) (val := v) (d := .held v) (ps := []) (keyOf_int_mk hk hx) rfl
  refine ⟨w', hrun, ⟨_, h3, fun y hy => ?_⟩, (Frame.refl (fun i => i = b) w).grown h4 (fun i hi => .inl (by cases hi; rfl))⟩
  obtain ⟨g1, g2⟩ := h2 y hy
  dsimp only
  by_cases hyx : y = x
  · subst hyx
    rw [if_pos rfl]
    exact ⟨by rw [has_put_same h1.isMap (keyLit_int _ _)]; rfl, fun z => by rw [atKey_put_same h1.isMap (keyLit_int _ _)]; rfl⟩
  · rw [if_neg hyx]
    have hne : Lit.int q (y : Int) ≠ .int q (x : Int) := fun e => hyx (by injection e; omega)
    exact ⟨by rw [has_put_other hne]; exact g1, fun z => by rw [atKey_put_other hne]; exact g2 z⟩

/-- the class of an attribute whose value leads into another section, if it has one -/
def ptrF (attr : Nat) : Option Int :=
  if attr = 2 then some 7 else if attr = 16 then some 6 else if attr = 25 then some 7 else if attr = 42 then some 7 else if attr = 44 then some 9 else if attr = 56 then some 7 else
  if attr = 64 then some 7 else if attr = 67 then some 8 else if attr = 70 then some 7 else if attr = 72 then some 7 else if attr = 74 then some 7 else if attr = 77 then some 7 else
  if attr = 85 then some 9 else if attr = 114 then some 19 else if attr = 115 then some 15 else if attr = 116 then some 18 else if attr = 140 then some 7 else none
/-- the table of these classes lies in block b, and the package's variable leads to it -/
structure Laid (w : World) (b : Nat) : Prop where
  var : w.cell? ⟨2, 0, none⟩ = some (.map (some b))
  look : ∀ w' : World, w'.heap[b]? = w.heap[b]? → ∀ x : Nat, x < 4294967296 → (Instr.lookup 242 (.map (some b)) (.int .u32 x) true).run Tryz.prog w' = .ok (.tuple #[.int .i64 ((ptrF x).getD 0), .bool (ptrF x).isSome]) w'
theorem Laid.keep {w w' : World} {b : Nat} {S : Bs} (h : Laid w b) (hf : Frame S w w') (h2 : ¬ S 2) (hb : ¬ S b) (hlt : b < w.heap.size) : Laid w' b :=
  ⟨hf.cell h.var h2, fun w2 he x hx => h.look w2 (he.trans (hf.block b hlt hb)) x hx⟩
end Go.Proofs.YtklcoppfkfenfaaGreatDoor
namespace Go.Proofs.YtklcoppfkfenfaaGreatDoor
set_option maxRecDepth 1000000
open Go Go.RowKit

abbrev FtcC (form attr : Nat) (v cls : Int) (w : World) : Prop :=
  ∀ p : Value, Calls Tryz.prog 80 #[.int .u32 (form : Int), .int .u32 (attr : Int), .int .i64 v, p] w fun e w' => e = .returned (.int .i64 cls) ∧ w = w'

theorem ftc_1 (attr : Nat) (v : Int) (w : World) : FtcC 1 attr v 1 w := by
  intro p
  go_enter Tryz.func80, Tryz.ntmps80
  go_wp2_with fail
  go_ret
  exact ⟨rfl, rfl⟩

theorem ftc_8 (attr : Nat) (v : Int) (w : World) : FtcC 8 attr v 12 w := by
  intro p
  go_enter Tryz.func80, Tryz.ntmps80
  go_wp2_with fail
  go_ret
  exact ⟨rfl, rfl⟩

theorem ftc_14 (attr : Nat) (v : Int) (w : World) : FtcC 14 attr v 12 w := by
  intro p
  go_enter Tryz.func80, Tryz.ntmps80
  go_wp2_with fail
  go_ret
  exact ⟨rfl, rfl⟩

theorem ftc_27 (attr : Nat) (v : Int) (w : World) : FtcC 27 attr v 1 w := by
  intro p
  go_enter Tryz.func80, Tryz.ntmps80
  go_wp2_with fail
  go_ret
  exact ⟨rfl, rfl⟩

theorem ftc_35 (attr : Nat) (v : Int) (w : World) : FtcC 35 attr v 17 w := by
  intro p
  go_enter Tryz.func80, Tryz.ntmps80
  go_wp2_with fail
  go_ret
  exact ⟨rfl, rfl⟩

theorem ftc_5 (attr : Nat) (v : Int) (w : World) (b : Nat) (hL : Laid w b) (ha : attr < 4294967296) : FtcC 5 attr v (if v < 4 then (ptrF attr).getD 3 else 3) w := by
  intro p
  have hv := hL.var
  have hl := hL.look w rfl attr ha
  clear hL
  generalize ptrF attr = o at *
  by_cases h4 : v < 4
  · cases o with
    | none =>
      go_enter Tryz.func80, Tryz.ntmps80
      go_wp2_with fail
      go_ret
      exact ⟨rfl, rfl⟩
    | some c =>
      go_enter Tryz.func80, Tryz.ntmps80
      go_wp2_with fail
      go_ret
      exact ⟨rfl, rfl⟩
  · have h4' : 4 ≤ v := by omega
    cases o with
    | none =>
      go_enter Tryz.func80, Tryz.ntmps80
      go_wp2_with fail
      go_ret
      exact ⟨rfl, rfl⟩
    | some c =>
      go_enter Tryz.func80, Tryz.ntmps80
      go_wp2_with fail
      go_ret
      exact ⟨rfl, rfl⟩

theorem ftc_6 (attr : Nat) (v : Int) (w : World) (b : Nat) (hL : Laid w b) (ha : attr < 4294967296) : FtcC 6 attr v (if v < 4 then (ptrF attr).getD 3 else 3) w := by
  intro p
  have hv := hL.var
  have hl := hL.look w rfl attr ha
  clear hL
  generalize ptrF attr = o at *
  by_cases h4 : v < 4
  · cases o with
    | none =>
      go_enter Tryz.func80, Tryz.ntmps80
      go_wp2_with fail
      go_ret
      exact ⟨rfl, rfl⟩
    | some c =>
      go_enter Tryz.func80, Tryz.ntmps80
      go_wp2_with fail
      go_ret
      exact ⟨rfl, rfl⟩
  · have h4' : 4 ≤ v := by omega
    cases o with
    | none =>
      go_enter Tryz.func80, Tryz.ntmps80
      go_wp2_with fail
      go_ret
      exact ⟨rfl, rfl⟩
    | some c =>
      go_enter Tryz.func80, Tryz.ntmps80
      go_wp2_with fail
      go_ret
      exact ⟨rfl, rfl⟩

theorem ftc_7 (attr : Nat) (v : Int) (w : World) (b : Nat) (hL : Laid w b) (ha : attr < 4294967296) : FtcC 7 attr v (if v < 4 then (ptrF attr).getD 3 else 3) w := by
  intro p
  have hv := hL.var
  have hl := hL.look w rfl attr ha
  clear hL
  generalize ptrF attr = o at *
  by_cases h4 : v < 4
  · cases o with
    | none =>
      go_enter Tryz.func80, Tryz.ntmps80
      go_wp2_with fail
      go_ret
      exact ⟨rfl, rfl⟩
    | some c =>
      go_enter Tryz.func80, Tryz.ntmps80
      go_wp2_with fail
      go_ret
      exact ⟨rfl, rfl⟩
  · have h4' : 4 ≤ v := by omega
    cases o with
    | none =>
      go_enter Tryz.func80, Tryz.ntmps80
      go_wp2_with fail
      go_ret
      exact ⟨rfl, rfl⟩
    | some c =>
      go_enter Tryz.func80, Tryz.ntmps80
      go_wp2_with fail
      go_ret
      exact ⟨rfl, rfl⟩

theorem ftc_11 (attr : Nat) (v : Int) (w : World) (b : Nat) (hL : Laid w b) (ha : attr < 4294967296) : FtcC 11 attr v (if v < 4 then (ptrF attr).getD 3 else 3) w := by
  intro p
  have hv := hL.var
  have hl := hL.look w rfl attr ha
  clear hL
  generalize ptrF attr = o at *
  by_cases h4 : v < 4
  · cases o with
    | none =>
      go_enter Tryz.func80, Tryz.ntmps80
      go_wp2_with fail
      go_ret
      exact ⟨rfl, rfl⟩
    | some c =>
      go_enter Tryz.func80, Tryz.ntmps80
      go_wp2_with fail
      go_ret
      exact ⟨rfl, rfl⟩
  · have h4' : 4 ≤ v := by omega
    cases o with
    | none =>
      go_enter Tryz.func80, Tryz.ntmps80
      go_wp2_with fail
      go_ret
      exact ⟨rfl, rfl⟩
    | some c =>
      go_enter Tryz.func80, Tryz.ntmps80
      go_wp2_with fail
      go_ret
      exact ⟨rfl, rfl⟩

theorem ftc_13 (attr : Nat) (v : Int) (w : World) (b : Nat) (hL : Laid w b) (ha : attr < 4294967296) : FtcC 13 attr v (if v < 4 then (ptrF attr).getD 3 else 3) w := by
  intro p
  have hv := hL.var
  have hl := hL.look w rfl attr ha
  clear hL
  generalize ptrF attr = o at *
  by_cases h4 : v < 4
  · cases o with
    | none =>
      go_enter Tryz.func80, Tryz.ntmps80
      go_wp2_with fail
      go_ret
      exact ⟨rfl, rfl⟩
    | some c =>
      go_enter Tryz.func80, Tryz.ntmps80
      go_wp2_with fail
      go_ret
      exact ⟨rfl, rfl⟩
  · have h4' : 4 ≤ v := by omega
    cases o with
    | none =>
      go_enter Tryz.func80, Tryz.ntmps80
      go_wp2_with fail
      go_ret
      exact ⟨rfl, rfl⟩
    | some c =>
      go_enter Tryz.func80, Tryz.ntmps80
      go_wp2_with fail
      go_ret
      exact ⟨rfl, rfl⟩

theorem ftc_15 (attr : Nat) (v : Int) (w : World) (b : Nat) (hL : Laid w b) (ha : attr < 4294967296) : FtcC 15 attr v (if v < 4 then (ptrF attr).getD 3 else 3) w := by
  intro p
  have hv := hL.var
  have hl := hL.look w rfl attr ha
  clear hL
  generalize ptrF attr = o at *
  by_cases h4 : v < 4
  · cases o with
    | none =>
      go_enter Tryz.func80, Tryz.ntmps80
      go_wp2_with fail
      go_ret
      exact ⟨rfl, rfl⟩
    | some c =>
      go_enter Tryz.func80, Tryz.ntmps80
      go_wp2_with fail
      go_ret
      exact ⟨rfl, rfl⟩
  · have h4' : 4 ≤ v := by omega
    cases o with
    | none =>
      go_enter Tryz.func80, Tryz.ntmps80
      go_wp2_with fail
      go_ret
      exact ⟨rfl, rfl⟩
    | some c =>
      go_enter Tryz.func80, Tryz.ntmps80
      go_wp2_with fail
      go_ret
      exact ⟨rfl, rfl⟩

theorem ftc_23 (attr : Nat) (v : Int) (w : World) (b : Nat) (hL : Laid w b) (ha : attr < 4294967296) : FtcC 23 attr v ((ptrF attr).getD 0) w := by
  intro p
  have hv := hL.var
  have hl := hL.look w rfl attr ha
  clear hL
  generalize ptrF attr = o at *
  cases o with
  | none =>
    go_enter Tryz.func80, Tryz.ntmps80
    go_wp2_with fail
    go_ret
    exact ⟨rfl, rfl⟩
  | some c =>
    go_enter Tryz.func80, Tryz.ntmps80
    go_wp2_with fail
    go_ret
    exact ⟨rfl, rfl⟩

/-- the forms that are read -/
def FormOk (f : Nat) : Prop := f = 1 ∨ f = 5 ∨ f = 6 ∨ f = 7 ∨ f = 8 ∨ f = 11 ∨ f = 13 ∨ f = 14 ∨ f = 15 ∨ f = 23 ∨ f = 27 ∨ f = 35
/-- the attributes whose classes both sides know alike -/
def AttrOkP (attr : Nat) : Prop := attr < 4294967296 ∧ ptrF attr = if pointerF attr = 0 then none else some (pointerF attr)
theorem ftc_any (form attr : Nat) (v : Int) (w : World) (b : Nat) (hL : Laid w b) (hf : FormOk form) (ha : AttrOkP attr) : FtcC form attr v (classF attr form v) w := by
  obtain ⟨ha1, ha2⟩ := ha
  have hd : ∀ f : Nat, f = 5 ∨ f = 6 ∨ f = 7 ∨ f = 11 ∨ f = 13 ∨ f = 15 → classF attr f v = if v < 4 then (ptrF attr).getD 3 else 3 := by
    intro f hf
    rw [ha2]
    rcases hf with rfl | rfl | rfl | rfl | rfl | rfl <;> (simp [classF, addrxF, strxF, refF]; by_cases h4 : v < 4 <;> by_cases hp : pointerF attr = 0 <;> simp [h4, hp])
  rcases hf with rfl | rfl | rfl | rfl | rfl | rfl | rfl | rfl | rfl | rfl | rfl | rfl
  · exact ftc_1 attr v w
  · rw [hd 5 (by simp)]; exact ftc_5 attr v w b hL ha1
  · rw [hd 6 (by simp)]; exact ftc_6 attr v w b hL ha1
  · rw [hd 7 (by simp)]; exact ftc_7 attr v w b hL ha1
  · exact ftc_8 attr v w
  · rw [hd 11 (by simp)]; exact ftc_11 attr v w b hL ha1
  · rw [hd 13 (by simp)]; exact ftc_13 attr v w b hL ha1
  · exact ftc_14 attr v w
  · rw [hd 15 (by simp)]; exact ftc_15 attr v w b hL ha1
  · have e : classF attr 23 v = (ptrF attr).getD 0 := by
      rw [ha2]
      simp [classF, addrxF, strxF]
      by_cases hp : pointerF attr = 0 <;> simp [hp]
    rw [e]; exact ftc_23 attr v w b hL ha1
  · exact ftc_27 attr v w
  · exact ftc_35 attr v w

end Go.Proofs.YtklcoppfkfenfaaGreatDoor
namespace Go.Proofs.YtklcoppfkfenfaaGreatDoor
set_option maxRecDepth 100000
open Go Go.RowKit

/-- a row: what stands ahead, the struct that is being filled, what stands behind -/
def Row (w : World) (R : Nat) (T : TypeId) (A X Z : List Value) : Prop := w.heap[R]? = some (.cells (A ++ X ++ Z).toArray T (0, 0))
theorem Row.set {w : World} {R : Nat} {T : TypeId} {A X Z : List Value} (h : Row w R T A X Z) (t : Nat) (ht : t < X.length) (v : Value) {o : Nat} (ho : o = A.length + t) : Row (w.setCell ⟨R, o, none⟩ v) R T A (X.set t v) Z := by
  subst ho
  unfold Row at h ⊢
  rw [heap_setCell_row h, List.setIfInBounds_toArray, List.append_assoc, List.set_append_right _ _ (by omega), Nat.add_sub_cancel_left, List.set_append_left _ _ ht, List.append_assoc]
theorem Row.get {w : World} {R : Nat} {T : TypeId} {A X Z : List Value} (h : Row w R T A X Z) (t : Nat) {v : Value} (ht : X[t]? = some v) {o : Nat} (ho : o = A.length + t) : w.cell? ⟨R, o, none⟩ = some v := by
  subst ho
  rw [cell_of_row _ _ _ _ _ _ h]
  obtain ⟨h1, h2⟩ := List.getElem?_eq_some_iff.1 ht
  rw [List.getElem?_toArray, List.append_assoc, List.getElem?_append_right (by omega), Nat.add_sub_cancel_left, List.getElem?_append_left h1, ht]
theorem Row.frozen {w : World} {R : Nat} {T : TypeId} {A X Z : List Value} (h : Row w R T A X Z) (o : Nat) : w.frozen? ⟨R, o, none⟩ = false := by
  simp [World.frozen?, show w.heap[R]? = _ from h]
theorem Row.keep {w w' : World} {R : Nat} {T : TypeId} {A X Z : List Value} (h : Row w R T A X Z) (hs : w'.heap[R]? = w.heap[R]?) : Row w' R T A X Z := hs.trans h
theorem Row.next {w : World} {R : Nat} {T : TypeId} {A X Z X' Z' : List Value} (h : Row w R T A X Z) (hz : Z = X' ++ Z') : Row w R T (A ++ X) X' Z' := by
  unfold Row at h ⊢; rw [h, hz]; simp

/-- n zero structs -/
def zerosL (z : List Value) (n : Nat) : List Value := (List.replicate n ()).flatMap fun _ => z
theorem zerosL_succ (z : List Value) (n : Nat) : zerosL z (n + 1) = z ++ zerosL z n := by simp [zerosL, List.replicate_succ]
theorem zerosL_zero (z : List Value) : zerosL z 0 = [] := rfl
theorem madeCells_zeros (z : List Value) (sz : Nat) (hz : z.length = sz) (hs : 0 < sz) (n : Nat) : madeCells z.toArray (n * sz) = (zerosL z n).toArray := by
  have hl : (zerosL z n).length = n * sz := by rw [zerosL, flat_length _ sz _ (fun _ _ => hz)]; simp
  apply Array.ext
  · rw [size_madeCells, List.size_toArray, hl]
  · intro i h1 h2
    rw [size_madeCells] at h1
    have hk : i / sz < n := Nat.div_lt_of_lt_mul (by rw [Nat.mul_comm]; exact h1)
    have hj : i % sz < sz := Nat.mod_lt _ hs
    obtain ⟨g1, g2⟩ := flat_get (fun _ : Unit => z) sz (List.replicate n ()) (fun _ _ => hz) (i / sz) (i % sz) (by simpa using hk) hj
    have e : i / sz * sz + i % sz = i := by rw [Nat.mul_comm]; exact Nat.div_add_mod i sz
    have e2 : (zerosL z n)[i]'(by rw [hl]; exact h1) = z[i % sz]'(by omega) := by
      simp only [e] at g2
      exact g2
    have e3 : (zerosL z n).toArray[i] = z[i % sz]'(by omega) := by rw [List.getElem_toArray]; exact e2
    rw [e3]
    simp only [madeCells, Array.getElem_map, Array.getElem_range, List.size_toArray, hz]
    simp [hz, hj]

/-- abbreviations in bytes, from number k on -/
def tabB : List AbD → Nat → List Nat
  | [], _ => []
  | a :: l, k => uleb k ++ (abB a ++ tabB l (k + 1))
theorem abbrevB_tab : ∀ (l : List AbD) (k : Nat), abbrevB (l.map abB) k = tabB l k
  | [], _ => rfl
  | a :: l, k => by simp only [List.map_cons, abbrevB, tabB]; rw [abbrevB_tab l]

/-- an attribute of an abbreviation in memory -/
def afC (v : Int) (p : Nat × Nat) : List Value := [.int .u32 (p.1 : Int), .int .u32 (p.2 : Int), .int .i64 (classF p.1 p.2 v), .int .i64 0]
def AbAt (K : Bs) (w : World) (v : Int) (val : Value) (ab : AbD) : Prop :=
  ∃ fv, val = .agg #[.int .u32 (ab.tag : Int), .bool ab.child, fv] ∧ Ar K w 4 fv ab.fields (afC v)
theorem AbAt.keep {K : Bs} {w w' : World} {v : Int} {val : Value} {ab : AbD} (h : AbAt K w v val ab) (hs : Same K w w') : AbAt K w' v val ab := by
  obtain ⟨fv, h1, h2⟩ := h; exact ⟨fv, h1, h2.keep hs⟩
theorem AbAt.mono {K K' : Bs} {w : World} {v : Int} {val : Value} {ab : AbD} (h : AbAt K w v val ab) (hs : ∀ k, K k → K' k) : AbAt K' w v val ab := by
  obtain ⟨fv, h1, h2⟩ := h; exact ⟨fv, h1, h2.mono hs⟩
/-- a table of abbreviations: the map in block M -/
def TabAt (K : Bs) (w : World) (M n : Nat) (v : Int) (abs : List AbD) : Prop :=
  ∃ f, MapU w 24 .u32 M n f ∧ ∀ i (h : i < abs.length), ∃ val, f (i + 1) = some val ∧ AbAt K w v val abs[i]
theorem TabAt.keep {K : Bs} {w w' : World} {M n : Nat} {v : Int} {abs : List AbD} (h : TabAt K w M n v abs) (hs : Same K w w') (hM : w'.heap[M]? = w.heap[M]?) : TabAt K w' M n v abs := by
  obtain ⟨f, h1, h2⟩ := h
  refine ⟨f, h1.keep hM, fun i hi => ?_⟩
  obtain ⟨val, h3, h4⟩ := h2 i hi
  exact ⟨val, h3, h4.keep hs⟩
theorem TabAt.mono {K K' : Bs} {w : World} {M n : Nat} {v : Int} {abs : List AbD} (h : TabAt K w M n v abs) (hs : ∀ k, K k → K' k) : TabAt K' w M n v abs := by
  obtain ⟨f, h1, h2⟩ := h
  refine ⟨f, h1, fun i hi => ?_⟩
  obtain ⟨val, h3, h4⟩ := h2 i hi
  exact ⟨val, h3, h4.mono hs⟩
/-- an abbreviation that is read -/
def AbOk (ab : AbD) : Prop := ab.tag < 4294967296 ∧ ab.fields.length ≤ 1000000 ∧ ∀ p ∈ ab.fields, p.1 ≠ 0 ∧ AttrOkP p.1 ∧ FormOk p.2
theorem FormOk.lt {f : Nat} (h : FormOk f) : f < 4294967296 := by unfold FormOk at h; omega
end Go.Proofs.YtklcoppfkfenfaaGreatDoor
