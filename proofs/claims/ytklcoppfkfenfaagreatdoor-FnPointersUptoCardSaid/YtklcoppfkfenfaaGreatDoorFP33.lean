/-
  The reader: units in memory, and a reader that stands in one of them. Words for the walk over parseUnits.
-/
import Derived.Test.YtklcoppfkfenfaaGreatDoorFP23
import Derived.Test.YtklcoppfkfenfaaGreatDoorFP32
import Derived.Test.YtklcoppfkfenfaaGreatDoorFP27
set_option linter.all false
set_option linter.unusedVariables false
set_option linter.unusedSimpArgs false
namespace Go.Proofs.YtklcoppfkfenfaaGreatDoor
set_option maxRecDepth 100000
open Go Go.RowKit

theorem Rd.shape {K : Bs} {w : World} {v : Value} {l : List Nat} (h : Rd K w v l) : ∃ a c, v = .slice a l.length c := by
  obtain ⟨⟨_, a, c, h, _⟩, _⟩ := h; exact ⟨a, c, h⟩
theorem ifv_shape (kind : Int) (n : Nat) (d : List Nat) : ∃ t x, ifv kind n d = .iface t x := by
  unfold ifv
  split
  · exact ⟨_, _, rfl⟩
  · split <;> exact ⟨_, _, rfl⟩
/-- a unit that was read: where it is, the block of its table of abbreviations, its bytes as a value -/
structure UV where
  r : URD
  off : Nat
  M : Nat
  dv : Value
def uvC (u : UV) : List Value := [.int .u32 (u.off : Int), .int .u32 ((u.off + u.r.hd : Nat) : Int), u.dv, .map (some u.M), .pointer none, .int .i64 (u.r.asize : Int), .int .i64 (u.r.version : Int), .bool u.r.wide, .int .u8 0]
theorem uvC_len (u : UV) : (uvC u).length = 9 := rfl

/-- the units and the sections in memory; all that they point to lies in blocks of KX -/
structure DatAt (w : World) (D R : Nat) (KX : Bs) (big : Bool) (str : List Nat) (us : List UV) : Prop where
  hD : KX D
  hR : KX R
  units : w.cell? ⟨D, 17, none⟩ = some (.slice (some ⟨R, 0, none⟩) us.length us.length)
  row : w.heap[R]? = some (.cells (us.flatMap uvC).toArray 143)
  str : ∃ sa sn sc, w.cell? ⟨D, 7, none⟩ = some (.slice sa sn sc) ∧ Rd KX w (.slice sa sn sc) str
  order : w.cell? ⟨D, 14, none⟩ = some (.bool big)
  each : ∀ u ∈ us, Rd KX w u.dv (piecesB u.r.ps) ∧ (∃ n, TabAt KX w u.M n (u.r.version : Int) u.r.abs) ∧ KX u.M
  lt : ∀ k, KX k → k < w.heap.size
  ne : 0 < us.length ∧ us.length ≤ 1000
theorem DatAt.keep {w w' : World} {D R : Nat} {KX S : Bs} {big : Bool} {str : List Nat} {us : List UV} (h : DatAt w D R KX big str us) (hf : Frame S w w') (hS : ∀ k, KX k → ¬ S k) : DatAt w' D R KX big str us := by
  have hs : Same KX w w' := hf.same fun k hk => ⟨h.lt k hk, hS k hk⟩
  obtain ⟨sa, sn, sc, h1, h2⟩ := h.str
  refine ⟨h.hD, h.hR, hf.cell h.units (hS _ h.hD), (hs R h.hR).trans h.row, ⟨sa, sn, sc, hf.cell h1 (hS _ h.hD), h2.keep hs⟩, hf.cell h.order (hS _ h.hD), fun u hu => ?_, fun k hk => Nat.lt_of_lt_of_le (h.lt k hk) hf.size, h.ne⟩
  obtain ⟨h3, ⟨n, h4⟩, h5⟩ := h.each u hu
  exact ⟨h3.keep hs, ⟨n, h4.keep hs (hs _ h5)⟩, h5⟩
/-- a cell of a unit -/
theorem DatAt.cell {w : World} {D R : Nat} {KX : Bs} {big : Bool} {str : List Nat} {us : List UV} (h : DatAt w D R KX big str us) (j : Nat) (hj : j < us.length) (t : Nat) (v : Value) (hv : (uvC us[j])[t]? = some v) {o : Nat} (ho : o = j * 9 + t) : w.cell? ⟨R, o, none⟩ = some v := by
  subst ho
  obtain ⟨ht, hv⟩ := List.getElem?_eq_some_iff.1 hv
  obtain ⟨h1, h2⟩ := flat_get uvC 9 us (fun x _ => uvC_len x) j t hj (by simpa [uvC_len] using ht)
  rw [cell_of_row _ _ _ _ _ _ h.row, List.getElem?_toArray, List.getElem?_eq_getElem h1, h2, hv]

/-- a reader's buffer -/
abbrev kR (D R : Nat) (big : Bool) (j : Nat) (rest : List Value) : BufK := { dp := .pointer (some ⟨D, 0, none⟩), big := big, fmt := .iface 138 (.pointer (some ⟨R, j * 9, none⟩)), nm := .string (ByteArray.mk #[105, 110, 102, 111]), rest := rest, ty := 137 }
/-- a reader in unit j, at a place where the bytes l of it are left -/
structure RdrAt (w : World) (B D R : Nat) (KX : Bs) (big : Bool) (j off : Nat) (l : List Nat) : Prop where
  ex : ∃ (lu lc : Bool) (ls : Int) (cu : Option Addr), Buf w B KX (kR D R big j [.pointer (some ⟨D, 0, none⟩), .nilIface, .int .i64 (j : Int), .bool lu, .bool lc, .int .u32 ls, .pointer cu]) off l
theorem RdrAt.keep {w w' : World} {B D R : Nat} {KX S : Bs} {big : Bool} {j off : Nat} {l : List Nat} (h : RdrAt w B D R KX big j off l) (hf : Frame S w w') (hB : ¬ S B) (hS : ∀ k, KX k → ¬ S k) : RdrAt w' B D R KX big j off l := by
  obtain ⟨lu, lc, ls, cu, hb⟩ := h.ex
  exact ⟨lu, lc, ls, cu, hb.keep hf hB fun k hk => ⟨(hb.apart k hk).1, hS k hk⟩⟩

/-- a cell behind the buffer is turned -/
theorem Buf.setRest {w : World} {B : Nat} {K : Bs} {c : BufK} {off : Nat} {l : List Nat} (h : Buf w B K c off l) (i : Nat) (v : Value) {o : Nat} (ho : o = 7 + i) : Buf (w.setCell ⟨B, o, none⟩ v) B K { c with rest := c.rest.set i v } off l ∧ Frame (fun k => k = B) w (w.setCell ⟨B, o, none⟩ v) := by
  subst ho
  obtain ⟨a, n, cap, h1, h2⟩ := h.ex
  have hf : Frame (fun k => k = B) w (w.setCell ⟨B, 7 + i, none⟩ v) := (Frame.refl (fun k => k = B) w).set (.inl rfl) _
  refine ⟨⟨⟨a, n, cap, ?_, h2.keep (hf.same fun k hk => ⟨(h.apart k hk).1, (h.apart k hk).2⟩)⟩, fun k hk => ⟨Nat.lt_of_lt_of_le (h.apart k hk).1 hf.size, (h.apart k hk).2⟩, h.lt⟩, hf⟩
  rw [heap_setCell_row h1, List.setIfInBounds_toArray]
  congr 2
  rw [show 7 + i = i + 7 by omega]
  rfl
theorem Buf.restCell {w : World} {B : Nat} {K : Bs} {c : BufK} {off : Nat} {l : List Nat} (h : Buf w B K c off l) (i : Nat) (v : Value) (hv : c.rest[i]? = some v) {o : Nat} (ho : o = 7 + i) : w.cell? ⟨B, o, none⟩ = some v ∧ w.frozen? ⟨B, o, none⟩ = false := by
  subst ho
  obtain ⟨a, n, cap, h1, h2⟩ := h.ex
  refine ⟨?_, by simp [World.frozen?, h1]⟩
  rw [cell_of_row _ _ _ _ _ _ h1, List.getElem?_toArray, show 7 + i = i + 7 by omega]
  exact hv
/-- the buffer is laid anew -/
theorem Buf.reset {w : World} {B : Nat} {K : Bs} {T : TypeId} {v0 v1 v2 v3 v4 v5 v6 : Value} {rest : List Value} (h1 : w.heap[B]? = some (.cells (v0 :: v1 :: v2 :: v3 :: v4 :: v5 :: v6 :: rest).toArray T (0, 0)))
    (dp : Value) (big : Bool) (fmt nm : Value) (off : Nat) (a : Option Addr) (n cap : Nat) (l : List Nat) (hr : Rd K w (.slice a n cap) l) (hK : ∀ k, K k → k < w.heap.size ∧ k ≠ B) (hlt : off + l.length < 4294967296) {z : Int} (hz : (off : Int) = z) :
    Buf (((((((w.setCell ⟨B, 0, none⟩ dp).setCell ⟨B, 1, none⟩ (.bool big)).setCell ⟨B, 2, none⟩ fmt).setCell ⟨B, 3, none⟩ nm).setCell ⟨B, 4, none⟩ (.int .u32 z)).setCell ⟨B, 5, none⟩ (.slice a n cap)).setCell ⟨B, 6, none⟩ .nilIface) B K { dp := dp, big := big, fmt := fmt, nm := nm, rest := rest, ty := T } off l ∧
    Frame (fun k => k = B) w (((((((w.setCell ⟨B, 0, none⟩ dp).setCell ⟨B, 1, none⟩ (.bool big)).setCell ⟨B, 2, none⟩ fmt).setCell ⟨B, 3, none⟩ nm).setCell ⟨B, 4, none⟩ (.int .u32 z)).setCell ⟨B, 5, none⟩ (.slice a n cap)).setCell ⟨B, 6, none⟩ .nilIface) := by
  subst hz
  have hf : Frame (fun k => k = B) w (((((((w.setCell ⟨B, 0, none⟩ dp).setCell ⟨B, 1, none⟩ (.bool big)).setCell ⟨B, 2, none⟩ fmt).setCell ⟨B, 3, none⟩ nm).setCell ⟨B, 4, none⟩ (.int .u32 (off : Int))).setCell ⟨B, 5, none⟩ (.slice a n cap)).setCell ⟨B, 6, none⟩ .nilIface) :=
    Frame.set (Frame.set (Frame.set (Frame.set (Frame.set (Frame.set (Frame.set (Frame.refl (fun k => k = B) w) (.inl rfl) _) (.inl rfl) _) (.inl rfl) _) (.inl rfl) _) (.inl rfl) _) (.inl rfl) _) (.inl rfl) _
  refine ⟨⟨⟨a, n, cap, ?_, hr.keep (hf.same fun k hk => hK k hk)⟩, fun k hk => ⟨Nat.lt_of_lt_of_le (hK k hk).1 hf.size, (hK k hk).2⟩, hlt⟩, hf⟩
  have g0 := heap_setCell_row h1 (i := 0) dp
  have g1 := heap_setCell_row g0 (i := 1) (.bool big)
  have g2 := heap_setCell_row g1 (i := 2) fmt
  have g3 := heap_setCell_row g2 (i := 3) nm
  have g4 := heap_setCell_row g3 (i := 4) (.int .u32 (off : Int))
  have g5 := heap_setCell_row g4 (i := 5) (.slice a n cap)
  have g6 := heap_setCell_row g5 (i := 6) .nilIface
  rw [g6]
  simp [BufK.cells]

/-- in versions ahead of 5 no tables are looked for -/
theorem bases_old (B R uo vers : Nat) (w : World) (h : w.cell? ⟨R, uo + 6, none⟩ = some (.int .i64 (vers : Int))) (hv : vers < 5) :
    Calls Tryz.prog 54 #[.pointer (some ⟨B, 0, none⟩), .pointer (some ⟨R, uo, none⟩)] w fun e w' => e = .returned (.tuple #[]) ∧ w' = w := by
  go_enter Tryz.func54, Tryz.ntmps54
  go_wp2_with fail
  refine bodyPost_ret (v := .tuple #[]) ?_ rfl ⟨rfl, rfl⟩
  simp [results, Tryz.results54, go_sem]
end Go.Proofs.YtklcoppfkfenfaaGreatDoor
namespace Go.Proofs.YtklcoppfkfenfaaGreatDoor
set_option maxRecDepth 100000
open Go Go.RowKit

abbrev kI (D : Nat) (big : Bool) : BufK := { dp := .pointer (some ⟨D, 0, none⟩), big := big, fmt := .iface 225 (.agg #[]), nm := .string (ByteArray.mk #[105, 110, 102, 111]), rest := [], ty := 135 }
abbrev z9 : List Value := [.int .u32 0, .int .u32 0, .slice none 0 0, .map none, .pointer none, .int .i64 0, .int .i64 0, .bool false, .int .u8 0]
theorem ul147 : Tryz.prog.underlying 147 = some (.slice 143) := by kernel_rfl
theorem info143 : (Tryz.prog.info? 143).map (fun i => (i.zero, i.size, i.bytes)) = some (some (.agg z9.toArray), 9, 72) := by kernel_rfl
theorem make147 (n : Nat) (h : n ≤ 1000000) (w : World) : (Instr.makeSlice 147 (.int .i64 (n : Int)) (.int .i64 (n : Int))).run Tryz.prog w = .ok (.slice (some ⟨w.heap.size, 0, none⟩) n n) (w.alloc (.cells (zerosL z9 n).toArray 143)) := by
  obtain ⟨i, hi, h0, h1, h2⟩ := info_parts info143
  have := run_make (P := Tryz.prog) w 147 143 i _ ul147 hi h0 .i64 .i64 (n : Int) (n : Int) (by omega) (by omega) (by rw [h2]; omega) (by omega)
  rw [this, h1]
  simp only [Int.toNat_natCast, Value.cells]
  rw [madeCells_zeros z9 9 rfl (by decide)]

/-- units lie one behind the other -/
def UvOffs (big : Bool) : Nat → List UV → Prop
  | _, [] => True
  | off, u :: us => u.off = off ∧ UvOffs big (off + (u.r.bytes big).length) us
theorem UvOffs.snoc {big : Bool} : ∀ {off : Nat} {us : List UV} {u : UV}, UvOffs big off us → u.off = off + (us.flatMap fun x => x.r.bytes big).length → UvOffs big off (us ++ [u])
  | _, [], _, _, h => ⟨by simpa using h, trivial⟩
  | _, _ :: _, _, h, k => ⟨h.1, UvOffs.snoc h.2 (by rw [k, List.flatMap_cons, List.length_append, Nat.add_assoc])⟩

/-- some units are parsed -/
structure PuSt (w : World) (C Bb R D : Nat) (K : Bs) (big : Bool) (us : List UV) (rs : List URD) (off : Nat) (wr : World) : Prop where
  frame : Frame (fun k => k = C) w wr
  buf : Buf wr Bb K (kI D big) off (rs.flatMap (URD.bytes big))
  row : wr.heap[R]? = some (.cells (us.flatMap uvC ++ zerosL z9 rs.length).toArray 143)
  map : ∃ F, MapU wr 29 .u64 C us.length F ∧ ∀ r ∈ rs, F r.aoff = none
  each : ∀ u ∈ us, Rd K wr u.dv (piecesB u.r.ps) ∧ (∃ n, TabAt (fun k => w.heap.size ≤ k ∧ k < wr.heap.size ∧ k ≠ R ∧ k ≠ Bb) wr u.M n (u.r.version : Int) u.r.abs) ∧ w.heap.size ≤ u.M ∧ u.M < wr.heap.size ∧ u.M ≠ R ∧ u.M ≠ Bb
  offs : UvOffs big 0 us ∧ off = (us.flatMap fun x => x.r.bytes big).length
  lt : w.heap.size ≤ Bb ∧ w.heap.size ≤ R ∧ Bb ≠ R ∧ C < w.heap.size

/-- one unit more: what the round has left -/
theorem PuSt.push {w wr w2 : World} {C Bb R D : Nat} {K : Bs} {big : Bool} {us : List UV} {r : URD} {rs : List URD} {off : Nat} (h : PuSt w C Bb R D K big us (r :: rs) off wr) (u : UV) (hu : u.r = r ∧ u.off = off)
    (hf : Frame (fun k => k = C ∨ k = Bb ∨ k = R) wr w2) (hbuf : Buf w2 Bb K (kI D big) (off + (r.bytes big).length) (rs.flatMap (URD.bytes big)))
    (hrow : Row w2 R 143 (us.flatMap uvC) (uvC u) (zerosL z9 rs.length)) (hmap : ∃ F, MapU w2 29 .u64 C (us.length + 1) F ∧ ∀ r ∈ rs, F r.aoff = none)
    (hdv : Rd K w2 u.dv (piecesB r.ps)) (htab : ∃ n, TabAt (fun k => wr.heap.size ≤ k ∧ k < w2.heap.size) w2 u.M n (r.version : Int) r.abs) (hM : wr.heap.size ≤ u.M ∧ u.M < w2.heap.size) (hK : ∀ k, K k → k < w.heap.size ∧ k ≠ C) :
    PuSt w C Bb R D K big (us ++ [u]) rs (off + (r.bytes big).length) w2 := by
  obtain ⟨hu1, hu2⟩ := hu
  have hsz := h.frame.size
  have hsz2 := hf.size
  have hBb := h.buf.lt_size
  have hR : R < wr.heap.size := (Array.getElem?_eq_some_iff.1 h.row).1
  obtain ⟨l1, l2, l3, l4⟩ := h.lt
  refine ⟨h.frame.trans hf fun k hk => ?_, hbuf, ?_, ?_, fun x hx => ?_, ⟨h.offs.1.snoc ?_, ?_⟩, h.lt⟩
  · rcases hk with rfl | rfl | rfl
    · exact .inl rfl
    · exact .inr l1
    · exact .inr l2
  · have := hrow
    unfold Row at this
    rw [this, List.flatMap_append]
    simp
  · simpa using hmap
  · rcases List.mem_append.1 hx with hx | hx
    · obtain ⟨q1, ⟨n, q2⟩, q3, q4, q5, q6⟩ := h.each x hx
      have hs : ∀ k, (w.heap.size ≤ k ∧ k < wr.heap.size ∧ k ≠ R ∧ k ≠ Bb) → w2.heap[k]? = wr.heap[k]? := fun k hk => hf.block k hk.2.1 (by rintro (e | e | e) <;> omega)
      refine ⟨q1.keep (hf.same fun k hk => ⟨Nat.lt_of_lt_of_le (hK k hk).1 hsz, ?_⟩), ⟨n, (q2.keep hs (hs _ ⟨q3, q4, q5, q6⟩)).mono fun k hk => ⟨hk.1, by omega, hk.2.2.1, hk.2.2.2⟩⟩, q3, by omega, q5, q6⟩
      have := hK k hk
      rintro (e | e | e) <;> omega
    · simp only [List.mem_singleton] at hx
      subst hx
      rw [hu1]
      obtain ⟨n, ht⟩ := htab
      exact ⟨hdv, ⟨n, ht.mono fun k hk => ⟨by omega, hk.2, by omega, by omega⟩⟩, by omega, hM.2, by omega, by omega⟩
  · rw [hu2, Nat.zero_add]; exact h.offs.2
  · rw [List.flatMap_append, List.length_append, ← h.offs.2]
    simp [hu1]

/-- a cell that may be turned -/
def w_cell (w : World) (R o : Nat) (v : Value) : Prop := w.cell? ⟨R, o, none⟩ = some v ∧ w.frozen? ⟨R, o, none⟩ = false
/-- within a round: what has turned since its beginning; the buffer; the unit under way -/
structure RoSt (S : Bs) (wr : World) (C Bb R D : Nat) (K : Bs) (big : Bool) (A Z : List Value) (off : Nat) (l : List Nat) (X : List Value) (wx : World) : Prop where
  frame : Frame S wr wx
  has : S Bb ∧ S R
  buf : Buf wx Bb K (kI D big) off l
  row : Row wx R 143 A X Z
  ne : Bb ≠ R ∧ C ≠ Bb ∧ C ≠ R ∧ ∀ k, K k → k ≠ R ∧ k ≠ C
theorem RoSt.put {S : Bs} {wr wx : World} {C Bb R D : Nat} {K : Bs} {big : Bool} {A Z X : List Value} {off : Nat} {l : List Nat} (h : RoSt S wr C Bb R D K big A Z off l X wx) (t : Nat) (ht : t < X.length) (v : Value) {o : Nat} (ho : o = A.length + t) :
    RoSt S wr C Bb R D K big A Z off l (X.set t v) (wx.setCell ⟨R, o, none⟩ v) := by
  have hf : Frame (fun k => k = R) wx (wx.setCell ⟨R, o, none⟩ v) := (Frame.refl (fun k => k = R) wx).set (.inl rfl) _
  exact ⟨h.frame.trans hf fun k hk => .inl (hk ▸ h.has.2), h.has, h.buf.keep hf h.ne.1 fun k hk => ⟨(h.buf.apart k hk).1, (h.ne.2.2.2 k hk).1⟩, h.row.set t ht v ho, h.ne⟩
theorem RoSt.read {S : Bs} {wr wx w2 : World} {C Bb R D : Nat} {K : Bs} {big : Bool} {A Z X : List Value} {off off' : Nat} {l l' : List Nat} (h : RoSt S wr C Bb R D K big A Z off l X wx) (hb : Buf w2 Bb K (kI D big) off' l') (hf : Frame (fun k => k = Bb) wx w2) :
    RoSt S wr C Bb R D K big A Z off' l' X w2 := by
  have hR : R < wx.heap.size := (Array.getElem?_eq_some_iff.1 (show wx.heap[R]? = _ from h.row)).1
  exact ⟨h.frame.trans hf fun k hk => .inl (hk ▸ h.has.1), h.has, hb, h.row.keep (hf.block R hR fun e => h.ne.1 e.symm), h.ne⟩
theorem RoSt.other {S : Bs} {wr wx w2 : World} {C Bb R D : Nat} {K : Bs} {big : Bool} {A Z X : List Value} {off : Nat} {l : List Nat} (h : RoSt S wr C Bb R D K big A Z off l X wx) (hf : Frame (fun k => k = C) wx w2) :
    RoSt (fun k => k = C ∨ S k) wr C Bb R D K big A Z off l X w2 := by
  have hR : R < wx.heap.size := (Array.getElem?_eq_some_iff.1 (show wx.heap[R]? = _ from h.row)).1
  exact ⟨(h.frame.mono fun _ h => .inl (.inr h)).trans hf fun k hk => .inl (.inl hk), ⟨.inr h.has.1, .inr h.has.2⟩, h.buf.keep hf (fun e => h.ne.2.1 e.symm) fun k hk => ⟨(h.buf.apart k hk).1, (h.ne.2.2.2 k hk).2⟩, h.row.keep (hf.block R hR fun e => h.ne.2.2.1 e.symm), h.ne⟩
theorem RoSt.get {S : Bs} {wr wx : World} {C Bb R D : Nat} {K : Bs} {big : Bool} {A Z X : List Value} {off : Nat} {l : List Nat} (h : RoSt S wr C Bb R D K big A Z off l X wx) (t : Nat) {v : Value} (ht : X[t]? = some v) {o : Nat} (ho : o = A.length + t) : w_cell wx R o v := ⟨h.row.get t ht ho, h.row.frozen o⟩
theorem RoSt.anew {S : Bs} {wr wx : World} {C Bb R D : Nat} {K : Bs} {big : Bool} {A Z X : List Value} {off : Nat} {l : List Nat} (h : RoSt S wr C Bb R D K big A Z off l X wx) : RoSt (fun k => k = Bb ∨ k = R) wx C Bb R D K big A Z off l X wx :=
  ⟨Frame.refl _ _, ⟨.inl rfl, .inr rfl⟩, h.buf, h.row, h.ne⟩
theorem URsOk.at {big : Bool} {abv str : List Nat} : ∀ {off : Nat} {a : List URD} {r : URD} {b : List URD}, URsOk big abv str off (a ++ r :: b) → UROk big abv str (off + (a.flatMap (URD.bytes big)).length) r
  | _, [], _, _, h => by simpa using h.1
  | off, x :: a, r, b, h => by
    have := URsOk.at (a := a) h.2
    rw [List.flatMap_cons, List.length_append, ← Nat.add_assoc]
    exact this
theorem map_bytes (big : Bool) (us : List UV) : (us.map UV.r).flatMap (URD.bytes big) = us.flatMap fun x => x.r.bytes big := by rw [List.flatMap_map]
end Go.Proofs.YtklcoppfkfenfaaGreatDoor
