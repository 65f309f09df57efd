/-
  The reader: a buffer in memory, and its small reads. The reader: numbers of two, four and eight bytes.
-/
import Derived.Test.YtklcoppfkfenfaaGreatDoorFP17
import Derived.Test.YtklcoppfkfenfaaGreatDoorFP06
import Derived.Test.YtklcoppfkfenfaaGreatDoorFP05
set_option linter.all false
set_option linter.unusedVariables false
set_option linter.unusedSimpArgs false
namespace Go.Proofs.YtklcoppfkfenfaaGreatDoor
set_option maxRecDepth 100000
open Go Go.RowKit

/-- what stays in a buffer -/
structure BufK where
  dp : Value
  big : Bool
  fmt : Value
  nm : Value
  rest : List Value
  ty : TypeId
abbrev BufK.cells (c : BufK) (off : Nat) (v : Value) : Array Value := (c.dp :: .bool c.big :: c.fmt :: c.nm :: .int .u32 (off : Int) :: v :: .nilIface :: c.rest).toArray
/-- block B begins with a buffer that stands at off, where the bytes l are left -/
structure Buf (w : World) (B : Nat) (K : Bs) (c : BufK) (off : Nat) (l : List Nat) : Prop where
  ex : ∃ a n cap, w.heap[B]? = some (.cells (c.cells off (.slice a n cap)) c.ty (0, 0)) ∧ Rd K w (.slice a n cap) l
  apart : ∀ k, K k → k < w.heap.size ∧ k ≠ B
  lt : off + l.length < 4294967296
/-- what a read leaves -/
def Got (B : Nat) (K : Bs) (c : BufK) (off : Nat) (l : List Nat) (w : World) (r : Value) (e : Ending) (w' : World) : Prop :=
  e = .returned r ∧ Buf w' B K c off l ∧ Frame (fun k => k = B) w w'

theorem Buf.lt_size {w : World} {B : Nat} {K : Bs} {c : BufK} {off : Nat} {l : List Nat} (h : Buf w B K c off l) : B < w.heap.size := by
  obtain ⟨a, n, cap, h1, _⟩ := h.ex; exact (Array.getElem?_eq_some_iff.1 h1).1
theorem Buf.keep {w w' : World} {B : Nat} {K S : Bs} {c : BufK} {off : Nat} {l : List Nat} (h : Buf w B K c off l) (hf : Frame S w w') (hB : ¬ S B) (hK : ∀ k, K k → k < w.heap.size ∧ ¬ S k) : Buf w' B K c off l := by
  obtain ⟨a, n, cap, h1, h2⟩ := h.ex
  exact ⟨⟨a, n, cap, (hf.block B h.lt_size hB).trans h1, h2.keep (hf.same hK)⟩, fun k hk => ⟨Nat.lt_of_lt_of_le (h.apart k hk).1 hf.size, (h.apart k hk).2⟩, h.lt⟩

/-- the two stores of a read -/
theorem Buf.move {w : World} {B : Nat} {K : Bs} {c : BufK} {off : Nat} {a : Option Addr} {n cap : Nat} (h1 : w.heap[B]? = some (.cells (c.cells off (.slice a n cap)) c.ty (0, 0))) (hK : ∀ k, K k → k < w.heap.size ∧ k ≠ B)
    {a' : Option Addr} {n' cap' off' : Nat} {l' : List Nat} (h2 : Rd K w (.slice a' n' cap') l') (hlt : off' + l'.length < 4294967296) {z : Int} (hz : (off' : Int) = z) :
    Buf ((w.setCell ⟨B, 5, none⟩ (.slice a' n' cap')).setCell ⟨B, 4, none⟩ (.int .u32 z)) B K c off' l' ∧ Frame (fun k => k = B) w ((w.setCell ⟨B, 5, none⟩ (.slice a' n' cap')).setCell ⟨B, 4, none⟩ (.int .u32 z)) := by
  subst hz
  have hf : Frame (fun k => k = B) w ((w.setCell ⟨B, 5, none⟩ (.slice a' n' cap')).setCell ⟨B, 4, none⟩ (.int .u32 (off' : Int))) := Frame.set (Frame.set (Frame.refl (fun k => k = B) w) (.inl rfl) _) (.inl rfl) _
  refine ⟨⟨⟨a', n', cap', ?_, h2.keep fun k hk => ?_⟩, fun k hk => ⟨Nat.lt_of_lt_of_le (hK k hk).1 hf.size, (hK k hk).2⟩, hlt⟩, hf⟩
  · have := heap_setCell_row (heap_setCell_row h1 (i := 5) (.slice a' n' cap')) (i := 4) (.int .u32 (off' : Int))
    rw [this]; rfl
  · have hn : k ≠ B := (hK k hk).2
    exact (Below.heap_setCell _ _ _ _ hn).trans (Below.heap_setCell _ _ _ _ hn)
/-- the same, the other way round -/
theorem Buf.move' {w : World} {B : Nat} {K : Bs} {c : BufK} {off : Nat} {a : Option Addr} {n cap : Nat} (h1 : w.heap[B]? = some (.cells (c.cells off (.slice a n cap)) c.ty (0, 0))) (hK : ∀ k, K k → k < w.heap.size ∧ k ≠ B)
    {a' : Option Addr} {n' cap' off' : Nat} {l' : List Nat} (h2 : Rd K w (.slice a' n' cap') l') (hlt : off' + l'.length < 4294967296) {z : Int} (hz : (off' : Int) = z) :
    Buf ((w.setCell ⟨B, 4, none⟩ (.int .u32 z)).setCell ⟨B, 5, none⟩ (.slice a' n' cap')) B K c off' l' ∧ Frame (fun k => k = B) w ((w.setCell ⟨B, 4, none⟩ (.int .u32 z)).setCell ⟨B, 5, none⟩ (.slice a' n' cap')) := by
  subst hz
  have hf : Frame (fun k => k = B) w ((w.setCell ⟨B, 4, none⟩ (.int .u32 (off' : Int))).setCell ⟨B, 5, none⟩ (.slice a' n' cap')) := Frame.set (Frame.set (Frame.refl (fun k => k = B) w) (.inl rfl) _) (.inl rfl) _
  refine ⟨⟨⟨a', n', cap', ?_, h2.keep fun k hk => ?_⟩, fun k hk => ⟨Nat.lt_of_lt_of_le (hK k hk).1 hf.size, (hK k hk).2⟩, hlt⟩, hf⟩
  · have := heap_setCell_row (heap_setCell_row h1 (i := 4) (.int .u32 (off' : Int))) (i := 5) (.slice a' n' cap')
    rw [this]; rfl
  · have hn : k ≠ B := (hK k hk).2
    exact (Below.heap_setCell _ _ _ _ hn).trans (Below.heap_setCell _ _ _ _ hn)

/-- the cells of a block that begins with a buffer -/
theorem buf_cells {w : World} {B : Nat} {c : BufK} {off : Nat} {v : Value} (h1 : w.heap[B]? = some (.cells (c.cells off v) c.ty (0, 0))) :
    w.cell? ⟨B, 0, none⟩ = some c.dp ∧ w.cell? ⟨B, 1, none⟩ = some (.bool c.big) ∧ w.cell? ⟨B, 2, none⟩ = some c.fmt ∧ w.cell? ⟨B, 4, none⟩ = some (.int .u32 (off : Int)) ∧ w.cell? ⟨B, 5, none⟩ = some v ∧ w.cell? ⟨B, 6, none⟩ = some .nilIface ∧
    w.frozen? ⟨B, 4, none⟩ = false ∧ w.frozen? ⟨B, 5, none⟩ = false :=
  ⟨cell_of_row w B 0 _ _ _ h1, cell_of_row w B 1 _ _ _ h1, cell_of_row w B 2 _ _ _ h1, cell_of_row w B 4 _ _ _ h1, cell_of_row w B 5 _ _ _ h1, cell_of_row w B 6 _ _ _ h1, by simp [World.frozen?, h1], by simp [World.frozen?, h1]⟩
theorem rd_cell0 {K : Bs} {w : World} {a : Option Addr} {n cap x : Nat} {l : List Nat} (h : Rd K w (.slice a n cap) (x :: l)) : ∃ b o, a = some ⟨b, o, none⟩ ∧ n = l.length + 1 ∧ w.cell? ⟨b, o, none⟩ = some (.int .u8 (x : Int)) ∧ x < 256 ∧ n ≤ cap ∧ cap ≤ 9223372036854775807 := by
  obtain ⟨⟨hl, a', c', he, h1, h2, h3, hc⟩, hb⟩ := h
  simp only [Value.slice.injEq] at he
  obtain ⟨rfl, hn, rfl⟩ := he
  obtain ⟨b, o, ha, _, hcell⟩ := hc 0 (by simp)
  exact ⟨b, o, ha, by simpa using hn, by simpa [bv] using hcell, hb x (by simp), by rw [hn]; exact h1, by unfold maxLen at h2; exact h2⟩

theorem uint8_any (B : Nat) (K : Bs) (c : BufK) (off x : Nat) (l : List Nat) (w : World) (h : Buf w B K c off (x :: l)) :
    Calls Tryz.prog 83 #[.pointer (some ⟨B, 0, none⟩)] w (Got B K c (off + 1) l w (.int .u8 (x : Int))) := by
  obtain ⟨a, n, cap, h1, hr⟩ := h.ex
  obtain ⟨c0, c1, c2, c4, c5, c6, f4, f5⟩ := buf_cells h1
  obtain ⟨b, o, ha, hn, hx, hx8, hnc, hcm⟩ := rd_cell0 hr
  have hlt := h.lt
  simp only [List.length_cons] at hlt
  obtain ⟨a', n', c', hsl, hrd, hn'⟩ := cut_lo hr (z := 1) 1 rfl (by simp)
  subst ha
  have H1 := Lib.hid h1; have HR := Lib.hid hrd; have HNB := Lib.hid h.apart
  have hsl' := hsl .i64
  clear h1 hr hrd hsl hn'
  subst hn
  go_enter Tryz.func83, Tryz.ntmps83
  go_wp2_with fail
  go_ret
  exact ⟨rfl, Buf.move H1.out HNB.out (l' := l) (off' := off + 1) (by simpa using HR.out) (by omega) (by omega)⟩

/-- n bytes are handed back -/
def GotB (B : Nat) (K : Bs) (c : BufK) (off : Nat) (p l : List Nat) (w : World) (e : Ending) (w' : World) : Prop :=
  ∃ a cap, e = .returned (.slice a p.length cap) ∧ Rd K w' (.slice a p.length cap) p ∧ Buf w' B K c off l ∧ Frame (fun k => k = B) w w'
theorem bytes_any (B : Nat) (K : Bs) (c : BufK) (off n : Nat) (p l : List Nat) (w : World) (h : Buf w B K c off (p ++ l)) (hp : p.length = n) :
    Calls Tryz.prog 88 #[.pointer (some ⟨B, 0, none⟩), .int .i64 (n : Int)] w (GotB B K c (off + n) p l w) := by
  subst hp
  obtain ⟨a, n, cap, h1, hr⟩ := h.ex
  obtain ⟨c0, c1, c2, c4, c5, c6, f4, f5⟩ := buf_cells h1
  have hlt := h.lt
  have hn : n = p.length + l.length := by obtain ⟨⟨_, _, _, he, _⟩, _⟩ := hr; simp only [Value.slice.injEq] at he; simpa using he.2.1
  obtain ⟨a', n', c', hsl, hrd, hn'⟩ := cut_lohi hr (y := 0) (z := (p.length : Int)) 0 p.length rfl rfl (Nat.zero_le _) (by simp)
  obtain ⟨a2, n2, c2', hsl2, hrd2, hn2⟩ := cut_lo hr (z := (p.length : Int)) p.length rfl (by simp)
  simp only [List.length_append] at hlt hn2
  simp only [List.drop_zero, List.take_left, List.drop_left] at hrd hrd2
  obtain rfl : n' = p.length := by omega
  have H1 := Lib.hid h1; have HR := Lib.hid hrd; have HR2 := Lib.hid hrd2; have HNB := Lib.hid h.apart
  have hsl' := hsl .i64 .i64
  have hsl2' := hsl2 .i64
  clear h1 hr hrd hrd2 hsl hsl2 hn2 hn' h
  subst hn
  go_enter Tryz.func88, Tryz.ntmps88
  go_wp2_with fail
  go_ret
  obtain ⟨h5, h6⟩ := Buf.move H1.out HNB.out (l' := l) (off' := off + p.length) HR2.out (by omega) (z := (off : Int) + (p.length : Int)) (by omega)
  exact ⟨_, _, rfl, HR.out.keep (h6.same HNB.out), h5, h6⟩
theorem skip_any (B : Nat) (K : Bs) (c : BufK) (off n : Nat) (p l : List Nat) (w : World) (h : Buf w B K c off (p ++ l)) (hp : p.length = n) :
    Calls Tryz.prog 75 #[.pointer (some ⟨B, 0, none⟩), .int .i64 (n : Int)] w (fun e w' => e = .returned (.tuple #[]) ∧ Buf w' B K c (off + n) l ∧ Frame (fun k => k = B) w w') := by
  go_enter Tryz.func75, Tryz.ntmps75
  go_wp2_with (go_at_call 88; (with_reducible refine (bytes_any B K c off n p l w h hp).mono ?_); rintro e w' ⟨a, cap, rfl, _, h2, h3⟩)
  go_end0
  exact ⟨rfl, h2, h3⟩

/-- a number from its bytes, the highest first -/
def beN : List Nat → Nat := fun l => l.foldl (fun n x => n * 256 + x) 0
theorem rd_cell {K : Bs} {w : World} {a : Option Addr} {n cap : Nat} {l : List Nat} (h : Rd K w (.slice a n cap) l) (hl : 0 < l.length) : ∃ b o, a = some ⟨b, o, none⟩ ∧ n = l.length ∧ n ≤ cap ∧ cap ≤ 9223372036854775807 ∧ ∀ j (hj : j < l.length), w.cell? ⟨b, o + j, none⟩ = some (.int .u8 (l[j] : Int)) ∧ l[j] < 256 := by
  obtain ⟨⟨hll, a', c', he, h1, h2, h3, hc⟩, hb⟩ := h
  simp only [Value.slice.injEq] at he
  obtain ⟨rfl, hn, rfl⟩ := he
  obtain ⟨b, o, ha, _, _⟩ := hc 0 (by simpa using hl)
  refine ⟨b, o, ha, hn, by rw [hn]; exact h1, by unfold maxLen at h2; exact h2, fun j hj => ⟨?_, hb _ (List.getElem_mem _)⟩⟩
  obtain ⟨b', o', ha', _, hcell⟩ := hc j (by simpa using hj)
  rw [ha] at ha'
  simp only [Option.some.injEq, Addr.mk.injEq, and_true] at ha'
  obtain ⟨rfl, rfl⟩ := ha'
  rw [hcell, bv_get]
end Go.Proofs.YtklcoppfkfenfaaGreatDoor
namespace Go.Proofs.YtklcoppfkfenfaaGreatDoor
set_option maxRecDepth 100000
open Go Go.RowKit

theorem or_add (a b s : Nat) (h : b < 2 ^ s) : (a * 2 ^ s) ||| b = a * 2 ^ s + b := by
  rw [← Nat.shiftLeft_eq, Nat.shiftLeft_add_eq_or_of_lt h]
theorem bits_or_nat (k : IntKind) (n : Nat) (hb : k.bits = n) (hw : ∀ x : Nat, x < 2 ^ n → k.wrap (x : Int) = (x : Int)) (a b : Nat) (ha : a < 2 ^ n) (hb' : b < 2 ^ n) : bits .or k (a : Int) (b : Int) = ((a ||| b : Nat) : Int) := by
  subst hb
  have h1 : (BitVec.ofInt k.bits (a : Int)).toNat = a := by rw [BitVec.ofInt_natCast, BitVec.toNat_ofNat]; exact Nat.mod_eq_of_lt ha
  have h2 : (BitVec.ofInt k.bits (b : Int)).toNat = b := by rw [BitVec.ofInt_natCast, BitVec.toNat_ofNat]; exact Nat.mod_eq_of_lt hb'
  show k.wrap ((BitVec.ofInt k.bits (a : Int) ||| BitVec.ofInt k.bits (b : Int)).toNat : Int) = _
  rw [BitVec.toNat_or, h1, h2]
  exact hw _ (Nat.or_lt_two_pow ha hb')
theorem or16 (a b : Nat) (ha : a < 256) (hb : b < 256) : bits .or .u16 ((a : Int) * 256) (b : Int) = ((a * 256 + b : Nat) : Int) := by
  have := bits_or_nat .u16 16 rfl (fun x hx => by simp only [IntKind.wrap_u16]; omega) (a * 256) b (by omega) (by omega)
  rw [or_add a b 8 (by omega)] at this
  rw [← this]; simp
theorem or32 (a b : Nat) (ha : a < 65536) (hb : b < 65536) : bits .or .u32 ((a : Int) * 65536) (b : Int) = ((a * 65536 + b : Nat) : Int) := by
  have := bits_or_nat .u32 32 rfl (fun x hx => by simp only [IntKind.wrap_u32]; omega) (a * 65536) b (by omega) (by omega)
  rw [or_add a b 16 (by omega)] at this
  rw [← this]; simp
theorem or64 (a b : Nat) (ha : a < 4294967296) (hb : b < 4294967296) : bits .or .u64 ((a : Int) * 4294967296) (b : Int) = ((a * 4294967296 + b : Nat) : Int) := by
  have := bits_or_nat .u64 64 rfl (fun x hx => by simp only [IntKind.wrap_u64]; omega) (a * 4294967296) b (by omega) (by omega)
  rw [or_add a b 32 (by omega)] at this
  rw [← this]; simp

theorem order16 (big : Bool) (b o n cap x y : Nat) (w : World) (h0 : w.cell? ⟨b, o, none⟩ = some (.int .u8 (x : Int))) (h1 : w.cell? ⟨b, o + 1, none⟩ = some (.int .u8 (y : Int))) (hx : x < 256) (hy : y < 256) (hn : 2 ≤ n) (hnc : n ≤ cap) (hc : cap ≤ 9223372036854775807) :
    Calls Tryz.prog 108 #[.agg #[.bool big], .slice (some ⟨b, o, none⟩) n cap] w fun e w' => e = .returned (.int .u16 (if big then x * 256 + y else y * 256 + x : Nat)) ∧ Frame no w w' := by
  have hn0 : 0 < n := by omega
  have hn1 : (1 : Int) < (n : Int) := by omega
  have hc0 := cell_alloc h0 (.cells #[.bool big] 131)
  have hc1 := cell_alloc h1 (.cells #[.bool big] 131)
  have q1 : IntKind.u16.wrap (x : Int) = x := by simp only [IntKind.wrap_u16]; omega
  have q2 : IntKind.u16.wrap (y : Int) = y := by simp only [IntKind.wrap_u16]; omega
  have q3 : IntKind.u16.wrap ((x : Int) * 256) = (x : Int) * 256 := by simp only [IntKind.wrap_u16]; omega
  have q4 : IntKind.u16.wrap ((y : Int) * 256) = (y : Int) * 256 := by simp only [IntKind.wrap_u16]; omega
  have q5 := or16 x y hx hy
  have q6 := or16 y x hy hx
  clear h0 h1
  cases big
  · go_enter Tryz.func108, Tryz.ntmps108
    go_wp2_with fail
    refine wp_region_seq no 11 [(0, true), (1, true), (2, true), (3, true), (4, true), (5, true), (6, true), (7, true), (8, true), (9, true), (10, true)] (by kernel_rfl) (by kernel_rfl) (fun _ _ _ d _ h => by cases d <;> exact h) ?_
    simp only [pickB, List.getElem?_toArray, List.getElem?_cons_zero, List.getElem?_cons_succ, Option.getD_some, Bool.false_eq_true, ↓reduceIte, Nat.reduceLT]
    iterate 11
      refine seq_val (v := ?_) (fun w' hX => ?_) ?_
      rotate_left
      · have x0 := hX.cell hc0 id; have x1 := hX.cell hc1 id; clear hX; go_simp; try with_reducible rfl
      try simp only [Act.put, List.setIfInBounds_toArray, List.set_cons_zero, List.set_cons_succ]
    refine seq_nil ?_
    go_wp2_with fail
    go_ret
    exact ⟨rfl, ((Frame.refl _ _).alloc _).drew⟩
  · go_enter Tryz.func108, Tryz.ntmps108
    go_wp2_with fail
    refine wp_region_seq no 11 [(0, true), (1, true), (2, true), (3, true), (4, true), (5, true), (6, true), (7, true), (8, true), (9, true), (10, true)] (by kernel_rfl) (by kernel_rfl) (fun _ _ _ d _ h => by cases d <;> exact h) ?_
    simp only [pickB, List.getElem?_toArray, List.getElem?_cons_zero, List.getElem?_cons_succ, Option.getD_some, Bool.false_eq_true, ↓reduceIte, Nat.reduceLT]
    iterate 11
      refine seq_val (v := ?_) (fun w' hX => ?_) ?_
      rotate_left
      · have x0 := hX.cell hc0 id; have x1 := hX.cell hc1 id; clear hX; go_simp; try with_reducible rfl
      try simp only [Act.put, List.setIfInBounds_toArray, List.set_cons_zero, List.set_cons_succ]
    refine seq_nil ?_
    go_wp2_with fail
    go_ret
    exact ⟨rfl, ((Frame.refl _ _).alloc _).drew⟩

def f16 (big : Bool) (x y : Nat) : Nat := if big then x * 256 + y else y * 256 + x
def f32 (big : Bool) (x y z u : Nat) : Nat := if big then f16 big x y * 65536 + f16 big z u else f16 big z u * 65536 + f16 big x y
def f64 (big : Bool) (x y z u x' y' z' u' : Nat) : Nat := if big then f32 big x y z u * 4294967296 + f32 big x' y' z' u' else f32 big x' y' z' u' * 4294967296 + f32 big x y z u
theorem f16_lt (big : Bool) (x y : Nat) (hx : x < 256) (hy : y < 256) : f16 big x y < 65536 := by unfold f16; split <;> omega
theorem f32_lt (big : Bool) (x y z u : Nat) (hx : x < 256) (hy : y < 256) (hz : z < 256) (hu : u < 256) : f32 big x y z u < 4294967296 := by
  have := f16_lt big x y hx hy; have := f16_lt big z u hz hu; unfold f32; split <;> omega
theorem rd_bytes {K : Bs} {w : World} {v : Value} {l : List Nat} (h : Rd K w v l) : ∀ x ∈ l, x < 256 := h.2
theorem order16R (big : Bool) (K : Bs) (a : Option Addr) (n cap x y : Nat) (l : List Nat) (w : World) (h : Rd K w (.slice a n cap) (x :: y :: l)) :
    Calls Tryz.prog 108 #[.agg #[.bool big], .slice a n cap] w fun e w' => e = .returned (.int .u16 (f16 big x y : Nat)) ∧ Frame no w w' := by
  obtain ⟨b, o, rfl, hn, hnc, hc, hcell⟩ := rd_cell h (by simp)
  have h0 := hcell 0 (by simp)
  have h1 := hcell 1 (by simp)
  simp only [List.getElem_cons_zero, List.getElem_cons_succ, Nat.add_zero] at h0 h1
  exact order16 big b o n cap x y w h0.1 h1.1 h0.2 h1.2 (by rw [hn]; simp) hnc hc

theorem order32R (big : Bool) (K : Bs) (a : Option Addr) (n cap x y z u : Nat) (l : List Nat) (w : World) (h : Rd K w (.slice a n cap) (x :: y :: z :: u :: l)) (hk : ∀ k, K k → k < w.heap.size) :
    Calls Tryz.prog 105 #[.agg #[.bool big], .slice a n cap] w fun e w' => e = .returned (.int .u32 (f32 big x y z u : Nat)) ∧ Frame no w w' := by
  obtain ⟨a2, n2, c2, hsl, hr2, hzz⟩ := cut_lo h (z := 2) 2 rfl (by simp)
  simp only [List.drop_succ_cons, List.drop_zero] at hr2
  have hsl' := hsl .i64
  have hb := h.2
  have g1 := f16_lt big x y (hb _ (by simp)) (hb _ (by simp))
  have g2 := f16_lt big z u (hb _ (by simp)) (hb _ (by simp))
  have hF0 : Frame no w ((w.alloc (.cells #[.bool big] 131)).drew) := ((Frame.refl _ _).alloc _).drew
  have hc0 : (w.alloc (.cells #[.bool big] 131)).drew.cell? ⟨w.heap.size, 0, none⟩ = some (.bool big) := cell_new _ _ _ _
  have HR := Lib.hid h; have HR2 := Lib.hid hr2; have HK := Lib.hid hk; have HF := Lib.hid hF0
  clear h hr2 hsl hk hb hF0 hzz
  have hg1 : ((f16 big x y : Nat) : Int) < 65536 := by omega
  have hg2 : ((f16 big z u : Nat) : Int) < 65536 := by omega
  have q0 : f32 big x y z u = if big then f16 big x y * 65536 + f16 big z u else f16 big z u * 65536 + f16 big x y := rfl
  have Q0 := Lib.hid q0; clear q0
  generalize f32 big x y z u = R at *
  generalize hp : f16 big x y = p at *
  generalize hq : f16 big z u = q at *
  have HP := Lib.hid hp; have HQ := Lib.hid hq; clear hp hq
  have q1 : IntKind.u32.wrap (p : Int) = p := by simp only [IntKind.wrap_u32]; omega
  have q2 : IntKind.u32.wrap (q : Int) = q := by simp only [IntKind.wrap_u32]; omega
  have q3 : IntKind.u32.wrap ((p : Int) * 65536) = (p : Int) * 65536 := by simp only [IntKind.wrap_u32]; omega
  have q4 : IntKind.u32.wrap ((q : Int) * 65536) = (q : Int) * 65536 := by simp only [IntKind.wrap_u32]; omega
  have q5 := or32 p q g1 g2
  have q6 := or32 q p g2 g1
  cases big
  · go_enter Tryz.func105, Tryz.ntmps105
    go_wp2_with fail
    refine wp_region_seq no 12 [(0, true), (1, true), (2, true), (6, true), (7, true), (3, false), (4, true), (5, true), (8, false), (9, true), (10, true), (11, true)] (by kernel_rfl) (by kernel_rfl) (fun _ _ _ d _ h => by cases d <;> exact h) ?_
    simp only [pickB, List.getElem?_toArray, List.getElem?_cons_zero, List.getElem?_cons_succ, Option.getD_some, Bool.false_eq_true, ↓reduceIte, Nat.reduceLT]
    iterate 5
      refine seq_val (v := ?_) (fun w' hX => ?_) ?_
      rotate_left
      · have x0 := hX.cell hc0 id; clear hX; go_simp; try with_reducible rfl
      try simp only [Act.put, List.setIfInBounds_toArray, List.set_cons_zero, List.set_cons_succ]
    refine seq_new (fun KK hK => ?_)
    go_wp2_with fail
    (with_reducible refine (order16R _ K _ _ _ _ _ _ _ (HR2.out.keep (HF.out.same fun k hk => ⟨HK.out k hk, id⟩))).mono ?_)
    rintro e w1 ⟨rfl, hfw1⟩
    rw [HQ.out]
    have cw1 := hfw1.cell hc0 id
    have Hw1 := Lib.hid (HF.out.trans hfw1 (fun _ h => h.elim)); clear hc0
    go_wp2_with fail
    refine ⟨hfw1, ?_⟩
    clear hfw1
    iterate 2
      refine seq_val (v := ?_) (fun w' hX => ?_) ?_
      rotate_left
      · have x0 := hX.cell cw1 id; clear hX; go_simp; try with_reducible rfl
      try simp only [Act.put, List.setIfInBounds_toArray, List.set_cons_zero, List.set_cons_succ]
    refine seq_new (fun KK hK => ?_)
    go_wp2_with fail
    (with_reducible refine (order16R _ K _ _ _ _ _ _ _ (HR.out.keep (Hw1.out.same fun k hk => ⟨HK.out k hk, id⟩))).mono ?_)
    rintro e w2 ⟨rfl, hfw2⟩
    rw [HP.out]
    have cw2 := hfw2.cell cw1 id
    have Hw2 := Lib.hid (Hw1.out.trans hfw2 (fun _ h => h.elim)); clear cw1
    go_wp2_with fail
    refine ⟨hfw2, ?_⟩
    clear hfw2
    iterate 3
      refine seq_val (v := ?_) (fun w' hX => ?_) ?_
      rotate_left
      · have x0 := hX.cell cw2 id; clear hX; go_simp; try with_reducible rfl
      try simp only [Act.put, List.setIfInBounds_toArray, List.set_cons_zero, List.set_cons_succ]
    refine seq_nil ?_
    go_wp2_with fail
    go_ret
    exact ⟨by rw [Q0.out]; rfl, Hw2.out⟩
  · go_enter Tryz.func105, Tryz.ntmps105
    go_wp2_with fail
    refine wp_region_seq no 12 [(0, true), (1, true), (5, true), (6, true), (7, true), (2, false), (3, true), (4, true), (8, false), (9, true), (10, true), (11, true)] (by kernel_rfl) (by kernel_rfl) (fun _ _ _ d _ h => by cases d <;> exact h) ?_
    simp only [pickB, List.getElem?_toArray, List.getElem?_cons_zero, List.getElem?_cons_succ, Option.getD_some, Bool.false_eq_true, ↓reduceIte, Nat.reduceLT]
    iterate 5
      refine seq_val (v := ?_) (fun w' hX => ?_) ?_
      rotate_left
      · have x0 := hX.cell hc0 id; clear hX; go_simp; try with_reducible rfl
      try simp only [Act.put, List.setIfInBounds_toArray, List.set_cons_zero, List.set_cons_succ]
    refine seq_new (fun KK hK => ?_)
    go_wp2_with fail
    (with_reducible refine (order16R _ K _ _ _ _ _ _ _ (HR.out.keep (HF.out.same fun k hk => ⟨HK.out k hk, id⟩))).mono ?_)
    rintro e w1 ⟨rfl, hfw1⟩
    rw [HP.out]
    have cw1 := hfw1.cell hc0 id
    have Hw1 := Lib.hid (HF.out.trans hfw1 (fun _ h => h.elim)); clear hc0
    go_wp2_with fail
    refine ⟨hfw1, ?_⟩
    clear hfw1
    iterate 2
      refine seq_val (v := ?_) (fun w' hX => ?_) ?_
      rotate_left
      · have x0 := hX.cell cw1 id; clear hX; go_simp; try with_reducible rfl
      try simp only [Act.put, List.setIfInBounds_toArray, List.set_cons_zero, List.set_cons_succ]
    refine seq_new (fun KK hK => ?_)
    go_wp2_with fail
    (with_reducible refine (order16R _ K _ _ _ _ _ _ _ (HR2.out.keep (Hw1.out.same fun k hk => ⟨HK.out k hk, id⟩))).mono ?_)
    rintro e w2 ⟨rfl, hfw2⟩
    rw [HQ.out]
    have cw2 := hfw2.cell cw1 id
    have Hw2 := Lib.hid (Hw1.out.trans hfw2 (fun _ h => h.elim)); clear cw1
    go_wp2_with fail
    refine ⟨hfw2, ?_⟩
    clear hfw2
    iterate 3
      refine seq_val (v := ?_) (fun w' hX => ?_) ?_
      rotate_left
      · have x0 := hX.cell cw2 id; clear hX; go_simp; try with_reducible rfl
      try simp only [Act.put, List.setIfInBounds_toArray, List.set_cons_zero, List.set_cons_succ]
    refine seq_nil ?_
    go_wp2_with fail
    go_ret
    exact ⟨by rw [Q0.out]; rfl, Hw2.out⟩

theorem order64R (big : Bool) (K : Bs) (a : Option Addr) (n cap x y z u x' y' z' u' : Nat) (l : List Nat) (w : World) (h : Rd K w (.slice a n cap) (x :: y :: z :: u :: x' :: y' :: z' :: u' :: l)) (hk : ∀ k, K k → k < w.heap.size) :
    Calls Tryz.prog 104 #[.agg #[.bool big], .slice a n cap] w fun e w' => e = .returned (.int .u64 (f64 big x y z u x' y' z' u' : Nat)) ∧ Frame no w w' := by
  obtain ⟨a2, n2, c2, hsl, hr2, hzz⟩ := cut_lo h (z := 4) 4 rfl (by simp)
  simp only [List.drop_succ_cons, List.drop_zero] at hr2
  have hsl' := hsl .i64
  have hb := h.2
  have g1 := f32_lt big x y z u (hb _ (by simp)) (hb _ (by simp)) (hb _ (by simp)) (hb _ (by simp))
  have g2 := f32_lt big x' y' z' u' (hb _ (by simp)) (hb _ (by simp)) (hb _ (by simp)) (hb _ (by simp))
  have hF0 : Frame no w ((w.alloc (.cells #[.bool big] 131)).drew) := ((Frame.refl _ _).alloc _).drew
  have hc0 : (w.alloc (.cells #[.bool big] 131)).drew.cell? ⟨w.heap.size, 0, none⟩ = some (.bool big) := cell_new _ _ _ _
  have HR := Lib.hid h; have HR2 := Lib.hid hr2; have HK := Lib.hid hk; have HF := Lib.hid hF0
  clear h hr2 hsl hk hb hF0 hzz
  have hg1 : ((f32 big x y z u : Nat) : Int) < 4294967296 := by omega
  have hg2 : ((f32 big x' y' z' u' : Nat) : Int) < 4294967296 := by omega
  have q0 : f64 big x y z u x' y' z' u' = if big then f32 big x y z u * 4294967296 + f32 big x' y' z' u' else f32 big x' y' z' u' * 4294967296 + f32 big x y z u := rfl
  have Q0 := Lib.hid q0; clear q0
  generalize f64 big x y z u x' y' z' u' = R at *
  generalize hp : f32 big x y z u = p at *
  generalize hq : f32 big x' y' z' u' = q at *
  have HP := Lib.hid hp; have HQ := Lib.hid hq; clear hp hq
  have q1 : IntKind.u64.wrap (p : Int) = p := by simp only [IntKind.wrap_u64]; omega
  have q2 : IntKind.u64.wrap (q : Int) = q := by simp only [IntKind.wrap_u64]; omega
  have q3 : IntKind.u64.wrap ((p : Int) * 4294967296) = (p : Int) * 4294967296 := by simp only [IntKind.wrap_u64]; omega
  have q4 : IntKind.u64.wrap ((q : Int) * 4294967296) = (q : Int) * 4294967296 := by simp only [IntKind.wrap_u64]; omega
  have q5 := or64 p q g1 g2
  have q6 := or64 q p g2 g1
  cases big
  · go_enter Tryz.func104, Tryz.ntmps104
    go_wp2_with fail
    refine wp_region_seq no 12 [(0, true), (1, true), (2, true), (6, true), (7, true), (3, false), (4, true), (5, true), (8, false), (9, true), (10, true), (11, true)] (by kernel_rfl) (by kernel_rfl) (fun _ _ _ d _ h => by cases d <;> exact h) ?_
    simp only [pickB, List.getElem?_toArray, List.getElem?_cons_zero, List.getElem?_cons_succ, Option.getD_some, Bool.false_eq_true, ↓reduceIte, Nat.reduceLT]
    iterate 5
      refine seq_val (v := ?_) (fun w' hX => ?_) ?_
      rotate_left
      · have x0 := hX.cell hc0 id; clear hX; go_simp; try with_reducible rfl
      try simp only [Act.put, List.setIfInBounds_toArray, List.set_cons_zero, List.set_cons_succ]
    refine seq_new (fun KK hK => ?_)
    go_wp2_with fail
    (with_reducible refine (order32R _ K _ _ _ _ _ _ _ _ _ (HR2.out.keep (HF.out.same fun k hk => ⟨HK.out k hk, id⟩)) (fun k hk => Nat.lt_of_lt_of_le (HK.out k hk) HF.out.size)).mono ?_)
    rintro e w1 ⟨rfl, hfw1⟩
    rw [HQ.out]
    have cw1 := hfw1.cell hc0 id
    have Hw1 := Lib.hid (HF.out.trans hfw1 (fun _ h => h.elim)); clear hc0
    go_wp2_with fail
    refine ⟨hfw1, ?_⟩
    clear hfw1
    iterate 2
      refine seq_val (v := ?_) (fun w' hX => ?_) ?_
      rotate_left
      · have x0 := hX.cell cw1 id; clear hX; go_simp; try with_reducible rfl
      try simp only [Act.put, List.setIfInBounds_toArray, List.set_cons_zero, List.set_cons_succ]
    refine seq_new (fun KK hK => ?_)
    go_wp2_with fail
    (with_reducible refine (order32R _ K _ _ _ _ _ _ _ _ _ (HR.out.keep (Hw1.out.same fun k hk => ⟨HK.out k hk, id⟩)) (fun k hk => Nat.lt_of_lt_of_le (HK.out k hk) Hw1.out.size)).mono ?_)
    rintro e w2 ⟨rfl, hfw2⟩
    rw [HP.out]
    have cw2 := hfw2.cell cw1 id
    have Hw2 := Lib.hid (Hw1.out.trans hfw2 (fun _ h => h.elim)); clear cw1
    go_wp2_with fail
    refine ⟨hfw2, ?_⟩
    clear hfw2
    iterate 3
      refine seq_val (v := ?_) (fun w' hX => ?_) ?_
      rotate_left
      · have x0 := hX.cell cw2 id; clear hX; go_simp; try with_reducible rfl
      try simp only [Act.put, List.setIfInBounds_toArray, List.set_cons_zero, List.set_cons_succ]
    refine seq_nil ?_
    go_wp2_with fail
    go_ret
    exact ⟨by rw [Q0.out]; rfl, Hw2.out⟩
  · go_enter Tryz.func104, Tryz.ntmps104
    go_wp2_with fail
    refine wp_region_seq no 12 [(0, true), (1, true), (5, true), (6, true), (7, true), (2, false), (3, true), (4, true), (8, false), (9, true), (10, true), (11, true)] (by kernel_rfl) (by kernel_rfl) (fun _ _ _ d _ h => by cases d <;> exact h) ?_
    simp only [pickB, List.getElem?_toArray, List.getElem?_cons_zero, List.getElem?_cons_succ, Option.getD_some, Bool.false_eq_true, ↓reduceIte, Nat.reduceLT]
    iterate 5
      refine seq_val (v := ?_) (fun w' hX => ?_) ?_
      rotate_left
      · have x0 := hX.cell hc0 id; clear hX; go_simp; try with_reducible rfl
      try simp only [Act.put, List.setIfInBounds_toArray, List.set_cons_zero, List.set_cons_succ]
    refine seq_new (fun KK hK => ?_)
    go_wp2_with fail
    (with_reducible refine (order32R _ K _ _ _ _ _ _ _ _ _ (HR.out.keep (HF.out.same fun k hk => ⟨HK.out k hk, id⟩)) (fun k hk => Nat.lt_of_lt_of_le (HK.out k hk) HF.out.size)).mono ?_)
    rintro e w1 ⟨rfl, hfw1⟩
    rw [HP.out]
    have cw1 := hfw1.cell hc0 id
    have Hw1 := Lib.hid (HF.out.trans hfw1 (fun _ h => h.elim)); clear hc0
    go_wp2_with fail
    refine ⟨hfw1, ?_⟩
    clear hfw1
    iterate 2
      refine seq_val (v := ?_) (fun w' hX => ?_) ?_
      rotate_left
      · have x0 := hX.cell cw1 id; clear hX; go_simp; try with_reducible rfl
      try simp only [Act.put, List.setIfInBounds_toArray, List.set_cons_zero, List.set_cons_succ]
    refine seq_new (fun KK hK => ?_)
    go_wp2_with fail
    (with_reducible refine (order32R _ K _ _ _ _ _ _ _ _ _ (HR2.out.keep (Hw1.out.same fun k hk => ⟨HK.out k hk, id⟩)) (fun k hk => Nat.lt_of_lt_of_le (HK.out k hk) Hw1.out.size)).mono ?_)
    rintro e w2 ⟨rfl, hfw2⟩
    rw [HQ.out]
    have cw2 := hfw2.cell cw1 id
    have Hw2 := Lib.hid (Hw1.out.trans hfw2 (fun _ h => h.elim)); clear cw1
    go_wp2_with fail
    refine ⟨hfw2, ?_⟩
    clear hfw2
    iterate 3
      refine seq_val (v := ?_) (fun w' hX => ?_) ?_
      rotate_left
      · have x0 := hX.cell cw2 id; clear hX; go_simp; try with_reducible rfl
      try simp only [Act.put, List.setIfInBounds_toArray, List.set_cons_zero, List.set_cons_succ]
    refine seq_nil ?_
    go_wp2_with fail
    go_ret
    exact ⟨by rw [Q0.out]; rfl, Hw2.out⟩

end Go.Proofs.YtklcoppfkfenfaaGreatDoor
