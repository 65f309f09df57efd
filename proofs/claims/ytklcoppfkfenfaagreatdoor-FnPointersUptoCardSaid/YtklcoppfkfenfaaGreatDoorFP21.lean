/-
  The reader: numbers of two, four and eight bytes out of a buffer; the length of a unit. The reader: numbers in groups of seven bits. The reader: whole numbers in groups; texts; a new buffer.
-/
import Derived.Test.YtklcoppfkfenfaaGreatDoorFP20
import Derived.Lib.SliceRun
import Derived.Laws.Bits64b
set_option linter.all false
set_option linter.unusedVariables false
set_option linter.unusedSimpArgs false
namespace Go.Proofs.YtklcoppfkfenfaaGreatDoor
set_option maxRecDepth 100000
open Go Go.RowKit

theorem byteAt_vals (n : Nat) : byteAt n 0 = n % 256 ∧ byteAt n 1 = n / 256 % 256 ∧ byteAt n 2 = n / 65536 % 256 ∧ byteAt n 3 = n / 16777216 % 256 ∧ byteAt n 4 = n / 4294967296 % 256 ∧ byteAt n 5 = n / 1099511627776 % 256 ∧ byteAt n 6 = n / 281474976710656 % 256 ∧ byteAt n 7 = n / 72057594037927936 % 256 := by
  refine ⟨?_, rfl, rfl, rfl, rfl, rfl, rfl, rfl⟩
  simp [byteAt]
theorem num2 (n : Nat) (big : Bool) (h : n < 65536) : ∃ x y, num n 2 big = [x, y] ∧ f16 big x y = n := by
  obtain ⟨h0, h1, _⟩ := byteAt_vals n
  cases big
  · refine ⟨byteAt n 0, byteAt n 1, rfl, ?_⟩
    show byteAt n 1 * 256 + byteAt n 0 = n
    omega
  · refine ⟨byteAt n 1, byteAt n 0, rfl, ?_⟩
    show byteAt n 1 * 256 + byteAt n 0 = n
    omega
theorem num4 (n : Nat) (big : Bool) (h : n < 4294967296) : ∃ x y z u, num n 4 big = [x, y, z, u] ∧ f32 big x y z u = n := by
  obtain ⟨h0, h1, h2, h3, _⟩ := byteAt_vals n
  cases big
  · refine ⟨byteAt n 0, byteAt n 1, byteAt n 2, byteAt n 3, rfl, ?_⟩
    show (byteAt n 3 * 256 + byteAt n 2) * 65536 + (byteAt n 1 * 256 + byteAt n 0) = n
    omega
  · refine ⟨byteAt n 3, byteAt n 2, byteAt n 1, byteAt n 0, rfl, ?_⟩
    show (byteAt n 3 * 256 + byteAt n 2) * 65536 + (byteAt n 1 * 256 + byteAt n 0) = n
    omega
theorem num8 (n : Nat) (big : Bool) (h : n < 18446744073709551616) : ∃ x y z u x' y' z' u', num n 8 big = [x, y, z, u, x', y', z', u'] ∧ f64 big x y z u x' y' z' u' = n := by
  obtain ⟨h0, h1, h2, h3, h4, h5, h6, h7⟩ := byteAt_vals n
  cases big
  · refine ⟨byteAt n 0, byteAt n 1, byteAt n 2, byteAt n 3, byteAt n 4, byteAt n 5, byteAt n 6, byteAt n 7, rfl, ?_⟩
    show ((byteAt n 7 * 256 + byteAt n 6) * 65536 + (byteAt n 5 * 256 + byteAt n 4)) * 4294967296 + ((byteAt n 3 * 256 + byteAt n 2) * 65536 + (byteAt n 1 * 256 + byteAt n 0)) = n
    omega
  · refine ⟨byteAt n 7, byteAt n 6, byteAt n 5, byteAt n 4, byteAt n 3, byteAt n 2, byteAt n 1, byteAt n 0, rfl, ?_⟩
    show ((byteAt n 7 * 256 + byteAt n 6) * 65536 + (byteAt n 5 * 256 + byteAt n 4)) * 4294967296 + ((byteAt n 3 * 256 + byteAt n 2) * 65536 + (byteAt n 1 * 256 + byteAt n 0)) = n
    omega

theorem nil34 (a : Addr) (n c : Nat) (w : World) : (binOp .eql 34 (.slice (some a) n c) (.slice none 0 0)).run Tryz.prog w = .ok (.bool false) w := Lib.run_eql_slice_nil w 34 5 (some a) n c 0 0 underlying34
theorem bytesN (B : Nat) (K : Bs) (c : BufK) (off m : Nat) (p l : List Nat) (w : World) (h : Buf w B K c off (p ++ l)) (hp : p.length = m) (hm : 0 < m) {z : Int} (hz : (m : Int) = z) :
    Calls Tryz.prog 88 #[.pointer (some ⟨B, 0, none⟩), .int .i64 z] w fun e w' => ∃ b o cap, e = .returned (.slice (some ⟨b, o, none⟩) m cap) ∧ Rd K w' (.slice (some ⟨b, o, none⟩) m cap) p ∧ Buf w' B K c (off + m) l ∧ Frame (fun k => k = B) w w' := by
  subst hz
  refine (bytes_any B K c off m p l w h hp).mono ?_
  rintro e w' ⟨a, cap, rfl, hr, hb, hf⟩
  rw [hp] at hr ⊢
  obtain ⟨b, o, rfl, _⟩ := rd_cell hr (by omega)
  exact ⟨b, o, cap, rfl, hr, hb, hf⟩

theorem Buf.get {w : World} {B : Nat} {K : Bs} {c : BufK} {off : Nat} {l : List Nat} (h : Buf w B K c off l) : w.cell? ⟨B, 0, none⟩ = some c.dp ∧ w.cell? ⟨B, 1, none⟩ = some (.bool c.big) ∧ w.cell? ⟨B, 2, none⟩ = some c.fmt ∧ w.cell? ⟨B, 4, none⟩ = some (.int .u32 (off : Int)) ∧ w.cell? ⟨B, 6, none⟩ = some .nilIface ∧ (∃ a cap, w.cell? ⟨B, 5, none⟩ = some (.slice a l.length cap) ∧ l.length ≤ cap) := by
  obtain ⟨a, n, cap, h1, h2⟩ := h.ex
  obtain ⟨c0, c1, c2, c4, c5, c6, _⟩ := buf_cells h1
  obtain ⟨⟨_, _, _, he, h7, _⟩, _⟩ := h2
  simp only [Value.slice.injEq] at he
  obtain ⟨rfl, rfl, rfl⟩ := he
  exact ⟨c0, c1, c2, c4, c6, a, cap, c5, h7⟩
theorem Got.up {B : Nat} {K : Bs} {c : BufK} {off : Nat} {l : List Nat} {w w1 w2 : World} {r : Value} (hb : Buf w1 B K c off l) (hf : Frame (fun k => k = B) w w1) (h2 : Frame no w1 w2) : Got B K c off l w r (.returned r) w2 :=
  ⟨rfl, hb.keep h2 id fun k hk => ⟨(hb.apart k hk).1, id⟩, hf.trans h2 fun _ h => h.elim⟩

theorem uint16_any (B : Nat) (K : Bs) (c : BufK) (off n : Nat) (l : List Nat) (w : World) (h : Buf w B K c off (num n 2 c.big ++ l)) (hn : n < 65536) :
    Calls Tryz.prog 84 #[.pointer (some ⟨B, 0, none⟩)] w (Got B K c (off + 2) l w (.int .u16 (n : Int))) := by
  obtain ⟨x, y, hxy, hf⟩ := num2 n c.big hn
  rw [hxy] at h
  subst hf
  clear hxy
  go_enter Tryz.func84, Tryz.ntmps84
  go_wp2_with fail
  (with_reducible refine (bytesN (z := 2) B K c off 2 [x, y] l w h rfl (by decide) rfl).mono ?_)
  rintro e w1 ⟨b, o, cap, rfl, hr, hb, hf⟩
  obtain ⟨_, c1, _⟩ := hb.get
  have hnil := nil34 ⟨b, o, none⟩
  go_wp2_with fail
  (with_reducible refine (order16R _ K _ _ _ _ _ _ _ hr).mono ?_)
  rintro e w2 ⟨rfl, hf2⟩
  clear c1
  go_wp2_with fail
  go_ret
  exact Got.up hb hf hf2
theorem uint32_any (B : Nat) (K : Bs) (c : BufK) (off n : Nat) (l : List Nat) (w : World) (h : Buf w B K c off (num n 4 c.big ++ l)) (hn : n < 4294967296) :
    Calls Tryz.prog 77 #[.pointer (some ⟨B, 0, none⟩)] w (Got B K c (off + 4) l w (.int .u32 (n : Int))) := by
  obtain ⟨x, y, z, u, hxy, hf⟩ := num4 n c.big hn
  rw [hxy] at h
  subst hf
  clear hxy
  go_enter Tryz.func77, Tryz.ntmps77
  go_wp2_with fail
  (with_reducible refine (bytesN (z := 4) B K c off 4 [x, y, z, u] l w h rfl (by decide) rfl).mono ?_)
  rintro e w1 ⟨b, o, cap, rfl, hr, hb, hf⟩
  obtain ⟨_, c1, _⟩ := hb.get
  have hnil := nil34 ⟨b, o, none⟩
  go_wp2_with fail
  (with_reducible refine (order32R _ K _ _ _ _ _ _ _ _ _ hr (fun k hk => (hb.apart k hk).1)).mono ?_)
  rintro e w2 ⟨rfl, hf2⟩
  clear c1
  go_wp2_with fail
  go_ret
  exact Got.up hb hf hf2
theorem uint64_any (B : Nat) (K : Bs) (c : BufK) (off n : Nat) (l : List Nat) (w : World) (h : Buf w B K c off (num n 8 c.big ++ l)) (hn : n < 18446744073709551616) :
    Calls Tryz.prog 76 #[.pointer (some ⟨B, 0, none⟩)] w (Got B K c (off + 8) l w (.int .u64 (n : Int))) := by
  obtain ⟨x, y, z, u, x', y', z', u', hxy, hf⟩ := num8 n c.big hn
  rw [hxy] at h
  subst hf
  clear hxy
  go_enter Tryz.func76, Tryz.ntmps76
  go_wp2_with fail
  (with_reducible refine (bytesN (z := 8) B K c off 8 [x, y, z, u, x', y', z', u'] l w h rfl (by decide) rfl).mono ?_)
  rintro e w1 ⟨b, o, cap, rfl, hr, hb, hf⟩
  obtain ⟨_, c1, _⟩ := hb.get
  have hnil := nil34 ⟨b, o, none⟩
  go_wp2_with fail
  (with_reducible refine (order64R _ K _ _ _ _ _ _ _ _ _ _ _ _ _ hr (fun k hk => (hb.apart k hk).1)).mono ?_)
  rintro e w2 ⟨rfl, hf2⟩
  clear c1
  go_wp2_with fail
  go_ret
  exact Got.up hb hf hf2

/-- the length of a unit -/
theorem unitLength_any (B : Nat) (K : Bs) (c : BufK) (off n : Nat) (wide : Bool) (l : List Nat) (w : World) (h : Buf w B K c off (lenB n wide c.big ++ l)) (hn : n < 4294967280) :
    Calls Tryz.prog 100 #[.pointer (some ⟨B, 0, none⟩)] w (Got B K c (off + (lenB n wide c.big).length) l w (.tuple #[.int .u32 (n : Int), .bool wide])) := by
  cases wide
  · have e : lenB n false c.big = num n 4 c.big := rfl
    rw [e] at h ⊢
    rw [num_length]
    have hn' : (n : Int) < 4294967280 := by omega
    go_enter Tryz.func100, Tryz.ntmps100
    go_wp2_with fail
    (with_reducible refine (uint32_any B K c off n l w h (by omega)).mono ?_)
    rintro e w1 ⟨rfl, hb, hf⟩
    have ht : ((n : Int) == 4294967295) = false := by simp; omega
    have ht2 : decide ((n : Int) ≥ 4294967280) = false := by simp; omega
    go_wp2_with fail
    go_ret2
    exact ⟨rfl, hb, hf⟩
  · have e : lenB n true c.big ++ l = num 4294967295 4 c.big ++ (num n 8 c.big ++ l) := by
      have : num 4294967295 4 c.big = [255, 255, 255, 255] := by cases c.big <;> rfl
      rw [this]; simp [lenB]
    have e2 : (lenB n true c.big).length = 4 + 8 := by simp [lenB]
    rw [e] at h
    rw [e2, ← Nat.add_assoc]
    clear e e2
    go_enter Tryz.func100, Tryz.ntmps100
    go_wp2_with fail
    (with_reducible refine (uint32_any B K c off 4294967295 (num n 8 c.big ++ l) w h (by omega)).mono ?_)
    rintro e w1 ⟨rfl, hb, hf⟩
    go_wp2_with fail
    (with_reducible refine (uint64_any B K c (off + 4) n l w1 hb (by omega)).mono ?_)
    rintro e w2 ⟨rfl, hb2, hf2⟩
    have hw : IntKind.u32.wrap (n : Int) = n := by simp only [IntKind.wrap_u32]; omega
    go_wp2_with fail
    go_ret2
    exact ⟨rfl, hb2, hf.trans' hf2⟩
end Go.Proofs.YtklcoppfkfenfaaGreatDoor
namespace Go.Proofs.YtklcoppfkfenfaaGreatDoor
set_option maxRecDepth 100000
open Go Go.RowKit

/-- the number that groups of seven bits tell -/
def lebV : List Nat → Nat
  | [] => 0
  | x :: l => x % 128 + 128 * lebV l
/-- all but the last one are greater by 128 -/
def IsLeb (g : List Nat) : Prop := g ≠ [] ∧ ∀ i (h : i < g.length), (g[i] < 128 ↔ i + 1 = g.length) ∧ g[i] < 256
theorem IsLeb.one (x : Nat) (h : x < 128) : IsLeb [x] := ⟨by simp, fun i hi => by simp at hi; subst hi; simp; omega⟩
theorem IsLeb.cons {g : List Nat} (h : IsLeb g) (x : Nat) (h1 : 128 ≤ x) (h2 : x < 256) : IsLeb (x :: g) := by
  refine ⟨by simp, fun i hi => ?_⟩
  cases i with
  | zero => simp; constructor; (constructor; intro; omega; intro e; exact absurd e h.1); omega
  | succ i =>
    have := h.2 i (by simpa using hi)
    simp only [List.getElem_cons_succ, List.length_cons]
    exact ⟨⟨fun e => by rw [this.1.1 e], fun e => this.1.2 (by omega)⟩, this.2⟩
theorem uleb_leb (n : Nat) : IsLeb (uleb n) ∧ lebV (uleb n) = n := by
  induction n using Nat.strongRecOn with
  | _ n ih =>
    by_cases h : n < 128
    · rw [uleb_lt n h]; exact ⟨IsLeb.one n h, by simp [lebV]; omega⟩
    · rw [uleb_ge n (by omega)]
      obtain ⟨h1, h2⟩ := ih (n / 128) (by omega)
      exact ⟨h1.cons _ (by omega) (by omega), by simp only [lebV, h2]; omega⟩
theorem lebV_lt : ∀ (g : List Nat), lebV g < 2 ^ (7 * g.length)
  | [] => by simp [lebV]
  | x :: g => by
    have := lebV_lt g
    have e : (2 : Nat) ^ (7 * (x :: g).length) = 128 * 2 ^ (7 * g.length) := by rw [List.length_cons, Nat.mul_add, Nat.pow_add]; omega
    rw [e]; simp only [lebV]; omega
theorem lebV_take : ∀ (g : List Nat) (k : Nat) (h : k < g.length), lebV (g.take (k + 1)) = lebV (g.take k) + g[k] % 128 * 2 ^ (7 * k)
  | x :: g, 0, _ => by simp [lebV]
  | x :: g, k + 1, h => by
    have := lebV_take g k (by simpa using h)
    simp only [List.take_succ_cons, lebV, List.getElem_cons_succ] at this ⊢
    rw [this, Nat.mul_add, ← Nat.add_assoc, show 7 * (k + 1) = 7 * k + 7 by omega, Nat.pow_add]
    congr 1
    rw [Nat.mul_left_comm, Nat.mul_comm 128]
theorem or_grp (a x s : Nat) (ha : a < 2 ^ s) (hs : s ≤ 63) : (a ||| (x * 2 ^ s % 18446744073709551616)) = (a + x * 2 ^ s) % 18446744073709551616 := by
  have e : (18446744073709551616 : Nat) = 2 ^ (64 - s) * 2 ^ s := by rw [← Nat.pow_add, show 64 - s + s = 64 by omega]
  have e1 : x * 2 ^ s % 18446744073709551616 = (x % 2 ^ (64 - s)) * 2 ^ s := by rw [e, Nat.mul_mod_mul_right]
  have h2 := or_add (x % 2 ^ (64 - s)) a s ha
  rw [e1, Nat.or_comm, h2]
  have h3 : x % 2 ^ (64 - s) < 2 ^ (64 - s) := Nat.mod_lt _ (Nat.pow_pos (by decide))
  have h4 : (x % 2 ^ (64 - s)) * 2 ^ s + a < 18446744073709551616 := by
    have : (x % 2 ^ (64 - s) + 1) * 2 ^ s ≤ 18446744073709551616 := by rw [e]; exact Nat.mul_le_mul_right _ h3
    rw [Nat.add_mul] at this; omega
  rw [← Nat.mod_eq_of_lt h4, ← e1, Nat.add_comm a]
  rw [Nat.mod_add_mod]

theorem and127 (x : Nat) (h : x < 256) : bits .and .u8 (x : Int) 127 = ((x % 128 : Nat) : Int) := by
  have : ∀ y : Fin 256, bits .and .u8 ((y.val : Nat) : Int) 127 = ((y.val % 128 : Nat) : Int) := by decide
  exact this ⟨x, h⟩
theorem and128 (x : Nat) (h : x < 256) : bits .and .u8 (x : Int) 128 = if x < 128 then 0 else 128 := by
  have : ∀ y : Fin 256, bits .and .u8 ((y.val : Nat) : Int) 128 = if y.val < 128 then 0 else 128 := by decide
  exact this ⟨x, h⟩

theorem varint_any (B : Nat) (K : Bs) (c : BufK) (off : Nat) (g l : List Nat) (w : World) (h : Buf w B K c off (g ++ l)) (hg : IsLeb g) (hg10 : g.length ≤ 10) :
    Calls Tryz.prog 103 #[.pointer (some ⟨B, 0, none⟩)] w (Got B K c (off + g.length) l w (.tuple #[.int .u64 (lebV g % 18446744073709551616 : Nat), .int .u64 (7 * g.length : Nat)])) := by
  obtain ⟨a, n, cap, h1, hr⟩ := h.ex
  obtain ⟨c0, c1, c2, c4, c5, c6, f4, f5⟩ := buf_cells h1
  have hpos : 0 < g.length := List.length_pos_iff.2 hg.1
  obtain ⟨b, o, rfl, hn, hnc, hcm, hcell⟩ := rd_cell hr (by simp; omega)
  have hlt := h.lt
  simp only [List.length_append] at hn hlt
  have H1 := Lib.hid h1; have HR := Lib.hid hr; have HNB := Lib.hid h.apart; have HC := Lib.hid hcell; have HG := Lib.hid hg.2
  clear h1 hr h hcell hg c0 c1 c2 c6
  subst hn
  go_enter Tryz.func103, Tryz.ntmps103
  go_wp2_with fail
  go_loopw [2, 3, 4] (fun s2 s3 s4 wr => ∃ k A : Nat, k < g.length ∧ s4 = .int .i64 k ∧ s3 = .int .u64 (7 * k : Nat) ∧ s2 = .int .u64 (A : Int) ∧ A = lebV (g.take k) ∧ wr = w) (fun _ _ i _ => g.length - (intOf i).toNat)
  case atStart => exact ⟨0, 0, hpos, rfl, rfl, rfl, rfl, rfl⟩
  case round =>
    obtain ⟨k, A, hk, rfl, rfl, rfl, hA, rfl⟩ := hrel
    obtain ⟨hcc, hx⟩ := HC.out k (by simp; omega)
    obtain ⟨hlast, _⟩ := HG.out k hk
    rw [List.getElem_append_left hk] at hcc hx
    have HT := Lib.hid (lebV_take g k hk)
    have hAl := lebV_lt (g.take k)
    rw [List.length_take, Nat.min_eq_left (by omega), ← hA] at hAl
    have HA := Lib.hid hA; clear hA
    generalize hX : g[k] = X at *
    have HX := Lib.hid hX; clear hX
    have hb1 := and127 X hx
    have hb2 := and128 X hx
    have hY : X % 128 < 128 := Nat.mod_lt _ (by decide)
    have hor := or_grp A (X % 128) (7 * k) hAl (by omega)
    have hpow : (2 : Nat) ^ (7 * k) ≤ 2 ^ 63 := Nat.pow_le_pow_right (by decide) (by omega)
    have q2 : IntKind.u64.wrap (((X % 128 : Nat) : Int) * 2 ^ (7 * k)) = ((X % 128 * 2 ^ (7 * k) % 18446744073709551616 : Nat) : Int) := by
      rw [IntKind.wrap_u64]; simp
    have q3 := bits_or_u64_nat A (X % 128 * 2 ^ (7 * k) % 18446744073709551616) (by omega) (Nat.mod_lt _ (by decide))
    rw [hor] at q3
    generalize hZ : X % 128 * 2 ^ (7 * k) % 18446744073709551616 = Z at *
    generalize hA' : (A + X % 128 * 2 ^ (7 * k)) % 18446744073709551616 = A' at *
    generalize hYY : X % 128 = Y at *
    have HA' := Lib.hid hA'; have HZ := Lib.hid hZ; have HYY := Lib.hid hYY; clear hA' hZ hYY hor hpow hAl
    have q1 : IntKind.u64.wrap (Y : Int) = Y := by rw [IntKind.wrap_u64]; omega
    have HL := Lib.hid hlast
    by_cases hlt2 : X < 128
    · have hk1 := hlast.1 hlt2
      obtain ⟨a', n', c', hsl, hrd, hn'⟩ := cut_lo HR.out (z := (k : Int) + 1) g.length (by omega) (by simp)
      simp only [List.drop_left] at hrd
      have hsl' := hsl .i64
      have HRD := Lib.hid hrd; have HK1 := Lib.hid hk1
      rw [if_pos hlt2] at hb2
      have w1 : IntKind.u32.wrap ((k : Int) + 1) = (k : Int) + 1 := by rw [IntKind.wrap_u32]; omega
      clear hsl hrd hn' hlast hk1
      go_wp2_with fail
      go_ret2
      have e1 : lebV g % 18446744073709551616 = A' := by
        have := HT.out
        rw [HK1.out, List.take_length] at this
        rw [this, ← HA'.out, HA.out]
      rw [e1]
      have hk1 := HK1.out
      refine ⟨?_, Buf.move' H1.out HNB.out (l' := l) (off' := off + g.length) HRD.out (by omega) (by omega)⟩
      rw [← hk1]; simp; omega
    · rw [if_neg hlt2] at hb2
      have hk1 : ¬ k + 1 = g.length := fun e => hlt2 (hlast.2 e)
      clear hlast
      go_wp2_with fail
      go_roundw
      case rel =>
        refine ⟨k + 1, A', by omega, by go_num, by go_num, rfl, ?_, trivial⟩
        have h9 := lebV_lt (g.take (k + 1))
        have h10 : (2 : Nat) ^ (7 * (g.take (k + 1)).length) ≤ 2 ^ 63 := Nat.pow_le_pow_right (by decide) (by rw [List.length_take]; omega)
        rw [HT.out] at h9 ⊢
        rw [← HA'.out, HA.out]
        rw [← HA.out] at h9 ⊢
        exact Nat.mod_eq_of_lt (by omega)
      case measure => simp [intOf]; omega
end Go.Proofs.YtklcoppfkfenfaaGreatDoor
namespace Go.Proofs.YtklcoppfkfenfaaGreatDoor
set_option maxRecDepth 100000
open Go Go.RowKit

theorem uint_any (B : Nat) (K : Bs) (c : BufK) (off n : Nat) (l : List Nat) (w : World) (h : Buf w B K c off (uleb n ++ l)) (hn : n < 18446744073709551616) :
    Calls Tryz.prog 72 #[.pointer (some ⟨B, 0, none⟩)] w (Got B K c (off + (uleb n).length) l w (.int .u64 (n : Int))) := by
  obtain ⟨h1, h2⟩ := uleb_leb n
  have hl := uleb_len64 n hn
  have hcall := varint_any B K c off (uleb n) l w h h1 hl
  have hpos : 0 < (uleb n).length := List.length_pos_iff.2 h1.1
  rw [h2, Nat.mod_eq_of_lt hn] at hcall
  have HC := Lib.hid hcall
  clear hcall h h1 h2
  generalize (uleb n).length = m at *
  have hm2 : (7 * (m : Int) == 0) = false := by simp; omega
  go_enter Tryz.func72, Tryz.ntmps72
  go_wp2_with fail
  (with_reducible refine HC.out.mono ?_)
  rintro e w1 ⟨rfl, hb, hf⟩
  go_wp2_with fail
  go_ret
  exact ⟨rfl, hb, hf⟩

theorem sleb_leb (z : Int) : IsLeb (sleb z) ∧ ∃ q : Int, (lebV (sleb z) : Int) = z + q * (2 ^ (7 * (sleb z).length) : Nat) ∧ (-((2 ^ (7 * (sleb z).length - 1) : Nat) : Int) ≤ z ∧ z < ((2 ^ (7 * (sleb z).length - 1) : Nat) : Int)) := by
  induction z using sleb.induct with
  | case1 z h ih =>
    rw [sleb_out z (by omega)]
    obtain ⟨h1, q, h2, h3⟩ := ih
    have hpos : 0 < (sleb (z / 128)).length := List.length_pos_iff.2 h1.1
    have e : (2 : Nat) ^ (7 * ((sleb (z / 128)).length + 1)) = 128 * 2 ^ (7 * (sleb (z / 128)).length) := by rw [Nat.mul_add, Nat.pow_add]; omega
    have e2 : (2 : Nat) ^ (7 * ((sleb (z / 128)).length + 1) - 1) = 128 * 2 ^ (7 * (sleb (z / 128)).length - 1) := by
      rw [show 7 * ((sleb (z / 128)).length + 1) - 1 = (7 * (sleb (z / 128)).length - 1) + 7 by omega, Nat.pow_add]; omega
    refine ⟨h1.cons _ (by omega) (by omega), q, ?_, ?_⟩
    · rw [List.length_cons, e]
      simp only [lebV]
      have e3 : q * ((128 * 2 ^ (7 * (sleb (z / 128)).length) : Nat) : Int) = 128 * (q * ((2 ^ (7 * (sleb (z / 128)).length) : Nat) : Int)) := by
        rw [Int.natCast_mul, Int.mul_left_comm]; rfl
      rw [e3]
      generalize q * ((2 ^ (7 * (sleb (z / 128)).length) : Nat) : Int) = Q at *
      omega
    · rw [List.length_cons, e2]
      omega
  | case2 z h =>
    rw [sleb_in z (by omega)]
    refine ⟨IsLeb.one _ (by omega), if z < 0 then 1 else 0, ?_, ?_⟩
    · simp only [lebV, List.length_cons, List.length_nil]
      split <;> omega
    · simp only [List.length_cons, List.length_nil]
      omega
theorem bits_and_nat (k : IntKind) (n : Nat) (hb : k.bits = n) (a b : Nat) (ha : a < 2 ^ n) (hb' : b < 2 ^ n) (hw : k.wrap ((a &&& b : Nat) : Int) = ((a &&& b : Nat) : Int)) : bits .and k (a : Int) (b : Int) = ((a &&& b : Nat) : Int) := by
  subst hb
  have h1 : (BitVec.ofInt k.bits (a : Int)).toNat = a := by rw [BitVec.ofInt_natCast, BitVec.toNat_ofNat]; exact Nat.mod_eq_of_lt ha
  have h2 : (BitVec.ofInt k.bits (b : Int)).toNat = b := by rw [BitVec.ofInt_natCast, BitVec.toNat_ofNat]; exact Nat.mod_eq_of_lt hb'
  show k.wrap ((BitVec.ofInt k.bits (a : Int) &&& BitVec.ofInt k.bits (b : Int)).toNat : Int) = _
  rw [BitVec.toNat_and, h1, h2]
  exact hw
theorem and_top (a k : Nat) (ha : a < 2 ^ (k + 1)) (hk : k ≤ 62) : bits .and .i64 (a : Int) ((2 ^ k : Nat) : Int) = if a < 2 ^ k then 0 else ((2 ^ k : Nat) : Int) := by
  have hp : (2 : Nat) ^ k ≤ 2 ^ 62 := Nat.pow_le_pow_right (by decide) hk
  have hp1 : (2 : Nat) ^ (k + 1) = 2 * 2 ^ k := by rw [Nat.pow_succ]; omega
  have e : a &&& 2 ^ k = if a < 2 ^ k then 0 else 2 ^ k := by
    have h1 : a.testBit k = decide (2 ^ k ≤ a) := by
      rw [Nat.testBit_eq_decide_div_mod_eq]
      by_cases h : 2 ^ k ≤ a
      · have : a / 2 ^ k = 1 := Nat.div_eq_of_lt_le (by omega) (by omega)
        simp [this, h]
      · have : a / 2 ^ k = 0 := Nat.div_eq_of_lt (by omega)
        simp [this, h]
    apply Nat.eq_of_testBit_eq
    intro i
    rw [Nat.testBit_and, Nat.testBit_two_pow]
    by_cases hi : k = i
    · subst hi
      rw [h1]
      by_cases h : a < 2 ^ k
      · rw [if_pos h]; simp; omega
      · rw [if_neg h, Nat.testBit_two_pow]; simp; omega
    · by_cases h : a < 2 ^ k
      · rw [if_pos h]; simp [hi]
      · rw [if_neg h, Nat.testBit_two_pow]; simp [hi]
  rw [bits_and_nat .i64 64 rfl a (2 ^ k) (by omega) (by omega) (by rw [e, IntKind.wrap_i64]; split <;> omega), e]
  split <;> simp
theorem or_sign (a k : Nat) (ha : a < 2 ^ k) (hk : k ≤ 63) : bits .or .i64 (a : Int) (-((2 ^ k : Nat) : Int)) = (a : Int) - ((2 ^ k : Nat) : Int) := by
  have hp : (2 : Nat) ^ k ≤ 2 ^ 63 := Nat.pow_le_pow_right (by decide) hk
  have hp0 : 0 < (2 : Nat) ^ k := Nat.pow_pos (by decide)
  have h1 : (BitVec.ofInt 64 (a : Int)).toNat = a := by rw [BitVec.ofInt_natCast, BitVec.toNat_ofNat]; exact Nat.mod_eq_of_lt (by omega)
  have h2 : (BitVec.ofInt 64 (-((2 ^ k : Nat) : Int))).toNat = (2 ^ (64 - k) - 1) * 2 ^ k := by
    have e : (18446744073709551616 : Nat) = 2 ^ (64 - k) * 2 ^ k := by rw [← Nat.pow_add, show 64 - k + k = 64 by omega]
    rw [Nat.sub_mul, ← e, BitVec.toNat_ofInt]
    omega
  show IntKind.i64.wrap ((BitVec.ofInt 64 (a : Int) ||| BitVec.ofInt 64 (-((2 ^ k : Nat) : Int))).toNat : Int) = _
  rw [BitVec.toNat_or, h1, h2, Nat.or_comm, or_add _ _ _ ha, Nat.sub_mul]
  have e : (18446744073709551616 : Nat) = 2 ^ (64 - k) * 2 ^ k := by rw [← Nat.pow_add, show 64 - k + k = 64 by omega]
  rw [← e, IntKind.wrap_i64]
  omega

theorem int_any (B : Nat) (K : Bs) (c : BufK) (off : Nat) (z : Int) (l : List Nat) (w : World) (h : Buf w B K c off (sleb z ++ l)) (hz : -9223372036854775808 ≤ z ∧ z ≤ 9223372036854775807) :
    Calls Tryz.prog 89 #[.pointer (some ⟨B, 0, none⟩)] w (Got B K c (off + (sleb z).length) l w (.int .i64 z)) := by
  obtain ⟨h1, q, h2, h3, h4⟩ := sleb_leb z
  have hl := sleb_len64 z hz
  have hcall := varint_any B K c off (sleb z) l w h h1 hl
  have hpos : 0 < (sleb z).length := List.length_pos_iff.2 h1.1
  have hvl := lebV_lt (sleb z)
  have HC := Lib.hid hcall
  clear hcall h h1
  generalize lebV (sleb z) = V at *
  generalize (sleb z).length = m at *
  have hm2 : (7 * (m : Int) == 0) = false := by simp; omega
  by_cases hm : m ≤ 9
  · have hp : (2 : Nat) ^ (7 * m) ≤ 2 ^ 63 := Nat.pow_le_pow_right (by decide) (by omega)
    have hp2 : (2 : Nat) ^ (7 * m) = 2 * 2 ^ (7 * m - 1) := by conv => lhs; rw [show 7 * m = 7 * m - 1 + 1 by omega, Nat.pow_succ, Nat.mul_comm]
    have hmod : V % 18446744073709551616 = V := Nat.mod_eq_of_lt (by omega)
    rw [hmod] at HC
    have hq : q = if z < 0 then 1 else 0 := by
      have e : q * ((2 ^ (7 * m) : Nat) : Int) = (V : Int) - z := by omega
      rcases Int.lt_trichotomy q 0 with hq | hq | hq
      · have : q * ((2 ^ (7 * m) : Nat) : Int) ≤ -1 * ((2 ^ (7 * m) : Nat) : Int) := Int.mul_le_mul_of_nonneg_right (by omega) (by omega)
        omega
      · subst hq; split <;> omega
      · rcases Int.lt_or_le 1 q with hq1 | hq1
        · have : 2 * ((2 ^ (7 * m) : Nat) : Int) ≤ q * ((2 ^ (7 * m) : Nat) : Int) := Int.mul_le_mul_of_nonneg_right (by omega) (by omega)
          omega
        · obtain rfl : q = 1 := by omega
          split <;> omega
    have s1 : wrap64 ((2 : Int) ^ (7 * m - 1)) = ((2 ^ (7 * m - 1) : Nat) : Int) := by
      have : (2 : Int) ^ (7 * m - 1) = ((2 ^ (7 * m - 1) : Nat) : Int) := by simp
      rw [this]; unfold wrap64; omega
    have hw : wrap64 (V : Int) = V := by unfold wrap64; omega
    have hand := and_top V (7 * m - 1) (by rw [show 7 * m - 1 + 1 = 7 * m by omega]; exact hvl) (by omega)
    have s2 : wrap64 (-(2 : Int) ^ (7 * m)) = (-((2 ^ (7 * m) : Nat) : Int)) := by
      have : (2 : Int) ^ (7 * m) = ((2 ^ (7 * m) : Nat) : Int) := by simp
      rw [this]; unfold wrap64; omega
    have hor := or_sign V (7 * m) hvl (by omega)
    by_cases hneg : z < 0
    · rw [if_pos hneg] at hq
      subst hq
      rw [if_neg (by omega)] at hand
      have hres : (V : Int) - ((2 ^ (7 * m) : Nat) : Int) = z := by omega
      rw [hres] at hor
      have hp0 : 0 < (2 : Nat) ^ (7 * m - 1) := Nat.pow_pos (by decide)
      have hne : (((2 ^ (7 * m - 1) : Nat) : Int) != 0) = true := by rw [bne_iff_ne]; omega
      have hm7 : 7 * (m : Int) - 1 ≤ 62 := by omega
      clear h2 h3 h4 hvl hmod hres hp hp2 hp0
      generalize ((2 ^ (7 * m - 1) : Nat) : Int) = P1 at *
      generalize (-((2 ^ (7 * m) : Nat) : Int)) = P2 at *
      go_enter Tryz.func89, Tryz.ntmps89
      go_wp2_with fail
      (with_reducible refine HC.out.mono ?_)
      rintro e w1 ⟨rfl, hb, hf⟩
      go_wp2_with fail
      go_ret
      exact ⟨rfl, hb, hf⟩
    · rw [if_neg hneg] at hq
      subst hq
      rw [if_pos (by omega)] at hand
      have hres : z = (V : Int) := by omega
      clear h2 h3 h4 hvl hmod hp hp2 hor s2
      subst hres
      generalize ((2 ^ (7 * m - 1) : Nat) : Int) = P1 at *
      go_enter Tryz.func89, Tryz.ntmps89
      go_wp2_with fail
      (with_reducible refine HC.out.mono ?_)
      rintro e w1 ⟨rfl, hb, hf⟩
      go_wp2_with fail
      go_ret
      exact ⟨rfl, hb, hf⟩
  · obtain rfl : m = 10 := by omega
    have s1 : Op.shift .shl .i64 1 .u64 69 = pure (.int .i64 0) := by rfl
    have hz2 : wrap64 ((V % 18446744073709551616 : Nat) : Int) = z := by
      have e : ((2 ^ (7 * 10) : Nat) : Int) = 64 * 18446744073709551616 := by decide
      rw [e] at h2
      unfold wrap64
      omega
    have hand : bits .and .i64 z 0 = 0 := by
      show IntKind.i64.wrap ((BitVec.ofInt 64 z &&& BitVec.ofInt 64 0).toNat : Int) = 0
      simp
      decide
    have HZ := Lib.hid hz2
    clear h2 h3 h4 hvl
    generalize V % 18446744073709551616 = U at *
    go_enter Tryz.func89, Tryz.ntmps89
    go_wp2_with fail
    (with_reducible refine HC.out.mono ?_)
    rintro e w1 ⟨rfl, hb, hf⟩
    go_wp2_with fail
    go_ret
    exact ⟨ret_int HZ.out, hb, hf⟩
end Go.Proofs.YtklcoppfkfenfaaGreatDoor
