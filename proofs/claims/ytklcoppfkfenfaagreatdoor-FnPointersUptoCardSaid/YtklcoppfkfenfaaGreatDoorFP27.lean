/-
  The reader: a table of abbreviations is read.
-/
import Derived.Test.YtklcoppfkfenfaaGreatDoorFP22
import Derived.Carry
import Derived.OwnWalk
set_option linter.all false
set_option linter.unusedVariables false
set_option linter.unusedSimpArgs false
namespace Go.Proofs.YtklcoppfkfenfaaGreatDoor
set_option maxRecDepth 100000
open Go Go.RowKit

abbrev kA (D : Nat) (big : Bool) : BufK := { dp := .pointer (some ⟨D, 0, none⟩), big := big, fmt := .iface 225 (.agg #[]), nm := .string (ByteArray.mk #[97, 98, 98, 114, 101, 118]), rest := [], ty := 135 }
theorem ul24 : Tryz.prog.underlying 24 = some (.int .u32) := by kernel_rfl
theorem ul29 : Tryz.prog.underlying 29 = some (.int .u64) := by kernel_rfl
theorem ul140 : Tryz.prog.underlying 140 = some (.map 24 188) := by kernel_rfl
theorem ul144 : Tryz.prog.underlying 144 = some (.map 29 140) := by kernel_rfl
theorem zero188 (w : World) : (zeroValue 188).run Tryz.prog w = .ok (.agg #[.int .u32 0, .bool false, .slice none 0 0]) w := by kernel_rfl
theorem zero140 (w : World) : (zeroValue 140).run Tryz.prog w = .ok (.map none) w := by kernel_rfl
theorem wf_u64 (n : Nat) (h : n < 18446744073709551616) : (Lit.int .u64 (n : Int)).wf = true := WalkArith.wf_u64 (by omega)
theorem wf_u32 (n : Nat) (h : n < 4294967296) : (Lit.int .u32 (n : Int)).wf = true := WalkArith.wf_u32 (by omega)

theorem Frame.drew' {S : Bs} {a w : World} (h : Frame S a.drew w) : Frame S a w := ⟨h.os, h.tape, h.output, h.size, h.block⟩
/-- i abbreviations are read -/
structure PaSt (w0 : World) (B M : Nat) (K : Bs) (c : BufK) (v : Int) (abs : List AbD) (l : List Nat) (i : Nat) (w : World) : Prop where
  frame : Frame no w0 w
  buf : ∃ off, Buf w B K c off l
  tab : TabAt (fun k => w0.heap.size ≤ k ∧ k < w.heap.size ∧ k ≠ B ∧ k ≠ M) w M i v (abs.take i)
  lt : w0.heap.size ≤ B ∧ w0.heap.size ≤ M ∧ M < w.heap.size ∧ B ≠ M

abbrev z4 : List Value := [.int .u32 0, .int .u32 0, .int .i64 0, .int .i64 0]
theorem ul186 : Tryz.prog.underlying 186 = some (.slice 200) := by kernel_rfl
theorem info200 : (Tryz.prog.info? 200).map (fun i => (i.zero, i.size, i.bytes)) = some (some (.agg z4.toArray), 4, 24) := by kernel_rfl
theorem make186 (n : Nat) (h : n ≤ 1000000) (w : World) : (Instr.makeSlice 186 (.int .i64 (n : Int)) (.int .i64 (n : Int))).run Tryz.prog w = .ok (.slice (some ⟨w.heap.size, 0, none⟩) n n) (w.alloc (.cells (zerosL z4 n).toArray 200)) := by
  obtain ⟨i, hi, h0, h1, h2⟩ := info_parts info200
  have := run_make (P := Tryz.prog) w 186 200 i _ ul186 hi h0 .i64 .i64 (n : Int) (n : Int) (by omega) (by omega) (by rw [h2]; omega) (by omega)
  rw [this, h1]
  simp only [Int.toNat_natCast, Value.cells]
  rw [madeCells_zeros z4 4 rfl (by decide)]
/-- an abbreviation is filled: in block A itself, in block R its fields -/
structure FillSt (w1 : World) (B A R : Nat) (K : Bs) (c : BufK) (v : Int) (ab : AbD) (TT : List Nat) (j : Nat) (w : World) : Prop where
  frame : Frame (fun k => k = B) w1 w
  buf : ∃ off, Buf w B K c off (pairsB (ab.fields.drop j) ++ (0 :: 0 :: TT))
  blk : w.heap[A]? = some (.cells #[.int .u32 (ab.tag : Int), .bool ab.child, .slice (some ⟨R, 0, none⟩) ab.fields.length ab.fields.length] 188)
  row : w.heap[R]? = some (.cells ((ab.fields.take j).flatMap (afC v) ++ zerosL z4 (ab.fields.length - j)).toArray 200)
  lt : w1.heap.size ≤ A ∧ A < R

theorem Ar.ofRow {α : Type} {K : Bs} {w : World} {R sz : Nat} {T : TypeId} {l : List α} {f : α → List Value} (h : w.heap[R]? = some (.cells (l.flatMap f).toArray T)) (hf : ∀ x ∈ l, (f x).length = sz) (hm : l.length ≤ maxLen) (hK : K R) :
    Ar K w sz (.slice (some ⟨R, 0, none⟩) l.length l.length) l f := by
  refine ⟨hf, flat_length f sz l hf, some ⟨R, 0, none⟩, l.length, rfl, Nat.le_refl _, hm, (fun e => by cases e), fun j hj => ⟨R, 0, rfl, hK, ?_⟩⟩
  rw [cell_of_row _ _ _ _ _ _ h, List.getElem?_toArray, Nat.zero_add, List.getElem?_eq_getElem hj]

/-- a second buffer, in new memory -/
structure CntSt (w1 : World) (B1 : Nat) (K : Bs) (c : BufK) (l : List Nat) (w : World) : Prop where
  frame : Frame no w1 w
  buf : ∃ off, Buf w B1 K c off l

def PaPost (C m : Nat) (F : Nat → Option Value) (off : Nat) (v : Int) (abs : List AbD) (w : World) (e : Ending) (w' : World) : Prop :=
  ∃ M, e = .returned (.tuple #[.map (some M), .nilIface]) ∧ MapU w' 29 .u64 C (m + 1) (fun y => if y = off then some (.map (some M)) else F y) ∧
    (∃ n, TabAt (fun k => w.heap.size ≤ k ∧ k < w'.heap.size ∧ k ≠ M) w' M n v abs) ∧ Frame (fun k => k = C) w w' ∧ w.heap.size ≤ M ∧ M < w'.heap.size

set_option maxHeartbeats 4000000 in
theorem parseAbbrev_any (D C m L : Nat) (F : Nat → Option Value) (big : Bool) (v : Int) (K : Bs) (a : Option Addr) (n cap off : Nat) (abs : List AbD) (pre rest : List Nat) (w : World)
    (h12 : w.cell? ⟨D, 12, none⟩ = some (.map (some C))) (h0 : w.cell? ⟨D, 0, none⟩ = some (.slice a n cap)) (h14 : w.cell? ⟨D, 14, none⟩ = some (.bool big))
    (hM : MapU w 29 .u64 C m F) (hoff : F off = none) (hm : m < 1000000) (hr : Rd K w (.slice a n cap) (pre ++ (tabB abs 1 ++ 0 :: rest))) (hpre : pre.length = off) (hK : ∀ k, K k → k < w.heap.size)
    (hlen : (pre ++ (tabB abs 1 ++ 0 :: rest)).length < 4294967296) (hL : Laid w L) (hLl : L < w.heap.size) (hok : ∀ ab ∈ abs, AbOk ab) (hal : abs.length ≤ 1000000) :
    Calls Tryz.prog 102 #[.pointer (some ⟨D, 0, none⟩), .int .u64 (off : Int), .int .i64 v] w (PaPost C m F off v abs w) := by
  have hoffl : off < 4294967296 := by rw [← hpre]; rw [List.length_append] at hlen; omega
  have hn : n = (pre ++ (tabB abs 1 ++ 0 :: rest)).length := by obtain ⟨⟨_, _, _, he, _⟩, _⟩ := hr; simp only [Value.slice.injEq] at he; exact he.2.1
  have hlook := hM.look ul29 ul144 (zero140 w) off (wf_u64 off (by omega))
  rw [hoff] at hlook
  obtain ⟨a', n', c', hsl, hrd, hn'⟩ := cut_lo hr (z := (off : Int)) off rfl (by rw [List.length_append]; omega)
  rw [← hpre, List.drop_left] at hrd
  have hsl' := hsl .u64
  have hwn : IntKind.u64.wrap (n : Int) = n := by rw [IntKind.wrap_u64]; omega
  have hle : (off : Int) ≤ (n : Int) := by rw [hn, List.length_append]; omega
  have hmm := @run_makeMap Tryz.prog
  have HN := Lib.hid hn; have HR := Lib.hid hrd; have HM := Lib.hid hM; have HOF := Lib.hid hoff; have HP := Lib.hid hpre; have HK := Lib.hid hK; have HL := Lib.hid hL; have HOK := Lib.hid hok; have HLE := Lib.hid hlen
  clear hn hr hrd hM hoff hpre hK hL hok hsl hn' hlen
  go_enter Tryz.func102, Tryz.ntmps102
  go_upto_block 0 with fail
  (with_reducible refine (makeBuf_any D 225 (.agg #[]) _ 0 a' n' c' big w h14).mono ?_)
  rintro e w1 ⟨rfl, hf1⟩
  go_upto_block 0 with fail
  have hsz1 := hf1.size
  have hPa : PaSt w w1.heap.size (w1.heap.size + 1) K (kA D big) v abs (tabB abs 1 ++ 0 :: rest) 0 ((w1.alloc (.cells #[.pointer (some ⟨D, 0, none⟩), .bool big, .iface 225 (.agg #[]), .string ⟨#[97, 98, 98, 114, 101, 118]⟩, .int .u32 0, .slice a' n' c', .nilIface] 135)).alloc (.map #[] 0)) := by
    have hfr : Frame no w ((w1.alloc (.cells #[.pointer (some ⟨D, 0, none⟩), .bool big, .iface 225 (.agg #[]), .string ⟨#[97, 98, 98, 114, 101, 118]⟩, .int .u32 0, .slice a' n' c', .nilIface] 135)).alloc (.map #[] 0)) := (hf1.alloc _).alloc _
    refine ⟨hfr, ⟨0, ⟨a', n', c', ?_, HR.out.keep (hfr.same fun k hk => ⟨HK.out k hk, id⟩)⟩, fun k hk => ⟨Nat.lt_of_lt_of_le (HK.out k hk) hfr.size, fun e => by have := HK.out k hk; omega⟩, ?_⟩, ?_, by omega, by omega, by simp, by omega⟩
    · exact (Below.heap_alloc _ _ _ (by simp)).trans (heap_alloc_new _ _)
    · have := HLE.out
      rw [List.length_append] at this
      omega
    · refine ⟨fun _ => none, ?_, fun i hi => by simp at hi⟩
      have := MapU.made (w1.alloc (.cells #[.pointer (some ⟨D, 0, none⟩), .bool big, .iface 225 (.agg #[]), .string ⟨#[97, 98, 98, 114, 101, 118]⟩, .int .u32 0, .slice a' n' c', .nilIface] 135)) 24 .u32
      simpa using this
  generalize ((w1.alloc (.cells #[.pointer (some ⟨D, 0, none⟩), .bool big, .iface 225 (.agg #[]), .string ⟨#[97, 98, 98, 114, 101, 118]⟩, .int .u32 0, .slice a' n' c', .nilIface] 135)).alloc (.map #[] 0)) = w2 at *
  generalize w1.heap.size + 1 = M at *
  generalize w1.heap.size = B at *
  clear hf1 hsz1
  go_cut [13] (fun _ wx => PaSt w B M K (kA D big) v abs rest abs.length wx)
  case first =>
    go_wp2_with fail
    go_loopw [13] (fun s13 wr => ∃ i : Nat, i ≤ abs.length ∧ (intOf s13).toNat = i ∧ PaSt w B M K (kA D big) v abs (tabB (abs.drop i) (i + 1) ++ 0 :: rest) i wr) (fun s13 _ => abs.length + 1 - (intOf s13).toNat)
    case atStart => exact ⟨0, Nat.zero_le _, rfl, hPa⟩
    case round =>
    clear hPa
    obtain ⟨i, hi, hs13, hPa⟩ := hrel
    have HS := Lib.hid hs13; have HPA := Lib.hid hPa
    obtain ⟨off1, hbuf⟩ := hPa.buf
    clear hs13 hPa
    by_cases hlt : i < abs.length
    · have hdrop : abs.drop i = abs[i] :: abs.drop (i + 1) := List.drop_eq_getElem_cons hlt
      have hab := HOK.out abs[i] (List.getElem_mem hlt)
      have hdata : tabB (abs.drop i) (i + 1) ++ 0 :: rest = uleb (i + 1) ++ (uleb abs[i].tag ++ (bitN abs[i].child :: (pairsB abs[i].fields ++ (0 :: 0 :: (tabB (abs.drop (i + 1)) (i + 1 + 1) ++ 0 :: rest))))) := by
        rw [hdrop]; simp [tabB, abB]
      rw [hdata] at hbuf
      clear hdata
      have HD := Lib.hid hdrop; clear hdrop
      generalize hAB : abs[i] = ab at *
      have HAB := Lib.hid hAB; clear hAB
      obtain ⟨htag, hfl, hfo⟩ := hab
      have HFO := Lib.hid hfo; clear hfo
      obtain ⟨ix, hid⟩ : ∃ ix, ix = i + 1 := ⟨_, rfl⟩
      have hidl : ix ≤ 1000000 := by omega
      have hid0 : ((ix : Int) == 0) = false := by rw [beq_eq_false_iff_ne]; omega
      have hidw : IntKind.u32.wrap (ix : Int) = ix := by rw [IntKind.wrap_u32]; omega
      have htagw : IntKind.u32.wrap (ab.tag : Int) = ab.tag := by rw [IntKind.wrap_u32]; omega
      rw [← hid] at hbuf
      have HID := Lib.hid hid; clear hid
      generalize hTT : tabB (abs.drop ix) (ix + 1) ++ 0 :: rest = TT at *
      have HTT := Lib.hid hTT; clear hTT
      have HBUF := Lib.hid hbuf; clear hbuf
      go_wp2_with fail
      (with_reducible refine (uint_any B K (kA D big) off1 ix _ wr HBUF.out (by omega)).mono ?_)
      rintro e w1 ⟨rfl, hb1, hf1⟩
      obtain ⟨da, dn, dcap, hbk, hrd1⟩ := hb1.ex
      have q0 := cell_of_row w1 B 0 _ _ _ hbk
      have q1 := cell_of_row w1 B 1 _ _ _ hbk
      have q2 := cell_of_row w1 B 2 _ _ _ hbk
      have q3 := cell_of_row w1 B 3 _ _ _ hbk
      have q4 := cell_of_row w1 B 4 _ _ _ hbk
      have q5 := cell_of_row w1 B 5 _ _ _ hbk
      have q6 := cell_of_row w1 B 6 _ _ _ hbk
      simp only [kA, BufK.cells, List.getElem?_toArray, List.getElem?_cons_zero, List.getElem?_cons_succ] at q0 q1 q2 q3 q4 q5 q6
      have HB1 := Lib.hid hb1; have HF1 := Lib.hid hf1; have HBK := Lib.hid hbk; have HRD1 := Lib.hid hrd1
      clear hb1 hf1 hbk hrd1
      have hwB : Buf (w1.alloc (.cells #[.pointer (some ⟨D, 0, none⟩), .bool big, .iface 225 (.agg #[]), .string ⟨#[97, 98, 98, 114, 101, 118]⟩, .int .u32 ((off1 + (uleb ix).length : Nat) : Int), .slice da dn dcap, .nilIface] 135)) w1.heap.size K (kA D big) (off1 + (uleb ix).length) (uleb ab.tag ++ (bitN ab.child :: (pairsB ab.fields ++ (0 :: 0 :: TT)))) := by
        have hal : Frame no w1 (w1.alloc (.cells #[.pointer (some ⟨D, 0, none⟩), .bool big, .iface 225 (.agg #[]), .string ⟨#[97, 98, 98, 114, 101, 118]⟩, .int .u32 ((off1 + (uleb ix).length : Nat) : Int), .slice da dn dcap, .nilIface] 135)) := (Frame.refl _ _).alloc _
        exact ⟨⟨da, dn, dcap, heap_alloc_new _ _, HRD1.out.keep (hal.same fun k hk => ⟨(HB1.out.apart k hk).1, fun h => h⟩)⟩, fun k hk => ⟨Nat.lt_of_lt_of_le (HB1.out.apart k hk).1 hal.size, Nat.ne_of_lt (HB1.out.apart k hk).1⟩, HB1.out.lt⟩
      have hFB : Frame no w1 (w1.alloc (.cells #[.pointer (some ⟨D, 0, none⟩), .bool big, .iface 225 (.agg #[]), .string ⟨#[97, 98, 98, 114, 101, 118]⟩, .int .u32 ((off1 + (uleb ix).length : Nat) : Int), .slice da dn dcap, .nilIface] 135)) := (Frame.refl _ _).alloc _
      obtain ⟨off2, hoff2⟩ : ∃ o, o = off1 + (uleb ix).length := ⟨_, rfl⟩
      rw [← hoff2] at q4 hwB hFB HB1 HBK
      have HO2 := Lib.hid hoff2; have HWB := Lib.hid hwB; have HFB := Lib.hid hFB
      clear hoff2 hwB hFB
      go_wp2_with fail
      (with_reducible refine (uint_any w1.heap.size K (kA D big) off2 ab.tag _ _ HWB.out (by omega)).mono ?_)
      rintro e w2 ⟨rfl, hb2, hf2⟩
      have HB2 := Lib.hid hb2; have HF2 := Lib.hid hf2; clear hb2 hf2 q0 q1 q2 q3 q4 q5 q6
      go_wp2_with fail
      (with_reducible refine (uint8_any w1.heap.size K (kA D big) _ _ _ _ HB2.out).mono ?_)
      rintro e w3 ⟨rfl, hb3, hf3⟩
      have hcnt : CntSt w1 w1.heap.size K (kA D big) (pairsB ab.fields ++ (0 :: 0 :: TT)) w3 :=
        ⟨(((HFB.out).mono fun _ h => h.elim).trans (HF2.out.trans' hf3) fun i hi => .inr (Nat.le_of_eq hi.symm)), ⟨_, hb3⟩⟩
      clear hb3 hf3
      go_upto_block 2 with fail
      go_cut [14] (fun s14 wx => s14 = .int .i64 (ab.fields.length : Int) ∧ CntSt w1 w1.heap.size K (kA D big) TT wx)
      case first =>
        go_wp2_with fail
        go_loopw [14] (fun s14 wx => ∃ j : Nat, j ≤ ab.fields.length ∧ s14 = .int .i64 (j : Int) ∧ CntSt w1 w1.heap.size K (kA D big) (pairsB (ab.fields.drop j) ++ (0 :: 0 :: TT)) wx) (fun s14 _ => ab.fields.length - (intOf s14).toNat)
        case atStart => exact ⟨0, Nat.zero_le _, rfl, hcnt⟩
        case round =>
        clear hcnt
        obtain ⟨j, hj, rfl, hc⟩ := hrel
        obtain ⟨off3, hb⟩ := hc.buf
        have HCF := Lib.hid hc.frame
        clear hc
        by_cases hjl : j < ab.fields.length
        · have hd : ab.fields.drop j = ab.fields[j] :: ab.fields.drop (j + 1) := List.drop_eq_getElem_cons hjl
          obtain ⟨hp0, ⟨hp1, hp2⟩, hp3⟩ := HFO.out _ (List.getElem_mem hjl)
          have hp4 := hp3.lt
          have hp5 : ab.fields[j].2 ≠ 33 := by unfold FormOk at hp3; omega
          have hdat : pairsB (ab.fields.drop j) ++ (0 :: 0 :: TT) = uleb ab.fields[j].1 ++ (uleb ab.fields[j].2 ++ (pairsB (ab.fields.drop (j + 1)) ++ (0 :: 0 :: TT))) := by rw [hd]; simp only [pairsB, List.flatMap_cons, List.append_assoc]
          rw [hdat] at hb
          clear hdat hd hp2 hp3
          generalize ab.fields[j] = p at *
          obtain ⟨p1, p2⟩ := p
          dsimp only at *
          have e1 : ((p1 : Int) == 0) = false := by rw [beq_eq_false_iff_ne]; omega
          have e2 : IntKind.u32.wrap (p2 : Int) = p2 := by rw [IntKind.wrap_u32]; omega
          have e3 : ((p2 : Int) == 33) = false := by rw [beq_eq_false_iff_ne]; omega
          have HB := Lib.hid hb; clear hb hp0 hp5
          go_wp2_with fail
          (with_reducible refine (uint_any w1.heap.size K (kA D big) _ p1 _ _ HB.out (by omega)).mono ?_)
          rintro e w5 ⟨rfl, hb5, hf5⟩
          have HB5 := Lib.hid hb5; have HF5 := Lib.hid hf5; clear hb5 hf5
          go_wp2_with fail
          (with_reducible refine (uint_any w1.heap.size K (kA D big) _ p2 _ _ HB5.out (by omega)).mono ?_)
          rintro e w6 ⟨rfl, hb6, hf6⟩
          have HB6 := Lib.hid hb6; have HF6 := Lib.hid hf6; clear hb6 hf6
          go_wp2_with fail
          go_roundw
          case rel => exact ⟨j + 1, by omega, by go_num, HCF.out.trans (HF5.out.trans' HF6.out) fun i hi => .inr (Nat.le_of_eq hi.symm), ⟨_, HB6.out⟩⟩
          case measure => simp [intOf]; omega
        · have hd : ab.fields.drop j = [] := List.drop_eq_nil_of_le (by omega)
          rw [hd] at hb
          obtain rfl : j = ab.fields.length := by omega
          have e0 : pairsB [] ++ (0 :: 0 :: TT) = uleb 0 ++ (uleb 0 ++ TT) := by rw [uleb_lt 0 (by decide)]; rfl
          rw [e0] at hb
          clear hd e0
          have HB := Lib.hid hb; clear hb
          go_wp2_with fail
          (with_reducible refine (uint_any w1.heap.size K (kA D big) _ 0 _ _ HB.out (by omega)).mono ?_)
          rintro e w5 ⟨rfl, hb5, hf5⟩
          have HB5 := Lib.hid hb5; have HF5 := Lib.hid hf5; clear hb5 hf5
          go_wp2_with fail
          (with_reducible refine (uint_any w1.heap.size K (kA D big) _ 0 _ _ HB5.out (by omega)).mono ?_)
          rintro e w6 ⟨rfl, hb6, hf6⟩
          have HB6 := Lib.hid hb6; have HF6 := Lib.hid hf6; clear hb6 hf6
          go_wp2_with fail
          go_meet
          case rel => exact ⟨rfl, HCF.out.trans (HF5.out.trans' HF6.out) fun i hi => .inr (Nat.le_of_eq hi.symm), ⟨_, HB6.out⟩⟩
      case rest =>
      clear hcnt
      obtain ⟨rfl, hcn⟩ := hcut
      have HCN := Lib.hid hcn; clear hcn
      obtain ⟨_, hb⟩ := HCN.out.buf
      obtain ⟨_, _, _, _, c6, _⟩ := hb.get
      clear hb
      have hbc : Buf wc B K (kA D big) off2 (uleb ab.tag ++ (bitN ab.child :: (pairsB ab.fields ++ (0 :: 0 :: TT)))) := HB1.out.keep HCN.out.frame (fun h => h) fun k hk => ⟨(HB1.out.apart k hk).1, fun h => h⟩
      have hbit : ((bitN ab.child : Int) != 0) = ab.child := by cases ab.child <;> rfl
      have hmk := make186 ab.fields.length hfl
      have hBlt := hbc.lt_size
      have HBC := Lib.hid (hbc.keep (w' := wc.alloc (.cells #[.int .u32 0, .bool false, .slice none 0 0] 188)) ((Frame.refl no wc).alloc _) (fun h => h) fun k hk => ⟨(hbc.apart k hk).1, fun h => h⟩)
      clear hbc
      generalize hbn : bitN ab.child = bn at *
      have HBN := Lib.hid hbn; clear hbn
      go_wp2_with fail
      (with_reducible refine (uint_any B K (kA D big) off2 ab.tag _ _ HBC.out (by omega)).mono ?_)
      rintro e w5 ⟨rfl, hb5, hf5⟩
      have hA5 : w5.heap[wc.heap.size]? = some (.cells #[.int .u32 0, .bool false, .slice none 0 0] 188) := (hf5.block _ (by simp) (by omega)).trans (heap_alloc_new _ _)
      have k0 : w5.cell? ⟨wc.heap.size, 0, none⟩ = some (.int .u32 0) := cell_of_row w5 _ 0 _ _ _ hA5
      have g0 : w5.frozen? ⟨wc.heap.size, 0, none⟩ = false := by simp [World.frozen?, hA5]
      have HB5 := Lib.hid hb5; have HF5 := Lib.hid hf5; have HA5 := Lib.hid hA5; clear hb5 hf5 hA5
      have hf6 : Frame (fun k => k = wc.heap.size) w5 (w5.setCell ⟨wc.heap.size, 0, none⟩ (.int .u32 (ab.tag : Int))) := (Frame.refl (fun k => k = wc.heap.size) w5).set (.inl rfl) _
      have HF6 := Lib.hid hf6; clear hf6
      have hs5 := HF5.out.size
      simp only [World.size_alloc] at hs5
      have HB6 := Lib.hid (HB5.out.keep HF6.out (show ¬ B = wc.heap.size by omega) fun k hk => ⟨(HB5.out.apart k hk).1, fun e => by have := (HB1.out.apart k hk).1; have := HCN.out.frame.size; omega⟩)
      go_wp2_with fail
      (with_reducible refine (uint8_any B K (kA D big) _ _ _ _ HB6.out).mono ?_)
      rintro e w7 ⟨rfl, hb7, hf7⟩
      have hA7 : w7.heap[wc.heap.size]? = some (.cells #[.int .u32 (ab.tag : Int), .bool false, .slice none 0 0] 188) := (hf7.block _ (by have := HF6.out.size; omega) (by omega)).trans (heap_setCell_row HA5.out _)
      have k1 : w7.cell? ⟨wc.heap.size, 1, none⟩ = some (.bool false) := cell_of_row w7 _ 1 _ _ _ hA7
      have g1 : w7.frozen? ⟨wc.heap.size, 1, none⟩ = false := by simp [World.frozen?, hA7]
      have HB7 := Lib.hid hb7; have HF7 := Lib.hid hf7
      have hA8 := heap_setCell_row hA7 (i := 1) (.bool ab.child)
      have hf8 : Frame (fun k => k = wc.heap.size) w7 (w7.setCell ⟨wc.heap.size, 1, none⟩ (.bool ab.child)) := (Frame.refl (fun k => k = wc.heap.size) w7).set (.inl rfl) _
      have hR9 := heap_alloc_new (w7.setCell ⟨wc.heap.size, 1, none⟩ (.bool ab.child)) (.cells (zerosL z4 ab.fields.length).toArray 200)
      have hAl8 := (Array.getElem?_eq_some_iff.1 hA8).1
      have hA9 := (Below.heap_alloc (w7.setCell ⟨wc.heap.size, 1, none⟩ (.bool ab.child)) (.cells (zerosL z4 ab.fields.length).toArray 200) _ hAl8).trans hA8
      have k2 : ((w7.setCell ⟨wc.heap.size, 1, none⟩ (.bool ab.child)).alloc (.cells (zerosL z4 ab.fields.length).toArray 200)).cell? ⟨wc.heap.size, 2, none⟩ = some (.slice none 0 0) := cell_of_row _ _ 2 _ _ _ hA9
      have g2 : ((w7.setCell ⟨wc.heap.size, 1, none⟩ (.bool ab.child)).alloc (.cells (zerosL z4 ab.fields.length).toArray 200)).frozen? ⟨wc.heap.size, 2, none⟩ = false := by simp [World.frozen?, hA9]
      have HA9 := Lib.hid hA9; have HR9 := Lib.hid hR9; have HF8 := Lib.hid hf8
      clear hb7 hf7 hA7 hA8 hf8 hR9 hA9 k0 g0
      go_upto_block 4 with fail
      have hfill : FillSt w1 B wc.heap.size w7.heap.size K (kA D big) v ab TT 0 (((w7.setCell ⟨wc.heap.size, 1, none⟩ (.bool ab.child)).alloc (.cells (zerosL z4 ab.fields.length).toArray 200)).setCell ⟨wc.heap.size, 2, none⟩ (.slice (some ⟨w7.heap.size, 0, none⟩) ab.fields.length ab.fields.length)) := by
        have hcs := HCN.out.frame.size
        have h67 := HF6.out.size
        have h78 := HF7.out.size
        have f1 : Frame (fun k => k = B) w1 wc := HCN.out.frame.mono fun _ h => h.elim
        have f2 : Frame (fun k => k = B) w1 w5 := (f1.alloc _).trans' HF5.out
        have f3 := f2.trans HF6.out fun k hk => .inr (Nat.le_trans hcs (Nat.le_of_eq (Eq.symm hk)))
        have f4 := f3.trans' HF7.out
        have f5 := (f4.trans HF8.out fun k hk => .inr (Nat.le_trans hcs (Nat.le_of_eq (Eq.symm hk)))).alloc (.cells (zerosL z4 ab.fields.length).toArray 200)
        have f6 := f5.set (b := wc.heap.size) (i := 2) (.inr (by omega)) (.slice (some ⟨w7.heap.size, 0, none⟩) ab.fields.length ab.fields.length)
        have hlast : Frame (fun k => k = wc.heap.size) w7 (((w7.setCell ⟨wc.heap.size, 1, none⟩ (.bool ab.child)).alloc (.cells (zerosL z4 ab.fields.length).toArray 200)).setCell ⟨wc.heap.size, 2, none⟩ (.slice (some ⟨w7.heap.size, 0, none⟩) ab.fields.length ab.fields.length)) := (HF8.out.alloc _).set (.inl rfl) _
        refine ⟨f6, ⟨_, HB7.out.keep hlast (show ¬ B = wc.heap.size by omega) fun k hk => ⟨(HB7.out.apart k hk).1, fun e => by have := (HB1.out.apart k hk).1; omega⟩⟩, ?_, ?_, hcs, by omega⟩
        · exact heap_setCell_row HA9.out _
        · have := HR9.out
          simp only [World.size_setCell] at this
          exact (Below.heap_setCell _ _ _ _ (show w7.heap.size ≠ wc.heap.size by omega)).trans this
      generalize (((w7.setCell ⟨wc.heap.size, 1, none⟩ (.bool ab.child)).alloc (.cells (zerosL z4 ab.fields.length).toArray 200)).setCell ⟨wc.heap.size, 2, none⟩ (.slice (some ⟨w7.heap.size, 0, none⟩) ab.fields.length ab.fields.length)) = w10 at *
      clear k1 g1 k2 g2 c6 hs5 hAl8 hmk
      clear HA9 HR9 HF8 HF7 HB7 HB6 HF6 HA5 HF5 HB5 HBC HCN
      generalize w7.heap.size = R at *
      generalize wc.heap.size = A at *
      have hbw1 : ∀ k, K k → k < w1.heap.size := fun k hk => (HB1.out.apart k hk).1
      have hBw1 := HB1.out.lt_size
      have HKW := Lib.hid hbw1; clear hbw1
      go_cut [19] (fun _ wx => FillSt w1 B A R K (kA D big) v ab TT ab.fields.length wx)
      case first =>
        go_wp2_with fail
        go_loopw [87] (fun s87 wx => ∃ (j : Nat) (w8 : World), w8 = wx ∧ j ≤ ab.fields.length ∧ s87 = .int .i64 (j : Int) ∧ FillSt w1 B A R K (kA D big) v ab TT j w8) (fun s87 _ => ab.fields.length - (intOf s87).toNat)
        case atStart => exact ⟨0, _, rfl, Nat.zero_le _, rfl, hfill⟩
        case round =>
        clear hfill
        obtain ⟨j, w8, rfl, hj, rfl, hfs⟩ := hrel
        have HFS := Lib.hid hfs; clear hfs
        have cA2 := cell_of_row _ A 2 _ _ _ HFS.out.blk
        have hAB : ¬ A = B := by have := HFS.out.lt; omega
        have hAR := HFS.out.lt
        simp only [List.getElem?_toArray, List.getElem?_cons_zero, List.getElem?_cons_succ] at cA2
        by_cases hjl : j < ab.fields.length
        · obtain ⟨off3, hb⟩ := HFS.out.buf
          have hd : ab.fields.drop j = ab.fields[j] :: ab.fields.drop (j + 1) := List.drop_eq_getElem_cons hjl
          have htk : (ab.fields.take (j + 1)).flatMap (afC v) = (ab.fields.take j).flatMap (afC v) ++ afC v ab.fields[j] := by
            rw [List.take_succ_eq_append_getElem hjl, List.flatMap_append]; simp
          have hlen : ((ab.fields.take j).flatMap (afC v)).length = j * 4 := by
            rw [flat_length (afC v) 4 _ (fun _ _ => rfl), List.length_take, Nat.min_eq_left (by omega)]
          have hrow : Row w8 R 200 ((ab.fields.take j).flatMap (afC v)) z4 (zerosL z4 (ab.fields.length - (j + 1))) := by
            have := HFS.out.row
            rw [show ab.fields.length - j = ab.fields.length - (j + 1) + 1 by omega, zerosL_succ] at this
            unfold Row; rw [this, List.append_assoc]
          have hpf := HFO.out _ (List.getElem_mem hjl)
          have hdat : pairsB (ab.fields.drop j) ++ (0 :: 0 :: TT) = uleb ab.fields[j].1 ++ (uleb ab.fields[j].2 ++ (pairsB (ab.fields.drop (j + 1)) ++ (0 :: 0 :: TT))) := by rw [hd]; simp only [pairsB, List.flatMap_cons, List.append_assoc]
          rw [hdat] at hb
          clear hdat hd
          generalize hPP : ab.fields[j] = p at *
          obtain ⟨p1, p2⟩ := p
          dsimp only at *
          obtain ⟨hp0, hp1, hp3⟩ := hpf
          have hp2 := hp1.1
          have hp4 := hp3.lt
          have hp5 : ((p2 : Int) == 33) = false := by rw [beq_eq_false_iff_ne]; unfold FormOk at hp3; omega
          have e1 : IntKind.u32.wrap (p1 : Int) = p1 := by rw [IntKind.wrap_u32]; omega
          have e2 : IntKind.u32.wrap (p2 : Int) = p2 := by rw [IntKind.wrap_u32]; omega
          have hjI : (j : Int) < (ab.fields.length : Int) := by omega
          have HTK := Lib.hid htk; have HP1 := Lib.hid hp1; have HP3 := Lib.hid hp3; have HLEN := Lib.hid hlen
          clear htk hp1 hp3 hp0 hlen hPP
          have hRB : ¬ R = B := by omega
          obtain ⟨AA, hAA⟩ : ∃ AA, AA = (ab.fields.take j).flatMap (afC v) := ⟨_, rfl⟩
          rw [← hAA] at hrow HTK HLEN
          have HAA := Lib.hid hAA; clear hAA
          have HBd := Lib.hid (hb.keep (w' := w8.drew) ((Frame.refl no _).drew) (fun h => h) fun k hk => ⟨(hb.apart k hk).1, fun h => h⟩)
          have HROW := Lib.hid hrow
          have hFw : Frame no w w8 := ((HPA.out.frame.trans HF1.out fun k hk => .inr (by have := HPA.out.lt; omega)).trans HFS.out.frame fun k hk => .inr (by have := HPA.out.lt; omega))
          have hBw := HPA.out.lt
          have HFW := Lib.hid hFw
          clear hb hrow hFw
          go_upto_region 31 with fail
          refine wp_region_seq (fun k => k = B) 7 [(0, true), (1, true), (2, true), (3, false), (4, true), (5, false), (6, true), (7, false)] (by kernel_rfl) (by kernel_rfl) (fun _ _ _ d _ h => by cases d <;> exact h) ?_
          simp only [pickB, List.getElem?_toArray, List.getElem?_cons_zero, List.getElem?_cons_succ, Option.getD_some, Bool.false_eq_true, ↓reduceIte, Nat.reduceLT]
          iterate 3
            refine seq_val (v := ?_) (fun w' hX => ?_) ?_
            rotate_left
            · have x0 := hX.cell cA2 hAB; clear hX; go_simp; try with_reducible rfl
            try simp only [Act.put, List.setIfInBounds_toArray, List.set_cons_zero, List.set_cons_succ]
          refine seq_new (fun KK hK => ?_)
          go_wp2_with fail
          (with_reducible refine (uint_any B K (kA D big) _ p1 _ _ HBd.out (by omega)).mono ?_)
          rintro e w11 ⟨rfl, hb11, hf11⟩
          go_wp2_with fail
          refine ⟨hf11, ?_⟩
          have hrow11 := HROW.out.keep (w' := w11) (hf11.block R (by have := (Array.getElem?_eq_some_iff.1 HROW.out).1; exact this) hRB)
          have r0 := hrow11.get 0 (v := .int .u32 0) rfl (o := j * 4) (by rw [HLEN.out]; omega)
          have g0 := hrow11.frozen (j * 4)
          have HB11 := Lib.hid hb11; have HF11 := Lib.hid hf11; have HROW11 := Lib.hid hrow11
          clear hb11 hf11 hrow11
          iterate 1
            refine seq_val (v := ?_) (fun w' hX => ?_) ?_
            rotate_left
            · clear hX; go_simp; try with_reducible rfl
            try simp only [Act.put, List.setIfInBounds_toArray, List.set_cons_zero, List.set_cons_succ]
          refine seq_new (fun _ _ => ?_)
          go_wp2_with fail
          refine ⟨Frame.refl _ _, ?_⟩
          iterate 1
            refine seq_val (v := ?_) (fun w' hX => ?_) ?_
            rotate_left
            · clear hX; go_simp; try with_reducible rfl
            try simp only [Act.put, List.setIfInBounds_toArray, List.set_cons_zero, List.set_cons_succ]
          refine seq_out (fun KK hK => ?_)
          go_wp2_with fail
          refine seq_nil ?_
          have hSet : ∀ (wy : World) (t : Nat) (u : Value), Frame (fun k => k = R) wy (wy.setCell ⟨R, t, none⟩ u) := fun wy t u => (Frame.refl (fun k => k = R) wy).set (.inl rfl) u
          have hrow12 := HROW11.out.set 0 (by decide) (.int .u32 (p1 : Int)) (o := j * 4) (by rw [HLEN.out]; omega)
          have hAR' : ¬ A = R := by omega
          have cA12 := (hSet w11 (j * 4) (.int .u32 (p1 : Int))).cell (HF11.out.cell cA2 hAB) hAR'
          have hKR : ∀ k, K k → k < w11.heap.size ∧ ¬ k = R := fun k hk => ⟨(HB11.out.apart k hk).1, fun e => by have := HKW.out k hk; omega⟩
          have hb12 := HB11.out.keep (hSet w11 (j * 4) (.int .u32 (p1 : Int))) (fun e => hRB e.symm) hKR
          have HB12d := Lib.hid (hb12.keep (w' := (w11.setCell ⟨R, j * 4, none⟩ (.int .u32 (p1 : Int))).drew) ((Frame.refl no _).drew) (fun h => h) fun k hk => ⟨(hb12.apart k hk).1, fun h => h⟩)
          have HROW12 := Lib.hid hrow12; have HKR := Lib.hid hKR; have HSET := Lib.hid hSet
          clear hrow12 hb12 hKR hSet r0 g0
          go_upto_region 32 with fail
          refine wp_region_seq (fun k => k = B) 7 [(0, true), (1, true), (2, true), (3, false), (4, true), (5, false), (6, true), (7, false)] (by kernel_rfl) (by kernel_rfl) (fun _ _ _ d _ h => by cases d <;> exact h) ?_
          simp only [pickB, List.getElem?_toArray, List.getElem?_cons_zero, List.getElem?_cons_succ, Option.getD_some, Bool.false_eq_true, ↓reduceIte, Nat.reduceLT]
          iterate 3
            refine seq_val (v := ?_) (fun w' hX => ?_) ?_
            rotate_left
            · have x0 := hX.cell cA12 hAB; clear hX; go_simp; try with_reducible rfl
            try simp only [Act.put, List.setIfInBounds_toArray, List.set_cons_zero, List.set_cons_succ]
          refine seq_new (fun KK hK => ?_)
          go_wp2_with fail
          (with_reducible refine (uint_any B K (kA D big) _ p2 _ _ HB12d.out (by omega)).mono ?_)
          rintro e w13 ⟨rfl, hb13, hf13⟩
          go_wp2_with fail
          refine ⟨hf13, ?_⟩
          have hrow13 := HROW12.out.keep (w' := w13) (hf13.block R (by have := (Array.getElem?_eq_some_iff.1 HROW12.out).1; exact this) hRB)
          have r0 := hrow13.get 1 (v := .int .u32 0) rfl (o := j * 4 + 1) (by rw [HLEN.out])
          have g0 := hrow13.frozen (j * 4 + 1)
          have HB13 := Lib.hid hb13; have HF13 := Lib.hid hf13; have HROW13 := Lib.hid hrow13
          clear hb13 hf13 hrow13
          iterate 1
            refine seq_val (v := ?_) (fun w' hX => ?_) ?_
            rotate_left
            · clear hX; go_simp; try with_reducible rfl
            try simp only [Act.put, List.setIfInBounds_toArray, List.set_cons_zero, List.set_cons_succ]
          refine seq_new (fun _ _ => ?_)
          go_wp2_with fail
          refine ⟨Frame.refl _ _, ?_⟩
          iterate 1
            refine seq_val (v := ?_) (fun w' hX => ?_) ?_
            rotate_left
            · clear hX; go_simp; try with_reducible rfl
            try simp only [Act.put, List.setIfInBounds_toArray, List.set_cons_zero, List.set_cons_succ]
          refine seq_out (fun KK hK => ?_)
          go_wp2_with fail
          refine seq_nil ?_
          clear r0 g0
          have hrow14 := HROW13.out.set 1 (by simp) (.int .u32 (p2 : Int)) (o := j * 4 + 1) (by rw [HLEN.out])
          have r0 := hrow14.get 0 (v := .int .u32 (p1 : Int)) rfl (o := j * 4) (by rw [HLEN.out]; omega)
          have r1 := hrow14.get 1 (v := .int .u32 (p2 : Int)) rfl (o := j * 4 + 1) (by rw [HLEN.out])
          have cA14 := (HSET.out w13 (j * 4 + 1) (.int .u32 (p2 : Int))).cell (HF13.out.cell cA12 hAB) hAR'
          have hfa : Frame (fun k => k = B ∨ k = R) w8 (w13.setCell ⟨R, j * 4 + 1, none⟩ (.int .u32 (p2 : Int))) := by
            have a1 : Frame (fun k => k = B ∨ k = R) w8 w11 := HF11.out.drew'.mono fun i hi => .inl (.inl hi)
            have a2 := a1.trans (HSET.out w11 (j * 4) (.int .u32 (p1 : Int))) fun i hi => .inl (.inr hi)
            have a3 := a2.trans HF13.out.drew' fun i hi => .inl (.inl hi)
            exact a3.trans (HSET.out w13 (j * 4 + 1) (.int .u32 (p2 : Int))) fun i hi => .inl (.inr hi)
          have HFa := Lib.hid hfa; clear hfa
          have hb14 := HB13.out.keep (HSET.out w13 (j * 4 + 1) (.int .u32 (p2 : Int))) (fun e => hRB e.symm) fun k hk => ⟨(HB13.out.apart k hk).1, (HKR.out k hk).2⟩
          have hFw14 : Frame no w (w13.setCell ⟨R, j * 4 + 1, none⟩ (.int .u32 (p2 : Int))).drew := (HFW.out.trans HFa.out fun k hk => .inr (by rcases hk with rfl | rfl <;> omega)).drew
          have hcl := ftc_any p2 p1 v _ L (HL.out.keep hFw14 (fun h => h) (fun h => h) hLl) HP3.out HP1.out (.pointer (some ⟨B, 0, none⟩))
          generalize hcls : classF p1 p2 v = cls at *
          have HCLS := Lib.hid hcls; have HCL := Lib.hid hcl; have HB14 := Lib.hid hb14; have HROW14 := Lib.hid hrow14
          clear hcls hcl hb14 hrow14 hFw14 cA12 hBw
          go_upto_region 33 with fail
          refine wp_region_seq no 19 [(0, true), (1, true), (2, true), (3, true), (4, true), (5, true), (6, true), (7, true), (8, true), (9, true), (10, true), (11, true), (12, true), (13, true), (14, true), (15, true), (16, false), (17, false), (18, true), (19, false)] (by kernel_rfl) (by kernel_rfl) (fun _ _ _ d _ h => by cases d <;> exact h) ?_
          simp only [pickB, List.getElem?_toArray, List.getElem?_cons_zero, List.getElem?_cons_succ, Option.getD_some, Bool.false_eq_true, ↓reduceIte, Nat.reduceLT]
          iterate 16
            refine seq_val (v := ?_) (fun w' hX => ?_) ?_
            rotate_left
            · have x0 := hX.cell cA14 id; have x1 := hX.cell r0 id; have x2 := hX.cell r1 id; clear hX; go_simp; try with_reducible rfl
            try simp only [Act.put, List.setIfInBounds_toArray, List.set_cons_zero, List.set_cons_succ]
          refine seq_new (fun KK hK => ?_)
          go_wp2_with fail
          (with_reducible refine HCL.out.mono ?_)
          rintro e w15 ⟨rfl, rfl⟩
          go_wp2_with fail
          refine ⟨Frame.refl _ _, ?_⟩
          have r2 := (HROW14.out.keep (w' := (w13.setCell ⟨R, j * 4 + 1, none⟩ (.int .u32 (p2 : Int))).drew) rfl).get 2 (v := .int .i64 0) rfl (o := j * 4 + 2) (by rw [HLEN.out])
          have g2 := (HROW14.out.keep (w' := (w13.setCell ⟨R, j * 4 + 1, none⟩ (.int .u32 (p2 : Int))).drew) rfl).frozen (j * 4 + 2)
          have HROW15 := Lib.hid (HROW14.out.keep (w' := (w13.setCell ⟨R, j * 4 + 1, none⟩ (.int .u32 (p2 : Int))).drew) rfl)
          refine seq_new (fun _ _ => ?_)
          go_wp2_with fail
          refine ⟨Frame.refl _ _, ?_⟩
          iterate 1
            refine seq_val (v := ?_) (fun w' hX => ?_) ?_
            rotate_left
            · clear hX; go_simp; try with_reducible rfl
            try simp only [Act.put, List.setIfInBounds_toArray, List.set_cons_zero, List.set_cons_succ]
          refine seq_out (fun KK hK => ?_)
          go_wp2_with fail
          refine seq_nil ?_
          clear r0 r1 r2 g2
          have hrow16 : Row (((w13.setCell ⟨R, j * 4 + 1, none⟩ (.int .u32 (p2 : Int))).setCell ⟨R, j * 4 + 2, none⟩ (.int .i64 cls)).drew) R 200 AA [.int .u32 (p1 : Int), .int .u32 (p2 : Int), .int .i64 cls, .int .i64 0] (zerosL z4 (ab.fields.length - (j + 1))) := HROW15.out.set 2 (by simp) (.int .i64 cls) (o := j * 4 + 2) (by rw [HLEN.out])
          have r1 := hrow16.get 1 (v := .int .u32 (p2 : Int)) rfl (o := j * 4 + 1) (by rw [HLEN.out])
          have cA16 : (((w13.setCell ⟨R, j * 4 + 1, none⟩ (.int .u32 (p2 : Int))).setCell ⟨R, j * 4 + 2, none⟩ (.int .i64 cls)).drew).cell? ⟨A, 2, none⟩ = some (.slice (some ⟨R, 0, none⟩) ab.fields.length ab.fields.length) := (HSET.out (w13.setCell ⟨R, j * 4 + 1, none⟩ (.int .u32 (p2 : Int))).drew (j * 4 + 2) (.int .i64 cls)).cell cA14 hAR'
          have HROW16 := Lib.hid hrow16
          clear hrow16 cA14
          go_wp2_with fail
          go_roundw
          case rel =>
            have hfin : Frame (fun k => k = B ∨ k = R) w8 (((w13.setCell ⟨R, j * 4 + 1, none⟩ (.int .u32 (p2 : Int))).setCell ⟨R, j * 4 + 2, none⟩ (.int .i64 cls)).drew) := (HFa.out.trans (HSET.out _ (j * 4 + 2) (.int .i64 cls)) fun i hi => .inl (.inr hi)).drew
            have hb15 := HB14.out.keep (HSET.out _ (j * 4 + 2) (.int .i64 cls)) (fun e => hRB e.symm) fun k hk => ⟨(HB14.out.apart k hk).1, (HKR.out k hk).2⟩
            have hb16 := hb15.keep ((Frame.refl no _).drew) (fun h => h) fun k hk => ⟨(hb15.apart k hk).1, fun h => h⟩
            refine ⟨j + 1, _, rfl, by omega, by go_num, HFS.out.frame.trans hfin fun k hk => ?_, ⟨_, hb16⟩, ?_, ?_, hAR⟩
            · rcases hk with rfl | rfl
              · exact .inl rfl
              · exact .inr (by omega)
            · exact (hfin.block A (Array.getElem?_eq_some_iff.1 HFS.out.blk).1 (by rintro (e | e); exact hAB e; exact hAR' e)).trans HFS.out.blk
            · have := HROW16.out
              unfold Row at this
              rw [this, HTK.out, HAA.out, ← HCLS.out]
              rfl
          case measure => simp [intOf]; omega
        · obtain rfl : j = ab.fields.length := by omega
          go_wp2_with fail
          go_meet
          case rel => exact HFS.out
      case rest =>
      clear hfill
      have HFS := Lib.hid hcut; clear hcut
      obtain ⟨off3, hb⟩ := HFS.out.buf
      have hd : ab.fields.drop ab.fields.length = [] := List.drop_length
      have e0 : pairsB [] ++ (0 :: 0 :: TT) = uleb 0 ++ (uleb 0 ++ TT) := by rw [uleb_lt 0 (by decide)]; rfl
      rw [hd, e0] at hb
      have HB := Lib.hid hb
      clear hd e0 hb
      go_wp2_with fail
      (with_reducible refine (uint_any B K (kA D big) _ 0 _ _ HB.out (by omega)).mono ?_)
      rintro e w21 ⟨rfl, hb21, hf21⟩
      have HB21 := Lib.hid hb21; have HF21 := Lib.hid hf21; clear hb21 hf21
      go_wp2_with fail
      (with_reducible refine (uint_any B K (kA D big) _ 0 _ _ HB21.out (by omega)).mono ?_)
      rintro e w22 ⟨rfl, hb22, hf22⟩
      have hlt2 := HPA.out.lt
      have hAR := HFS.out.lt
      have hAB : ¬ A = B := by omega
      have hRB : ¬ R = B := by omega
      have hfc : Frame (fun k => k = B) w1 w22 := HFS.out.frame.trans' (HF21.out.trans' hf22)
      have hfr : Frame (fun k => k = B) wr w22 := HF1.out.trans' hfc
      have hblkA : w22.heap[A]? = some (.cells #[.int .u32 (ab.tag : Int), .bool ab.child, .slice (some ⟨R, 0, none⟩) ab.fields.length ab.fields.length] 188) := ((HF21.out.trans' hf22).block A (Array.getElem?_eq_some_iff.1 HFS.out.blk).1 hAB).trans HFS.out.blk
      have hblkR : w22.heap[R]? = some (.cells (ab.fields.flatMap (afC v)).toArray 200) := by
        have := ((HF21.out.trans' hf22).block R (Array.getElem?_eq_some_iff.1 HFS.out.row).1 hRB).trans HFS.out.row
        rw [List.take_length, Nat.sub_self, zerosL_zero, List.append_nil] at this
        exact this
      have a0 := cell_of_row _ A 0 _ _ _ hblkA
      have a1 := cell_of_row _ A 1 _ _ _ hblkA
      have a2 := cell_of_row _ A 2 _ _ _ hblkA
      simp only [List.getElem?_toArray, List.getElem?_cons_zero, List.getElem?_cons_succ] at a0 a1 a2
      obtain ⟨f, hmap, htab⟩ := HPA.out.tab
      obtain ⟨w23, hrun, hm23, hf23⟩ := (hmap.keep (hfr.block M hlt2.2.2.1 fun e => hlt2.2.2.2 e.symm)).put ul24 ul140 (show i < maxLen by unfold maxLen; omega) ix (wf_u32 ix (by omega)) (.agg #[.int .u32 (ab.tag : Int), .bool ab.child, .slice (some ⟨R, 0, none⟩) ab.fields.length ab.fields.length])
      have HB22 := Lib.hid hb22; have HFR := Lib.hid hfr; have HBR := Lib.hid hblkR; have HTB := Lib.hid htab; have HM23 := Lib.hid hm23; have HF23 := Lib.hid hf23
      clear hb22 hf22 hfc hfr hblkA hblkR hmap htab hm23 hf23
      go_wp2_with fail
      go_roundw
      case rel =>
        have hix := HID.out
        have h22 := HFR.out.size
        have h23 := HF23.out.size
        have hRl := (Array.getElem?_eq_some_iff.1 HBR.out).1
        have hBr := HPA.out.lt
        have hw1 := HF1.out.size
        have hTT : TT = tabB (abs.drop (i + 1)) (i + 1 + 1) ++ 0 :: rest := by rw [← HTT.out, hix]
        have hb23 := HB22.out.keep HF23.out hBr.2.2.2 fun k hk => ⟨(HB22.out.apart k hk).1, fun e => by have := HK.out k hk; have e' : k = M := e; omega⟩
        rw [hTT] at hb23
        have hMr : M < w22.heap.size := by omega
        refine ⟨i + 1, by omega, by rw [hix]; simp [intOf], (HPA.out.frame.trans HFR.out fun k hk => .inr (by rw [show k = B from hk]; omega)).trans HF23.out fun k hk => .inr (by rw [show k = M from hk]; omega), ⟨_, hb23⟩, ⟨_, HM23.out, fun j hj => ?_⟩, by omega, by omega, by omega, hBr.2.2.2⟩
        rw [List.length_take] at hj
        by_cases hji : j = i
        · subst hji
          rw [List.getElem_take, HAB.out]
          exact ⟨_, if_pos hix.symm, .slice (some ⟨R, 0, none⟩) ab.fields.length ab.fields.length, rfl, Ar.ofRow ((HF23.out.block R hRl (fun e => by have e' : R = M := e; omega)).trans HBR.out) (fun _ _ => rfl) (by unfold maxLen; omega) ⟨by omega, by omega, hRB, by omega⟩⟩
        · obtain ⟨val, hv1, hv2⟩ := HTB.out j (by rw [List.length_take]; omega)
          refine ⟨val, (if_neg (by omega)).trans hv1, ?_⟩
          rw [List.getElem_take] at hv2 ⊢
          exact (hv2.keep fun k hk => (HF23.out.block k (by omega) hk.2.2.2).trans (HFR.out.block k hk.2.1 hk.2.2.1)).mono fun k hk => ⟨hk.1, by omega, hk.2.2⟩
      case measure =>
        have m1 := HS.out
        have m2 := HID.out
        rw [m1]
        simp [intOf]; omega
    · have hd : abs.drop i = [] := List.drop_eq_nil_of_le (by omega)
      rw [hd] at hbuf
      have hb0 : Buf wr B K (kA D big) off1 (uleb 0 ++ rest) := by rw [uleb_lt 0 (by decide)]; exact hbuf
      have HB0 := Lib.hid hb0
      clear hbuf hb0 hd hmm
      go_wp2_with fail
      (with_reducible refine (uint_any B K (kA D big) off1 0 rest wr HB0.out (by decide)).mono ?_)
      rintro e w3 ⟨rfl, hb3, hf3⟩
      have HB3 := Lib.hid hb3; have HF3 := Lib.hid hf3; clear hb3 hf3
      go_wp2_with fail
      go_meet
      case rel =>
        have hpa := HPA.out
        have hlt2 := hpa.lt
        have hfr : Frame no w w3 := hpa.frame.trans HF3.out fun k hk => .inr (by omega)
        refine ⟨hfr, ⟨_, HB3.out⟩, ?_, ⟨hlt2.1, hlt2.2.1, Nat.lt_of_lt_of_le hlt2.2.2.1 HF3.out.size, hlt2.2.2.2⟩⟩
        obtain rfl : i = abs.length := by omega
        exact (hpa.tab.keep (fun k hk => HF3.out.block k hk.2.1 hk.2.2.1) (HF3.out.block M hlt2.2.2.1 fun e => hlt2.2.2.2 e.symm)).mono fun k hk => ⟨hk.1, Nat.lt_of_lt_of_le hk.2.1 HF3.out.size, hk.2.2⟩
  case rest =>
  have HC := Lib.hid hcut; clear hcut
  have h12' := HC.out.frame.cell h12 id
  obtain ⟨_, hbuf⟩ := HC.out.buf
  obtain ⟨_, _, _, _, c6, _⟩ := hbuf.get
  have hml := HM.out.lt
  obtain ⟨w9, hrun, hM9, hf9⟩ := (HM.out.keep (HC.out.frame.block C hml id)).put ul29 ul144 (show m < maxLen by unfold maxLen; omega) off (wf_u64 off (by omega)) (.map (some M))
  have HBF := Lib.hid hbuf; have HM9 := Lib.hid hM9; have HF9 := Lib.hid hf9
  clear hbuf hM9 hf9 hmm h12 h0 h14
  go_wp2_with fail
  go_ret2
  have hpf := HC.out.frame
  have hlt := HC.out.lt
  refine ⟨M, rfl, HM9.out, ⟨abs.length, ?_⟩, ?_, hlt.2.1, Nat.lt_of_lt_of_le hlt.2.2.1 HF9.out.size⟩
  · have ht := HC.out.tab
    rw [List.take_length] at ht
    have hs := HF9.out
    refine (ht.keep (fun k hk => hs.block k hk.2.1 (fun e => by have := hk.1; omega)) (hs.block M hlt.2.2.1 (fun e => by omega))).mono fun k hk => ⟨hk.1, Nat.lt_of_lt_of_le hk.2.1 hs.size, hk.2.2.2⟩
  · exact (hpf.mono fun _ h => h.elim).trans HF9.out fun i hi => .inl hi
end Go.Proofs.YtklcoppfkfenfaaGreatDoor
