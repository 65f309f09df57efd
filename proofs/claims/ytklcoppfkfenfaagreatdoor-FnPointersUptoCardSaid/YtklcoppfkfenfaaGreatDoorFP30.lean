/-
  The reader's switch over the forms of values: offsets into sections, texts in the section of texts.
-/
import Derived.Test.YtklcoppfkfenfaaGreatDoorFP29
set_option linter.all false
set_option linter.unusedVariables false
set_option linter.unusedSimpArgs false
namespace Go.Proofs.YtklcoppfkfenfaaGreatDoor
set_option maxRecDepth 1000000
open Go Go.RowKit


set_option maxHeartbeats 1000000 in
theorem sw_23n (B pb U uo n : Nat) (K : Bs) (c : BufK) (off : Nat) (l : List Nat) (w : World)
    (hp : w.cell? ⟨pb, 0, none⟩ = some (.pointer (some ⟨B, 0, none⟩))) (hfmt : c.fmt = .iface 138 (.pointer (some ⟨U, uo, none⟩))) (hwd : w.cell? ⟨U, uo + 7, none⟩ = some (.bool false))
    (h : Buf w B K c off (num n 4 c.big ++ l)) (hn : n < 4294967296) : SwC 23 B pb K c (off + 4) l (ifv 1 n []) w (fun _ => True) := by
  have e : ifv 1 n [] = .iface 2 (.int .i64 (n : Int)) := by unfold ifv; rw [if_pos rfl, sgn_small n (by omega)]
  rw [e]
  clear e
  obtain ⟨_, _, c2, _⟩ := h.get
  rw [hfmt] at c2
  have hw : wrap64 (n : Int) = n := by unfold wrap64; omega
  intro vs a Q hQ hst H
  unfold cSw
  conv => arg 2; whnf
  refine wp_block ?_
  refine sw_no hst (hst.get 1 148 _ rfl rfl) (by decide) (by decide) (by decide) (by decide) (by decide) ?_
  clear hst; intro a hst
  refine wp_seq ?_
  refine mu_no hst (hst.get 1 148 _ rfl rfl) (by decide) (by decide) (by decide) (by decide) (by decide) ?_
  clear hst; intro a hst
  refine mu_no hst (hst.get 1 148 _ rfl rfl) (by decide) (by decide) (by decide) (by decide) (by decide) ?_
  clear hst; intro a hst
  refine mu_no hst (hst.get 1 148 _ rfl rfl) (by decide) (by decide) (by decide) (by decide) (by decide) ?_
  clear hst; intro a hst
  refine mu_no hst (hst.get 1 148 _ rfl rfl) (by decide) (by decide) (by decide) (by decide) (by decide) ?_
  clear hst; intro a hst
  refine sw_test hst (hst.get 1 148 _ rfl rfl) (by decide) (by decide) (by decide) (by decide) false (by decide) ?_
  clear hst; intro a hst hv
  refine wp_cond_false (eval_tmp hv) ?_
  clear hv
  refine sw_no hst (hst.get 1 148 _ rfl rfl) (by decide) (by decide) (by decide) (by decide) (by decide) ?_
  clear hst; intro a hst
  refine sw_no hst (hst.get 1 148 _ rfl rfl) (by decide) (by decide) (by decide) (by decide) (by decide) ?_
  clear hst; intro a hst
  refine sw_no hst (hst.get 1 148 _ rfl rfl) (by decide) (by decide) (by decide) (by decide) (by decide) ?_
  clear hst; intro a hst
  refine sw_no hst (hst.get 1 148 _ rfl rfl) (by decide) (by decide) (by decide) (by decide) (by decide) ?_
  clear hst; intro a hst
  refine sw_no hst (hst.get 1 148 _ rfl rfl) (by decide) (by decide) (by decide) (by decide) (by decide) ?_
  clear hst; intro a hst
  refine sw_no hst (hst.get 1 148 _ rfl rfl) (by decide) (by decide) (by decide) (by decide) (by decide) ?_
  clear hst; intro a hst
  refine sw_no hst (hst.get 1 148 _ rfl rfl) (by decide) (by decide) (by decide) (by decide) (by decide) ?_
  clear hst; intro a hst
  refine sw_no hst (hst.get 1 148 _ rfl rfl) (by decide) (by decide) (by decide) (by decide) (by decide) ?_
  clear hst; intro a hst
  refine sw_no hst (hst.get 1 148 _ rfl rfl) (by decide) (by decide) (by decide) (by decide) (by decide) ?_
  clear hst; intro a hst
  refine sw_no hst (hst.get 1 148 _ rfl rfl) (by decide) (by decide) (by decide) (by decide) (by decide) ?_
  clear hst; intro a hst
  refine sw_no hst (hst.get 1 148 _ rfl rfl) (by decide) (by decide) (by decide) (by decide) (by decide) ?_
  clear hst; intro a hst
  refine sw_no hst (hst.get 1 148 _ rfl rfl) (by decide) (by decide) (by decide) (by decide) (by decide) ?_
  clear hst; intro a hst
  refine sw_no hst (hst.get 1 148 _ rfl rfl) (by decide) (by decide) (by decide) (by decide) (by decide) ?_
  clear hst; intro a hst
  refine sw_no hst (hst.get 1 148 _ rfl rfl) (by decide) (by decide) (by decide) (by decide) (by decide) ?_
  clear hst; intro a hst
  refine sw_no hst (hst.get 1 148 _ rfl rfl) (by decide) (by decide) (by decide) (by decide) (by decide) ?_
  clear hst; intro a hst
  refine sw_no hst (hst.get 1 148 _ rfl rfl) (by decide) (by decide) (by decide) (by decide) (by decide) ?_
  clear hst; intro a hst
  refine sw_no hst (hst.get 1 148 _ rfl rfl) (by decide) (by decide) (by decide) (by decide) (by decide) ?_
  clear hst; intro a hst
  refine sw_no hst (hst.get 1 148 _ rfl rfl) (by decide) (by decide) (by decide) (by decide) (by decide) ?_
  clear hst; intro a hst
  refine sw_no hst (hst.get 1 148 _ rfl rfl) (by decide) (by decide) (by decide) (by decide) (by decide) ?_
  clear hst; intro a hst
  refine sw_no hst (hst.get 1 148 _ rfl rfl) (by decide) (by decide) (by decide) (by decide) (by decide) ?_
  clear hst; intro a hst
  refine sw_no hst (hst.get 1 148 _ rfl rfl) (by decide) (by decide) (by decide) (by decide) (by decide) ?_
  clear hst; intro a hst
  refine wp_seq ?_
  refine mu_no hst (hst.get 1 148 _ rfl rfl) (by decide) (by decide) (by decide) (by decide) (by decide) ?_
  clear hst; intro a hst
  refine sw_test hst (hst.get 1 148 _ rfl rfl) (by decide) (by decide) (by decide) (by decide) false (by decide) ?_
  clear hst; intro a hst hv
  refine wp_cond_false (eval_tmp hv) ?_
  clear hv
  refine wp_seq ?_
  refine mu_no hst (hst.get 1 148 _ rfl rfl) (by decide) (by decide) (by decide) (by decide) (by decide) ?_
  clear hst; intro a hst
  refine mu_no hst (hst.get 1 148 _ rfl rfl) (by decide) (by decide) (by decide) (by decide) (by decide) ?_
  clear hst; intro a hst
  refine mu_no hst (hst.get 1 148 _ rfl rfl) (by decide) (by decide) (by decide) (by decide) (by decide) ?_
  clear hst; intro a hst
  refine mu_no hst (hst.get 1 148 _ rfl rfl) (by decide) (by decide) (by decide) (by decide) (by decide) ?_
  clear hst; intro a hst
  refine sw_test hst (hst.get 1 148 _ rfl rfl) (by decide) (by decide) (by decide) (by decide) false (by decide) ?_
  clear hst; intro a hst hv
  refine wp_cond_false (eval_tmp hv) ?_
  clear hv
  refine sw_no hst (hst.get 1 148 _ rfl rfl) (by decide) (by decide) (by decide) (by decide) (by decide) ?_
  clear hst; intro a hst
  refine wp_seq ?_
  refine mu_yes hst (hst.get 1 148 _ rfl rfl) (by decide) (by decide) (by decide) (by decide) (by decide) ?_
  clear hst; intro a hst hv
  refine wp_cond_true (eval_tmp hv) ?_
  clear hv
  have h3 := hst.get 0 3 _ rfl rfl
  have h18 := hst.get 2 18 _ rfl rfl
  have hz := hst.size
  have g19 : 19 < a.tmps.size := by rw [hz]; decide
  have g36 : 36 < a.tmps.size := by rw [hz]; decide
  have g37 : 37 < a.tmps.size := by rw [hz]; decide
  have g596 : 596 < a.tmps.size := by rw [hz]; decide
  have g597 : 597 < a.tmps.size := by rw [hz]; decide
  have g598 : 598 < a.tmps.size := by rw [hz]; decide
  have g599 : 599 < a.tmps.size := by rw [hz]; decide
  have g600 : 600 < a.tmps.size := by rw [hz]; decide
  have g601 : 601 < a.tmps.size := by rw [hz]; decide
  have g602 : 602 < a.tmps.size := by rw [hz]; decide
  have g603 : 603 < a.tmps.size := by rw [hz]; decide
  have g604 : 604 < a.tmps.size := by rw [hz]; decide
  have g605 : 605 < a.tmps.size := by rw [hz]; decide
  have g606 : 606 < a.tmps.size := by rw [hz]; decide
  have g607 : 607 < a.tmps.size := by rw [hz]; decide
  have g608 : 608 < a.tmps.size := by rw [hz]; decide
  have g609 : 609 < a.tmps.size := by rw [hz]; decide
  have g610 : 610 < a.tmps.size := by rw [hz]; decide
  have g611 : 611 < a.tmps.size := by rw [hz]; decide
  have g612 : 612 < a.tmps.size := by rw [hz]; decide
  have g613 : 613 < a.tmps.size := by rw [hz]; decide
  have g614 : 614 < a.tmps.size := by rw [hz]; decide
  have g615 : 615 < a.tmps.size := by rw [hz]; decide
  have g616 : 616 < a.tmps.size := by rw [hz]; decide
  have g617 : 617 < a.tmps.size := by rw [hz]; decide
  have g618 : 618 < a.tmps.size := by rw [hz]; decide
  have g619 : 619 < a.tmps.size := by rw [hz]; decide
  have g620 : 620 < a.tmps.size := by rw [hz]; decide
  have HST := Lib.hid hst; clear hst hz
  go_wp2_with fail
  rw [meth_dwarf64]
  go_wp2_with fail
  (with_reducible refine (dwarf64_any U uo _ _ hwd).mono ?_)
  rintro e w' ⟨rfl, rfl⟩
  go_upto_if 605 with fail
  refine wp_cond_false (eval_tmp (by simp [g605])) ?_
  go_upto_if 612 with fail
  refine wp_cond_false (eval_tmp (by simp [g612])) ?_
  go_wp2_with fail
  (with_reducible refine (uint32_any B K c off n l w h (by omega)).mono ?_)
  rintro e w1 ⟨rfl, hb, hf⟩
  clear c2 hwd
  go_wp2_with fail
  exact H _ _ (((((((((((((((((((HST.out.mk').setV 597 _ (by decide)).setV 598 _ (by decide)).setV 599 _ (by decide)).setV 600 _ (by decide)).setV 601 _ (by decide)).setV 596 _ (by decide)).setV 602 _ (by decide)).setV 603 _ (by decide)).setV 36 _ (by decide)).setV 37 _ (by decide)).setV 604 _ (by decide)).setV 605 _ (by decide)).setV 612 _ (by decide)).setV 617 _ (by decide)).setV 618 _ (by decide)).setV 619 _ (by decide)).setV 620 _ (by decide)).setV 19 _ (by decide)) (by simp [g19]) hb hf trivial

set_option maxHeartbeats 1000000 in
theorem sw_23w (B pb U uo n : Nat) (K : Bs) (c : BufK) (off : Nat) (l : List Nat) (w : World)
    (hp : w.cell? ⟨pb, 0, none⟩ = some (.pointer (some ⟨B, 0, none⟩))) (hfmt : c.fmt = .iface 138 (.pointer (some ⟨U, uo, none⟩))) (hwd : w.cell? ⟨U, uo + 7, none⟩ = some (.bool true))
    (h : Buf w B K c off (num n 8 c.big ++ l)) (hn : n < 18446744073709551616) : SwC 23 B pb K c (off + 8) l (ifv 1 n []) w (fun _ => True) := by
  have e : ifv 1 n [] = .iface 2 (.int .i64 (sgn n)) := by unfold ifv; rw [if_pos rfl]
  rw [e]
  clear e
  obtain ⟨_, _, c2, _⟩ := h.get
  rw [hfmt] at c2
  have hw := sgn_wrapR n hn
  generalize sgn n = sn at *
  intro vs a Q hQ hst H
  unfold cSw
  conv => arg 2; whnf
  refine wp_block ?_
  refine sw_no hst (hst.get 1 148 _ rfl rfl) (by decide) (by decide) (by decide) (by decide) (by decide) ?_
  clear hst; intro a hst
  refine wp_seq ?_
  refine mu_no hst (hst.get 1 148 _ rfl rfl) (by decide) (by decide) (by decide) (by decide) (by decide) ?_
  clear hst; intro a hst
  refine mu_no hst (hst.get 1 148 _ rfl rfl) (by decide) (by decide) (by decide) (by decide) (by decide) ?_
  clear hst; intro a hst
  refine mu_no hst (hst.get 1 148 _ rfl rfl) (by decide) (by decide) (by decide) (by decide) (by decide) ?_
  clear hst; intro a hst
  refine mu_no hst (hst.get 1 148 _ rfl rfl) (by decide) (by decide) (by decide) (by decide) (by decide) ?_
  clear hst; intro a hst
  refine sw_test hst (hst.get 1 148 _ rfl rfl) (by decide) (by decide) (by decide) (by decide) false (by decide) ?_
  clear hst; intro a hst hv
  refine wp_cond_false (eval_tmp hv) ?_
  clear hv
  refine sw_no hst (hst.get 1 148 _ rfl rfl) (by decide) (by decide) (by decide) (by decide) (by decide) ?_
  clear hst; intro a hst
  refine sw_no hst (hst.get 1 148 _ rfl rfl) (by decide) (by decide) (by decide) (by decide) (by decide) ?_
  clear hst; intro a hst
  refine sw_no hst (hst.get 1 148 _ rfl rfl) (by decide) (by decide) (by decide) (by decide) (by decide) ?_
  clear hst; intro a hst
  refine sw_no hst (hst.get 1 148 _ rfl rfl) (by decide) (by decide) (by decide) (by decide) (by decide) ?_
  clear hst; intro a hst
  refine sw_no hst (hst.get 1 148 _ rfl rfl) (by decide) (by decide) (by decide) (by decide) (by decide) ?_
  clear hst; intro a hst
  refine sw_no hst (hst.get 1 148 _ rfl rfl) (by decide) (by decide) (by decide) (by decide) (by decide) ?_
  clear hst; intro a hst
  refine sw_no hst (hst.get 1 148 _ rfl rfl) (by decide) (by decide) (by decide) (by decide) (by decide) ?_
  clear hst; intro a hst
  refine sw_no hst (hst.get 1 148 _ rfl rfl) (by decide) (by decide) (by decide) (by decide) (by decide) ?_
  clear hst; intro a hst
  refine sw_no hst (hst.get 1 148 _ rfl rfl) (by decide) (by decide) (by decide) (by decide) (by decide) ?_
  clear hst; intro a hst
  refine sw_no hst (hst.get 1 148 _ rfl rfl) (by decide) (by decide) (by decide) (by decide) (by decide) ?_
  clear hst; intro a hst
  refine sw_no hst (hst.get 1 148 _ rfl rfl) (by decide) (by decide) (by decide) (by decide) (by decide) ?_
  clear hst; intro a hst
  refine sw_no hst (hst.get 1 148 _ rfl rfl) (by decide) (by decide) (by decide) (by decide) (by decide) ?_
  clear hst; intro a hst
  refine sw_no hst (hst.get 1 148 _ rfl rfl) (by decide) (by decide) (by decide) (by decide) (by decide) ?_
  clear hst; intro a hst
  refine sw_no hst (hst.get 1 148 _ rfl rfl) (by decide) (by decide) (by decide) (by decide) (by decide) ?_
  clear hst; intro a hst
  refine sw_no hst (hst.get 1 148 _ rfl rfl) (by decide) (by decide) (by decide) (by decide) (by decide) ?_
  clear hst; intro a hst
  refine sw_no hst (hst.get 1 148 _ rfl rfl) (by decide) (by decide) (by decide) (by decide) (by decide) ?_
  clear hst; intro a hst
  refine sw_no hst (hst.get 1 148 _ rfl rfl) (by decide) (by decide) (by decide) (by decide) (by decide) ?_
  clear hst; intro a hst
  refine sw_no hst (hst.get 1 148 _ rfl rfl) (by decide) (by decide) (by decide) (by decide) (by decide) ?_
  clear hst; intro a hst
  refine sw_no hst (hst.get 1 148 _ rfl rfl) (by decide) (by decide) (by decide) (by decide) (by decide) ?_
  clear hst; intro a hst
  refine sw_no hst (hst.get 1 148 _ rfl rfl) (by decide) (by decide) (by decide) (by decide) (by decide) ?_
  clear hst; intro a hst
  refine sw_no hst (hst.get 1 148 _ rfl rfl) (by decide) (by decide) (by decide) (by decide) (by decide) ?_
  clear hst; intro a hst
  refine wp_seq ?_
  refine mu_no hst (hst.get 1 148 _ rfl rfl) (by decide) (by decide) (by decide) (by decide) (by decide) ?_
  clear hst; intro a hst
  refine sw_test hst (hst.get 1 148 _ rfl rfl) (by decide) (by decide) (by decide) (by decide) false (by decide) ?_
  clear hst; intro a hst hv
  refine wp_cond_false (eval_tmp hv) ?_
  clear hv
  refine wp_seq ?_
  refine mu_no hst (hst.get 1 148 _ rfl rfl) (by decide) (by decide) (by decide) (by decide) (by decide) ?_
  clear hst; intro a hst
  refine mu_no hst (hst.get 1 148 _ rfl rfl) (by decide) (by decide) (by decide) (by decide) (by decide) ?_
  clear hst; intro a hst
  refine mu_no hst (hst.get 1 148 _ rfl rfl) (by decide) (by decide) (by decide) (by decide) (by decide) ?_
  clear hst; intro a hst
  refine mu_no hst (hst.get 1 148 _ rfl rfl) (by decide) (by decide) (by decide) (by decide) (by decide) ?_
  clear hst; intro a hst
  refine sw_test hst (hst.get 1 148 _ rfl rfl) (by decide) (by decide) (by decide) (by decide) false (by decide) ?_
  clear hst; intro a hst hv
  refine wp_cond_false (eval_tmp hv) ?_
  clear hv
  refine sw_no hst (hst.get 1 148 _ rfl rfl) (by decide) (by decide) (by decide) (by decide) (by decide) ?_
  clear hst; intro a hst
  refine wp_seq ?_
  refine mu_yes hst (hst.get 1 148 _ rfl rfl) (by decide) (by decide) (by decide) (by decide) (by decide) ?_
  clear hst; intro a hst hv
  refine wp_cond_true (eval_tmp hv) ?_
  clear hv
  have h3 := hst.get 0 3 _ rfl rfl
  have h18 := hst.get 2 18 _ rfl rfl
  have hz := hst.size
  have g19 : 19 < a.tmps.size := by rw [hz]; decide
  have g36 : 36 < a.tmps.size := by rw [hz]; decide
  have g37 : 37 < a.tmps.size := by rw [hz]; decide
  have g596 : 596 < a.tmps.size := by rw [hz]; decide
  have g597 : 597 < a.tmps.size := by rw [hz]; decide
  have g598 : 598 < a.tmps.size := by rw [hz]; decide
  have g599 : 599 < a.tmps.size := by rw [hz]; decide
  have g600 : 600 < a.tmps.size := by rw [hz]; decide
  have g601 : 601 < a.tmps.size := by rw [hz]; decide
  have g602 : 602 < a.tmps.size := by rw [hz]; decide
  have g603 : 603 < a.tmps.size := by rw [hz]; decide
  have g604 : 604 < a.tmps.size := by rw [hz]; decide
  have g605 : 605 < a.tmps.size := by rw [hz]; decide
  have g606 : 606 < a.tmps.size := by rw [hz]; decide
  have g607 : 607 < a.tmps.size := by rw [hz]; decide
  have g608 : 608 < a.tmps.size := by rw [hz]; decide
  have g609 : 609 < a.tmps.size := by rw [hz]; decide
  have g610 : 610 < a.tmps.size := by rw [hz]; decide
  have g611 : 611 < a.tmps.size := by rw [hz]; decide
  have g612 : 612 < a.tmps.size := by rw [hz]; decide
  have g613 : 613 < a.tmps.size := by rw [hz]; decide
  have g614 : 614 < a.tmps.size := by rw [hz]; decide
  have g615 : 615 < a.tmps.size := by rw [hz]; decide
  have g616 : 616 < a.tmps.size := by rw [hz]; decide
  have g617 : 617 < a.tmps.size := by rw [hz]; decide
  have g618 : 618 < a.tmps.size := by rw [hz]; decide
  have g619 : 619 < a.tmps.size := by rw [hz]; decide
  have g620 : 620 < a.tmps.size := by rw [hz]; decide
  have HST := Lib.hid hst; clear hst hz
  go_wp2_with fail
  rw [meth_dwarf64]
  go_wp2_with fail
  (with_reducible refine (dwarf64_any U uo _ _ hwd).mono ?_)
  rintro e w' ⟨rfl, rfl⟩
  go_upto_if 605 with fail
  refine wp_cond_false (eval_tmp (by simp [g605])) ?_
  go_upto_if 612 with fail
  refine wp_cond_true (eval_tmp (by simp [g612])) ?_
  go_wp2_with fail
  (with_reducible refine (uint64_any B K c off n l w h (by omega)).mono ?_)
  rintro e w1 ⟨rfl, hb, hf⟩
  clear c2 hwd
  go_wp2_with fail
  exact H _ _ (((((((((((((((((((HST.out.mk').setV 597 _ (by decide)).setV 598 _ (by decide)).setV 599 _ (by decide)).setV 600 _ (by decide)).setV 601 _ (by decide)).setV 596 _ (by decide)).setV 602 _ (by decide)).setV 603 _ (by decide)).setV 36 _ (by decide)).setV 37 _ (by decide)).setV 604 _ (by decide)).setV 605 _ (by decide)).setV 612 _ (by decide)).setV 613 _ (by decide)).setV 614 _ (by decide)).setV 615 _ (by decide)).setV 616 _ (by decide)).setV 19 _ (by decide)) (by simp [g19]) hb hf trivial

theorem sw_23 (B pb U uo n : Nat) (wide : Bool) (K : Bs) (c : BufK) (off : Nat) (l : List Nat) (w : World)
    (hp : w.cell? ⟨pb, 0, none⟩ = some (.pointer (some ⟨B, 0, none⟩))) (hfmt : c.fmt = .iface 138 (.pointer (some ⟨U, uo, none⟩))) (hwd : w.cell? ⟨U, uo + 7, none⟩ = some (.bool wide))
    (h : Buf w B K c off (num n (wordF wide) c.big ++ l)) (hn : n < 2 ^ (8 * wordF wide)) : SwC 23 B pb K c (off + wordF wide) l (ifv 1 n []) w (fun _ => True) := by
  cases wide
  · exact sw_23n B pb U uo n K c off l w hp hfmt hwd h hn
  · exact sw_23w B pb U uo n K c off l w hp hfmt hwd h hn

set_option maxHeartbeats 4000000 in
theorem sw_14n (B pb U uo D n : Nat) (K KS : Bs) (c : BufK) (off : Nat) (l d r str : List Nat) (sa : Option Addr) (sn sc : Nat) (w : World)
    (hp : w.cell? ⟨pb, 0, none⟩ = some (.pointer (some ⟨B, 0, none⟩))) (hfmt : c.fmt = .iface 138 (.pointer (some ⟨U, uo, none⟩))) (hwd : w.cell? ⟨U, uo + 7, none⟩ = some (.bool false))
    (hdp : c.dp = .pointer (some ⟨D, 0, none⟩)) (hD7 : w.cell? ⟨D, 7, none⟩ = some (.slice sa sn sc)) (hD14 : w.cell? ⟨D, 14, none⟩ = some (.bool c.big)) (hstr : Rd KS w (.slice sa sn sc) str) (hKS : ∀ k, KS k → k < w.heap.size ∧ k ≠ B) (hDB : ¬ D = B) (hpB : ¬ pb = B) (hUB : ¬ U = B)
    (hlen : str.length < 4294967296) (hdr : str.drop n = d ++ 0 :: r) (hd : ∀ x ∈ d, x ≠ 0 ∧ x < 256)
    (h : Buf w B K c off (num n 4 c.big ++ l)) (hn : n < 4294967296) : SwC 14 B pb K c (off + 4) l (ifv 6 0 d) w (fun _ => True) := by
  have e : ifv 6 0 d = .iface 9 (.string (strB d)) := by unfold ifv; rw [if_neg (by decide), if_neg (by decide)]
  rw [e]
  clear e
  obtain ⟨c0, _, c2, _⟩ := h.get
  rw [hfmt] at c2
  have hw : wrap64 (n : Int) = n := by unfold wrap64; omega
  have hw2 : IntKind.u64.wrap (n : Int) = n := by rw [IntKind.wrap_u64]; omega
  have HD := Lib.hid hd; have HDR := Lib.hid hdr; have HFM := Lib.hid hfmt; have HDP := Lib.hid hdp; have HKS := Lib.hid hKS
  clear hd hdr hfmt hdp hKS c0
  intro vs a Q hQ hst H
  unfold cSw
  conv => arg 2; whnf
  refine wp_block ?_
  refine sw_no hst (hst.get 1 148 _ rfl rfl) (by decide) (by decide) (by decide) (by decide) (by decide) ?_
  clear hst; intro a hst
  refine wp_seq ?_
  refine mu_no hst (hst.get 1 148 _ rfl rfl) (by decide) (by decide) (by decide) (by decide) (by decide) ?_
  clear hst; intro a hst
  refine mu_no hst (hst.get 1 148 _ rfl rfl) (by decide) (by decide) (by decide) (by decide) (by decide) ?_
  clear hst; intro a hst
  refine mu_no hst (hst.get 1 148 _ rfl rfl) (by decide) (by decide) (by decide) (by decide) (by decide) ?_
  clear hst; intro a hst
  refine mu_no hst (hst.get 1 148 _ rfl rfl) (by decide) (by decide) (by decide) (by decide) (by decide) ?_
  clear hst; intro a hst
  refine sw_test hst (hst.get 1 148 _ rfl rfl) (by decide) (by decide) (by decide) (by decide) false (by decide) ?_
  clear hst; intro a hst hv
  refine wp_cond_false (eval_tmp hv) ?_
  clear hv
  refine sw_no hst (hst.get 1 148 _ rfl rfl) (by decide) (by decide) (by decide) (by decide) (by decide) ?_
  clear hst; intro a hst
  refine sw_no hst (hst.get 1 148 _ rfl rfl) (by decide) (by decide) (by decide) (by decide) (by decide) ?_
  clear hst; intro a hst
  refine sw_no hst (hst.get 1 148 _ rfl rfl) (by decide) (by decide) (by decide) (by decide) (by decide) ?_
  clear hst; intro a hst
  refine sw_no hst (hst.get 1 148 _ rfl rfl) (by decide) (by decide) (by decide) (by decide) (by decide) ?_
  clear hst; intro a hst
  refine sw_no hst (hst.get 1 148 _ rfl rfl) (by decide) (by decide) (by decide) (by decide) (by decide) ?_
  clear hst; intro a hst
  refine sw_no hst (hst.get 1 148 _ rfl rfl) (by decide) (by decide) (by decide) (by decide) (by decide) ?_
  clear hst; intro a hst
  refine sw_no hst (hst.get 1 148 _ rfl rfl) (by decide) (by decide) (by decide) (by decide) (by decide) ?_
  clear hst; intro a hst
  refine sw_no hst (hst.get 1 148 _ rfl rfl) (by decide) (by decide) (by decide) (by decide) (by decide) ?_
  clear hst; intro a hst
  refine sw_no hst (hst.get 1 148 _ rfl rfl) (by decide) (by decide) (by decide) (by decide) (by decide) ?_
  clear hst; intro a hst
  refine sw_no hst (hst.get 1 148 _ rfl rfl) (by decide) (by decide) (by decide) (by decide) (by decide) ?_
  clear hst; intro a hst
  refine sw_no hst (hst.get 1 148 _ rfl rfl) (by decide) (by decide) (by decide) (by decide) (by decide) ?_
  clear hst; intro a hst
  refine sw_no hst (hst.get 1 148 _ rfl rfl) (by decide) (by decide) (by decide) (by decide) (by decide) ?_
  clear hst; intro a hst
  refine sw_no hst (hst.get 1 148 _ rfl rfl) (by decide) (by decide) (by decide) (by decide) (by decide) ?_
  clear hst; intro a hst
  refine sw_no hst (hst.get 1 148 _ rfl rfl) (by decide) (by decide) (by decide) (by decide) (by decide) ?_
  clear hst; intro a hst
  refine sw_no hst (hst.get 1 148 _ rfl rfl) (by decide) (by decide) (by decide) (by decide) (by decide) ?_
  clear hst; intro a hst
  refine sw_no hst (hst.get 1 148 _ rfl rfl) (by decide) (by decide) (by decide) (by decide) (by decide) ?_
  clear hst; intro a hst
  refine sw_no hst (hst.get 1 148 _ rfl rfl) (by decide) (by decide) (by decide) (by decide) (by decide) ?_
  clear hst; intro a hst
  refine sw_no hst (hst.get 1 148 _ rfl rfl) (by decide) (by decide) (by decide) (by decide) (by decide) ?_
  clear hst; intro a hst
  refine sw_no hst (hst.get 1 148 _ rfl rfl) (by decide) (by decide) (by decide) (by decide) (by decide) ?_
  clear hst; intro a hst
  refine sw_no hst (hst.get 1 148 _ rfl rfl) (by decide) (by decide) (by decide) (by decide) (by decide) ?_
  clear hst; intro a hst
  refine sw_no hst (hst.get 1 148 _ rfl rfl) (by decide) (by decide) (by decide) (by decide) (by decide) ?_
  clear hst; intro a hst
  refine wp_seq ?_
  refine mu_yes hst (hst.get 1 148 _ rfl rfl) (by decide) (by decide) (by decide) (by decide) (by decide) ?_
  clear hst; intro a hst hv
  refine wp_cond_true (eval_tmp hv) ?_
  clear hv
  have h3 := hst.get 0 3 _ rfl rfl
  have h18 := hst.get 2 18 _ rfl rfl
  have hz := hst.size
  have g26 : 26 < a.tmps.size := by rw [hz]; decide
  have g27 : 27 < a.tmps.size := by rw [hz]; decide
  have g28 : 28 < a.tmps.size := by rw [hz]; decide
  have g29 : 29 < a.tmps.size := by rw [hz]; decide
  have g410 : 410 < a.tmps.size := by rw [hz]; decide
  have g411 : 411 < a.tmps.size := by rw [hz]; decide
  have g412 : 412 < a.tmps.size := by rw [hz]; decide
  have g413 : 413 < a.tmps.size := by rw [hz]; decide
  have g414 : 414 < a.tmps.size := by rw [hz]; decide
  have g415 : 415 < a.tmps.size := by rw [hz]; decide
  have g416 : 416 < a.tmps.size := by rw [hz]; decide
  have g417 : 417 < a.tmps.size := by rw [hz]; decide
  have g418 : 418 < a.tmps.size := by rw [hz]; decide
  have g419 : 419 < a.tmps.size := by rw [hz]; decide
  have g422 : 422 < a.tmps.size := by rw [hz]; decide
  have g423 : 423 < a.tmps.size := by rw [hz]; decide
  have g424 : 424 < a.tmps.size := by rw [hz]; decide
  have g425 : 425 < a.tmps.size := by rw [hz]; decide
  have g426 : 426 < a.tmps.size := by rw [hz]; decide
  have g427 : 427 < a.tmps.size := by rw [hz]; decide
  have g428 : 428 < a.tmps.size := by rw [hz]; decide
  have g429 : 429 < a.tmps.size := by rw [hz]; decide
  have g430 : 430 < a.tmps.size := by rw [hz]; decide
  have g431 : 431 < a.tmps.size := by rw [hz]; decide
  have g432 : 432 < a.tmps.size := by rw [hz]; decide
  have g435 : 435 < a.tmps.size := by rw [hz]; decide
  have g436 : 436 < a.tmps.size := by rw [hz]; decide
  have g437 : 437 < a.tmps.size := by rw [hz]; decide
  have g438 : 438 < a.tmps.size := by rw [hz]; decide
  have g439 : 439 < a.tmps.size := by rw [hz]; decide
  have g440 : 440 < a.tmps.size := by rw [hz]; decide
  have g441 : 441 < a.tmps.size := by rw [hz]; decide
  have g442 : 442 < a.tmps.size := by rw [hz]; decide
  have g443 : 443 < a.tmps.size := by rw [hz]; decide
  have g444 : 444 < a.tmps.size := by rw [hz]; decide
  have g445 : 445 < a.tmps.size := by rw [hz]; decide
  have g446 : 446 < a.tmps.size := by rw [hz]; decide
  have g447 : 447 < a.tmps.size := by rw [hz]; decide
  have g448 : 448 < a.tmps.size := by rw [hz]; decide
  have g449 : 449 < a.tmps.size := by rw [hz]; decide
  have g450 : 450 < a.tmps.size := by rw [hz]; decide
  have g451 : 451 < a.tmps.size := by rw [hz]; decide
  have g452 : 452 < a.tmps.size := by rw [hz]; decide
  have g453 : 453 < a.tmps.size := by rw [hz]; decide
  have g454 : 454 < a.tmps.size := by rw [hz]; decide
  have g455 : 455 < a.tmps.size := by rw [hz]; decide
  have g456 : 456 < a.tmps.size := by rw [hz]; decide
  have g457 : 457 < a.tmps.size := by rw [hz]; decide
  have g458 : 458 < a.tmps.size := by rw [hz]; decide
  have g459 : 459 < a.tmps.size := by rw [hz]; decide
  have g485 : 485 < a.tmps.size := by rw [hz]; decide
  have g486 : 486 < a.tmps.size := by rw [hz]; decide
  have g487 : 487 < a.tmps.size := by rw [hz]; decide
  have g488 : 488 < a.tmps.size := by rw [hz]; decide
  have g489 : 489 < a.tmps.size := by rw [hz]; decide
  have g490 : 490 < a.tmps.size := by rw [hz]; decide
  have g491 : 491 < a.tmps.size := by rw [hz]; decide
  have g492 : 492 < a.tmps.size := by rw [hz]; decide
  have g19 : 19 < a.tmps.size := by rw [hz]; decide
  have HST := Lib.hid hst; clear hst hz
  go_wp2_with fail
  rw [meth_dwarf64]
  go_wp2_with fail
  (with_reducible refine (dwarf64_any U uo _ _ hwd).mono ?_)
  rintro e w' ⟨rfl, rfl⟩
  go_upto_if 419 with fail
  refine wp_cond_false (eval_tmp (by simp [g419])) ?_
  go_upto_if 422 with fail
  refine wp_cond_false (eval_tmp (by simp [g422])) ?_
  go_wp2_with fail
  (with_reducible refine (uint32_any B K c off n l w h (by omega)).mono ?_)
  rintro e w1 ⟨rfl, hb, hf⟩
  obtain ⟨c0, _, c2', _, c6, _⟩ := hb.get
  rw [HFM.out] at c2'
  rw [HDP.out] at c0
  replace hp := hf.cell hp hpB
  replace hD7 := hf.cell hD7 hDB
  replace hD14 := hf.cell hD14 hDB
  clear c2 hwd
  have hs1 := hf.size
  have HB := Lib.hid hb; have HF := Lib.hid hf
  have HSTR := Lib.hid (hstr.keep (hf.same fun k hk => HKS.out k hk))
  clear hb hf hstr
  go_upto_if 432 with fail
  refine wp_cond_false (eval_tmp (by simp [g432])) ?_
  go_upto_if 439 with fail
  refine wp_cond_false (eval_tmp (by simp [g439])) ?_
  go_upto_if 441 with fail
  refine wp_cond_true (eval_tmp (by simp [g441])) ?_
  refine wp_abs (R := St 677 (29 :: 26 :: K47) (.pointer (some ⟨w1.heap.size, 0, none⟩) :: .int .u64 (n : Int) :: .pointer (some ⟨pb, 0, none⟩) :: .int .u32 ((14 : Nat) : Int) :: .int .u32 ((14 : Nat) : Int) :: vs)) ?_ ?_
  · exact (((((((((((((((((((((((((((((((((HST.out.mk').setV 26 _ (by decide)).setV 411 _ (by decide)).setV 412 _ (by decide)).setV 413 _ (by decide)).setV 414 _ (by decide)).setV 415 _ (by decide)).setV 410 _ (by decide)).setV 416 _ (by decide)).setV 417 _ (by decide)).setV 27 _ (by decide)).setV 28 _ (by decide)).setV 418 _ (by decide)).setV 419 _ (by decide)).setV 422 _ (by decide)).setV 425 _ (by decide)).setV 426 _ (by decide)).setV 427 _ (by decide)).setV 26 _ (by decide)).setV 428 _ (by decide)).setV 429 _ (by decide)).setV 430 _ (by decide)).setV 431 _ (by decide)).setV 432 _ (by decide)).setV 435 _ (by decide)).setV 436 _ (by decide)).setV 437 _ (by decide)).setV 438 _ (by decide)).setV 439 _ (by decide)).setV 29 _ (by decide)).setV 440 _ (by decide)).setV 441 _ (by decide)).more (t := 26) (v := .int .u64 (n : Int)) (by simp [g411, g412, g413, g414, g415, g410, g416, g417, g27, g28, g418, g419, g422, g425, g426, g427, g26, g428, g429, g430, g431, g432, g435, g436, g437, g438, g439, g29, g440, g441, g26])).more (t := 29) (v := .pointer (some ⟨w1.heap.size, 0, none⟩)) (by simp [g411, g412, g413, g414, g415, g410, g416, g417, g27, g28, g418, g419, g422, g425, g426, g427, g26, g428, g429, g430, g431, g432, g435, g436, g437, g438, g439, g29, g440, g441, g26])
  clear HST g26 g27 g28 g29 g410 g411 g412 g413 g414 g415 g416 g417 g418 g419 g422 g423 g424 g425 g426 g427 g428 g429 g430 g431 g432 g435 g436 g437 g438 g439 g440 g441 g442 g443 g444 g445 g446 g447 g448 g449 g450 g451 g452 g453 g454 g455 g456 g457 g458 g459 g485 g486 g487 g488 g489 g490 g491 g492 g19
  intro a hst
  have h3 := hst.get 2 3 _ rfl rfl
  have h26 := hst.get 1 26 _ rfl rfl
  have h29 := hst.get 0 29 _ rfl rfl
  have hz := hst.size
  have g442 : 442 < a.tmps.size := by rw [hz]; decide
  have g443 : 443 < a.tmps.size := by rw [hz]; decide
  have g444 : 444 < a.tmps.size := by rw [hz]; decide
  have g445 : 445 < a.tmps.size := by rw [hz]; decide
  have g446 : 446 < a.tmps.size := by rw [hz]; decide
  have g447 : 447 < a.tmps.size := by rw [hz]; decide
  have g448 : 448 < a.tmps.size := by rw [hz]; decide
  have g449 : 449 < a.tmps.size := by rw [hz]; decide
  have g450 : 450 < a.tmps.size := by rw [hz]; decide
  have g451 : 451 < a.tmps.size := by rw [hz]; decide
  have g452 : 452 < a.tmps.size := by rw [hz]; decide
  have g453 : 453 < a.tmps.size := by rw [hz]; decide
  have g454 : 454 < a.tmps.size := by rw [hz]; decide
  have g455 : 455 < a.tmps.size := by rw [hz]; decide
  have g456 : 456 < a.tmps.size := by rw [hz]; decide
  have g457 : 457 < a.tmps.size := by rw [hz]; decide
  have g485 : 485 < a.tmps.size := by rw [hz]; decide
  have g486 : 486 < a.tmps.size := by rw [hz]; decide
  have g487 : 487 < a.tmps.size := by rw [hz]; decide
  have g488 : 488 < a.tmps.size := by rw [hz]; decide
  have g489 : 489 < a.tmps.size := by rw [hz]; decide
  have g490 : 490 < a.tmps.size := by rw [hz]; decide
  have g491 : 491 < a.tmps.size := by rw [hz]; decide
  have g492 : 492 < a.tmps.size := by rw [hz]; decide
  have g19 : 19 < a.tmps.size := by rw [hz]; decide
  have HST := Lib.hid hst; clear hst hz
  generalize hX : w1.heap.size = X at *
  have hXX := heap_alloc_new w1 (.cells #[.pointer none, .bool false, .nilIface, .string ⟨#[]⟩, .int .u32 0, .slice none 0 0, .nilIface] 135)
  rw [hX] at hXX
  have hal : Frame no w1 (w1.alloc (.cells #[.pointer none, .bool false, .nilIface, .string ⟨#[]⟩, .int .u32 0, .slice none 0 0, .nilIface] 135)) := (Frame.refl _ _).alloc _
  replace hp := hal.cell hp id
  replace hD7 := hal.cell hD7 id
  replace hD14 := hal.cell hD14 id
  replace c0 := hal.cell c0 id
  replace c2' := hal.cell c2' id
  have HAL := Lib.hid hal; have HXX := Lib.hid hXX; have HX := Lib.hid hX; clear hal hXX hX c6
  generalize hw2 : (w1.alloc (.cells #[.pointer none, .bool false, .nilIface, .string ⟨#[]⟩, .int .u32 0, .slice none 0 0, .nilIface] 135)) = w2 at *
  clear hw2
  refine wp_region_S no 16 [(0, true), (1, true), (2, true), (3, true), (4, true), (5, true), (6, true), (7, true), (8, true), (9, true), (10, true), (11, true), (12, true), (13, true), (14, true), (15, false), (16, false)] (by kernel_rfl) (by kernel_rfl) (fun c a w d v h => hQ c a w d v h) ?_
  simp only [pickB, List.getElem?_toArray, List.getElem?_cons_zero, List.getElem?_cons_succ, Option.getD_some, Bool.false_eq_true, ↓reduceIte, Nat.reduceLT]
  iterate 15
    refine seqS_val (v := ?_) (fun w' hX => ?_) ?_
    rotate_left
    · have x0 := hX.cell hp id; have x1 := hX.cell c0 id; have x2 := hX.cell c2' id; have x3 := hX.cell hD7 id; clear hX; go_simp; try with_reducible rfl
    try simp only [Act.put, List.setIfInBounds_toArray, List.set_cons_zero, List.set_cons_succ]
  refine seqS_new (fun KK hK => ?_)
  go_wp2_with fail
  have hD14d : w2.drew.cell? ⟨D, 14, none⟩ = some (.bool c.big) := hD14
  (with_reducible refine (makeBuf_any D 138 (.pointer (some ⟨U, uo, none⟩)) _ 0 sa sn sc c.big _ hD14d).mono ?_)
  rintro e w3 ⟨rfl, hf3⟩
  have hX3 := (hf3.block X (Array.getElem?_eq_some_iff.1 HXX.out).1 id).trans HXX.out
  have y0 := cell_of_row _ X 0 _ _ _ hX3
  have y1 := cell_of_row _ X 1 _ _ _ hX3
  have y2 := cell_of_row _ X 2 _ _ _ hX3
  have y3 := cell_of_row _ X 3 _ _ _ hX3
  have y4 := cell_of_row _ X 4 _ _ _ hX3
  have y5 := cell_of_row _ X 5 _ _ _ hX3
  have y6 := cell_of_row _ X 6 _ _ _ hX3
  simp only [List.getElem?_toArray, List.getElem?_cons_zero, List.getElem?_cons_succ] at y0 y1 y2 y3 y4 y5 y6
  have hfz : ∀ i, w3.frozen? ⟨X, i, none⟩ = false := fun i => by simp [World.frozen?, hX3]
  have z0 := hfz 0; have z1 := hfz 1; have z2 := hfz 2; have z3 := hfz 3; have z4 := hfz 4; have z5 := hfz 5; have z6 := hfz 6
  have HX3 := Lib.hid hX3; have HF3 := Lib.hid hf3
  clear hX3 hfz
  refine hK _ _ (And.intro hf3 ?_)
  clear hf3 hK
  refine seqS_out (fun KK hK => ?_)
  go_simp
  refine hK _ _ ?_
  clear hK
  refine seqS_nil ?_
  obtain ⟨hX4, hf4⟩ := set7 HX3.out (.pointer (some ⟨D, 0, none⟩)) (.bool c.big) (.iface 138 (.pointer (some ⟨U, uo, none⟩))) (.string ⟨#[115, 116, 114]⟩) (.int .u32 0) (.slice sa sn sc) .nilIface
  have hF14 : Frame no w1 w3 := (HAL.out.drew.trans HF3.out (fun _ h => h.elim))
  have hx := HX.out
  have hKX : ∀ k, KS k → k < w1.heap.size := fun k hk => by rw [hx]; exact Nat.lt_of_lt_of_le (HKS.out k hk).1 hs1
  have hbX : Buf (((((((w3.setCell ⟨X, 0, none⟩ (.pointer (some ⟨D, 0, none⟩))).setCell ⟨X, 1, none⟩ (.bool c.big)).setCell ⟨X, 2, none⟩ (.iface 138 (.pointer (some ⟨U, uo, none⟩)))).setCell ⟨X, 3, none⟩ (.string ⟨#[115, 116, 114]⟩)).setCell ⟨X, 4, none⟩ (.int .u32 0)).setCell ⟨X, 5, none⟩ (.slice sa sn sc)).setCell ⟨X, 6, none⟩ .nilIface) X KS
      { dp := .pointer (some ⟨D, 0, none⟩), big := c.big, fmt := .iface 138 (.pointer (some ⟨U, uo, none⟩)), nm := .string ⟨#[115, 116, 114]⟩, rest := [], ty := 135 } 0 (str.take n ++ (d ++ 0 :: r)) := by
    rw [← HDR.out, List.take_append_drop]
    exact ⟨⟨sa, sn, sc, hX4, (HSTR.out.keep (hF14.same fun k hk => ⟨hKX k hk, id⟩)).keep (hf4.same fun k hk => ⟨Nat.lt_of_lt_of_le (hKX k hk) hF14.size, fun e => by have := hKX k hk; have e' : k = X := e; omega⟩)⟩,
      fun k hk => ⟨Nat.lt_of_lt_of_le (hKX k hk) (Nat.le_trans hF14.size hf4.size), fun e => by have := hKX k hk; omega⟩, by omega⟩
  have hnl : (str.take n).length = n := by
    have := congrArg List.length HDR.out
    rw [List.length_drop, List.length_append, List.length_cons] at this
    rw [List.length_take]; omega
  have HB4 := Lib.hid (HB.out.keep hF14 id fun k hk => ⟨(HB.out.apart k hk).1, id⟩)
  have hBX : ¬ B = X := fun e => by have := HB.out.lt_size; omega
  have hKXl : ∀ k, K k → k < w3.heap.size ∧ ¬ k = X := fun k hk => ⟨(HB4.out.apart k hk).1, fun e => by have := (HB.out.apart k hk).1; omega⟩
  have HB5 := Lib.hid (HB4.out.keep hf4 hBX hKXl)
  have hF15 : Frame (fun k => k = B) w (((((((w3.setCell ⟨X, 0, none⟩ (.pointer (some ⟨D, 0, none⟩))).setCell ⟨X, 1, none⟩ (.bool c.big)).setCell ⟨X, 2, none⟩ (.iface 138 (.pointer (some ⟨U, uo, none⟩)))).setCell ⟨X, 3, none⟩ (.string ⟨#[115, 116, 114]⟩)).setCell ⟨X, 4, none⟩ (.int .u32 0)).setCell ⟨X, 5, none⟩ (.slice sa sn sc)).setCell ⟨X, 6, none⟩ .nilIface) :=
    (HF.out.trans hF14 fun _ h => h.elim).trans hf4 fun k hk => .inr (by have e' : k = X := hk; omega)
  have HBX := Lib.hid hbX; have HNL := Lib.hid hnl; have HF15 := Lib.hid hF15; have HKXL := Lib.hid hKXl
  clear hbX hnl hF15 hKXl hKX hX4 hf4 hF14 y0 y1 y2 y3 y4 y5 y6 z0 z1 z2 z3 z4 z5 z6 hp hD7 hD14 hD14d c0 c2'
  generalize (((((((w3.setCell ⟨X, 0, none⟩ (.pointer (some ⟨D, 0, none⟩))).setCell ⟨X, 1, none⟩ (.bool c.big)).setCell ⟨X, 2, none⟩ (.iface 138 (.pointer (some ⟨U, uo, none⟩)))).setCell ⟨X, 3, none⟩ (.string ⟨#[115, 116, 114]⟩)).setCell ⟨X, 4, none⟩ (.int .u32 0)).setCell ⟨X, 5, none⟩ (.slice sa sn sc)).setCell ⟨X, 6, none⟩ .nilIface) = w4 at *
  go_wp2_with fail
  (with_reducible refine (skip_any X KS _ 0 n (str.take n) _ w4 HBX.out HNL.out).mono ?_)
  rintro e w5 ⟨rfl, hb5, hf5⟩
  have HBX5 := Lib.hid hb5; have HF5 := Lib.hid hf5; clear hb5 hf5
  go_wp2_with fail
  (with_reducible refine (string_any X KS _ (0 + n) d r w5 HBX5.out HD.out).mono ?_)
  rintro e w6 ⟨rfl, hb6, hf6⟩
  obtain ⟨_, _, _, _, c6, _⟩ := hb6.get
  have HBX6 := Lib.hid hb6; have HF6 := Lib.hid hf6; clear hb6 hf6
  go_upto_if 492 with fail
  refine wp_cond_false (eval_tmp (by simp [g492])) ?_
  go_wp2_with fail
  have hFX := HF5.out.trans' HF6.out
  have hxw := HF.out.size
  have hx := HX.out
  exact H _ _ ((((((((((((((((((((((((((HST.out.tail.tail.mk').setV 442 _ (by decide)).setV 443 _ (by decide)).setV 444 _ (by decide)).setV 445 _ (by decide)).setV 446 _ (by decide)).setV 447 _ (by decide)).setV 448 _ (by decide)).setV 449 _ (by decide)).setV 450 _ (by decide)).setV 451 _ (by decide)).setV 452 _ (by decide)).setV 453 _ (by decide)).setV 454 _ (by decide)).setV 455 _ (by decide)).setV 456 _ (by decide)).setV 457 _ (by decide)).setV 485 _ (by decide)).setV 486 _ (by decide)).setV 487 _ (by decide)).setV 488 _ (by decide)).setV 489 _ (by decide)).setV 19 _ (by decide)).setV 490 _ (by decide)).setV 491 _ (by decide)).setV 492 _ (by decide)) (by simp [g19]) (HB5.out.keep hFX hBX fun k hk => ⟨(HB5.out.apart k hk).1, (HKXL.out k hk).2⟩) (HF15.out.trans hFX fun k hk => .inr (by have e' : k = X := hk; omega)) trivial

set_option maxHeartbeats 4000000 in
theorem sw_14w (B pb U uo D n : Nat) (K KS : Bs) (c : BufK) (off : Nat) (l d r str : List Nat) (sa : Option Addr) (sn sc : Nat) (w : World)
    (hp : w.cell? ⟨pb, 0, none⟩ = some (.pointer (some ⟨B, 0, none⟩))) (hfmt : c.fmt = .iface 138 (.pointer (some ⟨U, uo, none⟩))) (hwd : w.cell? ⟨U, uo + 7, none⟩ = some (.bool true))
    (hdp : c.dp = .pointer (some ⟨D, 0, none⟩)) (hD7 : w.cell? ⟨D, 7, none⟩ = some (.slice sa sn sc)) (hD14 : w.cell? ⟨D, 14, none⟩ = some (.bool c.big)) (hstr : Rd KS w (.slice sa sn sc) str) (hKS : ∀ k, KS k → k < w.heap.size ∧ k ≠ B) (hDB : ¬ D = B) (hpB : ¬ pb = B) (hUB : ¬ U = B)
    (hlen : str.length < 4294967296) (hdr : str.drop n = d ++ 0 :: r) (hd : ∀ x ∈ d, x ≠ 0 ∧ x < 256)
    (h : Buf w B K c off (num n 8 c.big ++ l)) (hn : n < 4294967296) : SwC 14 B pb K c (off + 8) l (ifv 6 0 d) w (fun _ => True) := by
  have e : ifv 6 0 d = .iface 9 (.string (strB d)) := by unfold ifv; rw [if_neg (by decide), if_neg (by decide)]
  rw [e]
  clear e
  obtain ⟨c0, _, c2, _⟩ := h.get
  rw [hfmt] at c2
  have hw : wrap64 (n : Int) = n := by unfold wrap64; omega
  have hw2 : IntKind.u64.wrap (n : Int) = n := by rw [IntKind.wrap_u64]; omega
  have HD := Lib.hid hd; have HDR := Lib.hid hdr; have HFM := Lib.hid hfmt; have HDP := Lib.hid hdp; have HKS := Lib.hid hKS
  clear hd hdr hfmt hdp hKS c0
  intro vs a Q hQ hst H
  unfold cSw
  conv => arg 2; whnf
  refine wp_block ?_
  refine sw_no hst (hst.get 1 148 _ rfl rfl) (by decide) (by decide) (by decide) (by decide) (by decide) ?_
  clear hst; intro a hst
  refine wp_seq ?_
  refine mu_no hst (hst.get 1 148 _ rfl rfl) (by decide) (by decide) (by decide) (by decide) (by decide) ?_
  clear hst; intro a hst
  refine mu_no hst (hst.get 1 148 _ rfl rfl) (by decide) (by decide) (by decide) (by decide) (by decide) ?_
  clear hst; intro a hst
  refine mu_no hst (hst.get 1 148 _ rfl rfl) (by decide) (by decide) (by decide) (by decide) (by decide) ?_
  clear hst; intro a hst
  refine mu_no hst (hst.get 1 148 _ rfl rfl) (by decide) (by decide) (by decide) (by decide) (by decide) ?_
  clear hst; intro a hst
  refine sw_test hst (hst.get 1 148 _ rfl rfl) (by decide) (by decide) (by decide) (by decide) false (by decide) ?_
  clear hst; intro a hst hv
  refine wp_cond_false (eval_tmp hv) ?_
  clear hv
  refine sw_no hst (hst.get 1 148 _ rfl rfl) (by decide) (by decide) (by decide) (by decide) (by decide) ?_
  clear hst; intro a hst
  refine sw_no hst (hst.get 1 148 _ rfl rfl) (by decide) (by decide) (by decide) (by decide) (by decide) ?_
  clear hst; intro a hst
  refine sw_no hst (hst.get 1 148 _ rfl rfl) (by decide) (by decide) (by decide) (by decide) (by decide) ?_
  clear hst; intro a hst
  refine sw_no hst (hst.get 1 148 _ rfl rfl) (by decide) (by decide) (by decide) (by decide) (by decide) ?_
  clear hst; intro a hst
  refine sw_no hst (hst.get 1 148 _ rfl rfl) (by decide) (by decide) (by decide) (by decide) (by decide) ?_
  clear hst; intro a hst
  refine sw_no hst (hst.get 1 148 _ rfl rfl) (by decide) (by decide) (by decide) (by decide) (by decide) ?_
  clear hst; intro a hst
  refine sw_no hst (hst.get 1 148 _ rfl rfl) (by decide) (by decide) (by decide) (by decide) (by decide) ?_
  clear hst; intro a hst
  refine sw_no hst (hst.get 1 148 _ rfl rfl) (by decide) (by decide) (by decide) (by decide) (by decide) ?_
  clear hst; intro a hst
  refine sw_no hst (hst.get 1 148 _ rfl rfl) (by decide) (by decide) (by decide) (by decide) (by decide) ?_
  clear hst; intro a hst
  refine sw_no hst (hst.get 1 148 _ rfl rfl) (by decide) (by decide) (by decide) (by decide) (by decide) ?_
  clear hst; intro a hst
  refine sw_no hst (hst.get 1 148 _ rfl rfl) (by decide) (by decide) (by decide) (by decide) (by decide) ?_
  clear hst; intro a hst
  refine sw_no hst (hst.get 1 148 _ rfl rfl) (by decide) (by decide) (by decide) (by decide) (by decide) ?_
  clear hst; intro a hst
  refine sw_no hst (hst.get 1 148 _ rfl rfl) (by decide) (by decide) (by decide) (by decide) (by decide) ?_
  clear hst; intro a hst
  refine sw_no hst (hst.get 1 148 _ rfl rfl) (by decide) (by decide) (by decide) (by decide) (by decide) ?_
  clear hst; intro a hst
  refine sw_no hst (hst.get 1 148 _ rfl rfl) (by decide) (by decide) (by decide) (by decide) (by decide) ?_
  clear hst; intro a hst
  refine sw_no hst (hst.get 1 148 _ rfl rfl) (by decide) (by decide) (by decide) (by decide) (by decide) ?_
  clear hst; intro a hst
  refine sw_no hst (hst.get 1 148 _ rfl rfl) (by decide) (by decide) (by decide) (by decide) (by decide) ?_
  clear hst; intro a hst
  refine sw_no hst (hst.get 1 148 _ rfl rfl) (by decide) (by decide) (by decide) (by decide) (by decide) ?_
  clear hst; intro a hst
  refine sw_no hst (hst.get 1 148 _ rfl rfl) (by decide) (by decide) (by decide) (by decide) (by decide) ?_
  clear hst; intro a hst
  refine sw_no hst (hst.get 1 148 _ rfl rfl) (by decide) (by decide) (by decide) (by decide) (by decide) ?_
  clear hst; intro a hst
  refine sw_no hst (hst.get 1 148 _ rfl rfl) (by decide) (by decide) (by decide) (by decide) (by decide) ?_
  clear hst; intro a hst
  refine wp_seq ?_
  refine mu_yes hst (hst.get 1 148 _ rfl rfl) (by decide) (by decide) (by decide) (by decide) (by decide) ?_
  clear hst; intro a hst hv
  refine wp_cond_true (eval_tmp hv) ?_
  clear hv
  have h3 := hst.get 0 3 _ rfl rfl
  have h18 := hst.get 2 18 _ rfl rfl
  have hz := hst.size
  have g26 : 26 < a.tmps.size := by rw [hz]; decide
  have g27 : 27 < a.tmps.size := by rw [hz]; decide
  have g28 : 28 < a.tmps.size := by rw [hz]; decide
  have g29 : 29 < a.tmps.size := by rw [hz]; decide
  have g410 : 410 < a.tmps.size := by rw [hz]; decide
  have g411 : 411 < a.tmps.size := by rw [hz]; decide
  have g412 : 412 < a.tmps.size := by rw [hz]; decide
  have g413 : 413 < a.tmps.size := by rw [hz]; decide
  have g414 : 414 < a.tmps.size := by rw [hz]; decide
  have g415 : 415 < a.tmps.size := by rw [hz]; decide
  have g416 : 416 < a.tmps.size := by rw [hz]; decide
  have g417 : 417 < a.tmps.size := by rw [hz]; decide
  have g418 : 418 < a.tmps.size := by rw [hz]; decide
  have g419 : 419 < a.tmps.size := by rw [hz]; decide
  have g422 : 422 < a.tmps.size := by rw [hz]; decide
  have g423 : 423 < a.tmps.size := by rw [hz]; decide
  have g424 : 424 < a.tmps.size := by rw [hz]; decide
  have g425 : 425 < a.tmps.size := by rw [hz]; decide
  have g426 : 426 < a.tmps.size := by rw [hz]; decide
  have g427 : 427 < a.tmps.size := by rw [hz]; decide
  have g428 : 428 < a.tmps.size := by rw [hz]; decide
  have g429 : 429 < a.tmps.size := by rw [hz]; decide
  have g430 : 430 < a.tmps.size := by rw [hz]; decide
  have g431 : 431 < a.tmps.size := by rw [hz]; decide
  have g432 : 432 < a.tmps.size := by rw [hz]; decide
  have g435 : 435 < a.tmps.size := by rw [hz]; decide
  have g436 : 436 < a.tmps.size := by rw [hz]; decide
  have g437 : 437 < a.tmps.size := by rw [hz]; decide
  have g438 : 438 < a.tmps.size := by rw [hz]; decide
  have g439 : 439 < a.tmps.size := by rw [hz]; decide
  have g440 : 440 < a.tmps.size := by rw [hz]; decide
  have g441 : 441 < a.tmps.size := by rw [hz]; decide
  have g442 : 442 < a.tmps.size := by rw [hz]; decide
  have g443 : 443 < a.tmps.size := by rw [hz]; decide
  have g444 : 444 < a.tmps.size := by rw [hz]; decide
  have g445 : 445 < a.tmps.size := by rw [hz]; decide
  have g446 : 446 < a.tmps.size := by rw [hz]; decide
  have g447 : 447 < a.tmps.size := by rw [hz]; decide
  have g448 : 448 < a.tmps.size := by rw [hz]; decide
  have g449 : 449 < a.tmps.size := by rw [hz]; decide
  have g450 : 450 < a.tmps.size := by rw [hz]; decide
  have g451 : 451 < a.tmps.size := by rw [hz]; decide
  have g452 : 452 < a.tmps.size := by rw [hz]; decide
  have g453 : 453 < a.tmps.size := by rw [hz]; decide
  have g454 : 454 < a.tmps.size := by rw [hz]; decide
  have g455 : 455 < a.tmps.size := by rw [hz]; decide
  have g456 : 456 < a.tmps.size := by rw [hz]; decide
  have g457 : 457 < a.tmps.size := by rw [hz]; decide
  have g458 : 458 < a.tmps.size := by rw [hz]; decide
  have g459 : 459 < a.tmps.size := by rw [hz]; decide
  have g485 : 485 < a.tmps.size := by rw [hz]; decide
  have g486 : 486 < a.tmps.size := by rw [hz]; decide
  have g487 : 487 < a.tmps.size := by rw [hz]; decide
  have g488 : 488 < a.tmps.size := by rw [hz]; decide
  have g489 : 489 < a.tmps.size := by rw [hz]; decide
  have g490 : 490 < a.tmps.size := by rw [hz]; decide
  have g491 : 491 < a.tmps.size := by rw [hz]; decide
  have g492 : 492 < a.tmps.size := by rw [hz]; decide
  have g19 : 19 < a.tmps.size := by rw [hz]; decide
  have HST := Lib.hid hst; clear hst hz
  go_wp2_with fail
  rw [meth_dwarf64]
  go_wp2_with fail
  (with_reducible refine (dwarf64_any U uo _ _ hwd).mono ?_)
  rintro e w' ⟨rfl, rfl⟩
  go_upto_if 419 with fail
  refine wp_cond_false (eval_tmp (by simp [g419])) ?_
  go_upto_if 422 with fail
  refine wp_cond_true (eval_tmp (by simp [g422])) ?_
  go_wp2_with fail
  (with_reducible refine (uint64_any B K c off n l w h (by omega)).mono ?_)
  rintro e w1 ⟨rfl, hb, hf⟩
  obtain ⟨c0, _, c2', _, c6, _⟩ := hb.get
  rw [HFM.out] at c2'
  rw [HDP.out] at c0
  replace hp := hf.cell hp hpB
  replace hD7 := hf.cell hD7 hDB
  replace hD14 := hf.cell hD14 hDB
  clear c2 hwd
  have hs1 := hf.size
  have HB := Lib.hid hb; have HF := Lib.hid hf
  have HSTR := Lib.hid (hstr.keep (hf.same fun k hk => HKS.out k hk))
  clear hb hf hstr
  go_upto_if 432 with fail
  refine wp_cond_false (eval_tmp (by simp [g432])) ?_
  go_upto_if 439 with fail
  refine wp_cond_false (eval_tmp (by simp [g439])) ?_
  go_upto_if 441 with fail
  refine wp_cond_true (eval_tmp (by simp [g441])) ?_
  refine wp_abs (R := St 677 (29 :: 26 :: K47) (.pointer (some ⟨w1.heap.size, 0, none⟩) :: .int .u64 (n : Int) :: .pointer (some ⟨pb, 0, none⟩) :: .int .u32 ((14 : Nat) : Int) :: .int .u32 ((14 : Nat) : Int) :: vs)) ?_ ?_
  · exact ((((((((((((((((((((((((((((((((HST.out.mk').setV 26 _ (by decide)).setV 411 _ (by decide)).setV 412 _ (by decide)).setV 413 _ (by decide)).setV 414 _ (by decide)).setV 415 _ (by decide)).setV 410 _ (by decide)).setV 416 _ (by decide)).setV 417 _ (by decide)).setV 27 _ (by decide)).setV 28 _ (by decide)).setV 418 _ (by decide)).setV 419 _ (by decide)).setV 422 _ (by decide)).setV 423 _ (by decide)).setV 424 _ (by decide)).setV 26 _ (by decide)).setV 428 _ (by decide)).setV 429 _ (by decide)).setV 430 _ (by decide)).setV 431 _ (by decide)).setV 432 _ (by decide)).setV 435 _ (by decide)).setV 436 _ (by decide)).setV 437 _ (by decide)).setV 438 _ (by decide)).setV 439 _ (by decide)).setV 29 _ (by decide)).setV 440 _ (by decide)).setV 441 _ (by decide)).more (t := 26) (v := .int .u64 (n : Int)) (by simp [g411, g412, g413, g414, g415, g410, g416, g417, g27, g28, g418, g419, g422, g423, g424, g26, g428, g429, g430, g431, g432, g435, g436, g437, g438, g439, g29, g440, g441, g26])).more (t := 29) (v := .pointer (some ⟨w1.heap.size, 0, none⟩)) (by simp [g411, g412, g413, g414, g415, g410, g416, g417, g27, g28, g418, g419, g422, g423, g424, g26, g428, g429, g430, g431, g432, g435, g436, g437, g438, g439, g29, g440, g441, g26])
  clear HST g26 g27 g28 g29 g410 g411 g412 g413 g414 g415 g416 g417 g418 g419 g422 g423 g424 g425 g426 g427 g428 g429 g430 g431 g432 g435 g436 g437 g438 g439 g440 g441 g442 g443 g444 g445 g446 g447 g448 g449 g450 g451 g452 g453 g454 g455 g456 g457 g458 g459 g485 g486 g487 g488 g489 g490 g491 g492 g19
  intro a hst
  have h3 := hst.get 2 3 _ rfl rfl
  have h26 := hst.get 1 26 _ rfl rfl
  have h29 := hst.get 0 29 _ rfl rfl
  have hz := hst.size
  have g442 : 442 < a.tmps.size := by rw [hz]; decide
  have g443 : 443 < a.tmps.size := by rw [hz]; decide
  have g444 : 444 < a.tmps.size := by rw [hz]; decide
  have g445 : 445 < a.tmps.size := by rw [hz]; decide
  have g446 : 446 < a.tmps.size := by rw [hz]; decide
  have g447 : 447 < a.tmps.size := by rw [hz]; decide
  have g448 : 448 < a.tmps.size := by rw [hz]; decide
  have g449 : 449 < a.tmps.size := by rw [hz]; decide
  have g450 : 450 < a.tmps.size := by rw [hz]; decide
  have g451 : 451 < a.tmps.size := by rw [hz]; decide
  have g452 : 452 < a.tmps.size := by rw [hz]; decide
  have g453 : 453 < a.tmps.size := by rw [hz]; decide
  have g454 : 454 < a.tmps.size := by rw [hz]; decide
  have g455 : 455 < a.tmps.size := by rw [hz]; decide
  have g456 : 456 < a.tmps.size := by rw [hz]; decide
  have g457 : 457 < a.tmps.size := by rw [hz]; decide
  have g485 : 485 < a.tmps.size := by rw [hz]; decide
  have g486 : 486 < a.tmps.size := by rw [hz]; decide
  have g487 : 487 < a.tmps.size := by rw [hz]; decide
  have g488 : 488 < a.tmps.size := by rw [hz]; decide
  have g489 : 489 < a.tmps.size := by rw [hz]; decide
  have g490 : 490 < a.tmps.size := by rw [hz]; decide
  have g491 : 491 < a.tmps.size := by rw [hz]; decide
  have g492 : 492 < a.tmps.size := by rw [hz]; decide
  have g19 : 19 < a.tmps.size := by rw [hz]; decide
  have HST := Lib.hid hst; clear hst hz
  generalize hX : w1.heap.size = X at *
  have hXX := heap_alloc_new w1 (.cells #[.pointer none, .bool false, .nilIface, .string ⟨#[]⟩, .int .u32 0, .slice none 0 0, .nilIface] 135)
  rw [hX] at hXX
  have hal : Frame no w1 (w1.alloc (.cells #[.pointer none, .bool false, .nilIface, .string ⟨#[]⟩, .int .u32 0, .slice none 0 0, .nilIface] 135)) := (Frame.refl _ _).alloc _
  replace hp := hal.cell hp id
  replace hD7 := hal.cell hD7 id
  replace hD14 := hal.cell hD14 id
  replace c0 := hal.cell c0 id
  replace c2' := hal.cell c2' id
  have HAL := Lib.hid hal; have HXX := Lib.hid hXX; have HX := Lib.hid hX; clear hal hXX hX c6
  generalize hw2 : (w1.alloc (.cells #[.pointer none, .bool false, .nilIface, .string ⟨#[]⟩, .int .u32 0, .slice none 0 0, .nilIface] 135)) = w2 at *
  clear hw2
  refine wp_region_S no 16 [(0, true), (1, true), (2, true), (3, true), (4, true), (5, true), (6, true), (7, true), (8, true), (9, true), (10, true), (11, true), (12, true), (13, true), (14, true), (15, false), (16, false)] (by kernel_rfl) (by kernel_rfl) (fun c a w d v h => hQ c a w d v h) ?_
  simp only [pickB, List.getElem?_toArray, List.getElem?_cons_zero, List.getElem?_cons_succ, Option.getD_some, Bool.false_eq_true, ↓reduceIte, Nat.reduceLT]
  iterate 15
    refine seqS_val (v := ?_) (fun w' hX => ?_) ?_
    rotate_left
    · have x0 := hX.cell hp id; have x1 := hX.cell c0 id; have x2 := hX.cell c2' id; have x3 := hX.cell hD7 id; clear hX; go_simp; try with_reducible rfl
    try simp only [Act.put, List.setIfInBounds_toArray, List.set_cons_zero, List.set_cons_succ]
  refine seqS_new (fun KK hK => ?_)
  go_wp2_with fail
  have hD14d : w2.drew.cell? ⟨D, 14, none⟩ = some (.bool c.big) := hD14
  (with_reducible refine (makeBuf_any D 138 (.pointer (some ⟨U, uo, none⟩)) _ 0 sa sn sc c.big _ hD14d).mono ?_)
  rintro e w3 ⟨rfl, hf3⟩
  have hX3 := (hf3.block X (Array.getElem?_eq_some_iff.1 HXX.out).1 id).trans HXX.out
  have y0 := cell_of_row _ X 0 _ _ _ hX3
  have y1 := cell_of_row _ X 1 _ _ _ hX3
  have y2 := cell_of_row _ X 2 _ _ _ hX3
  have y3 := cell_of_row _ X 3 _ _ _ hX3
  have y4 := cell_of_row _ X 4 _ _ _ hX3
  have y5 := cell_of_row _ X 5 _ _ _ hX3
  have y6 := cell_of_row _ X 6 _ _ _ hX3
  simp only [List.getElem?_toArray, List.getElem?_cons_zero, List.getElem?_cons_succ] at y0 y1 y2 y3 y4 y5 y6
  have hfz : ∀ i, w3.frozen? ⟨X, i, none⟩ = false := fun i => by simp [World.frozen?, hX3]
  have z0 := hfz 0; have z1 := hfz 1; have z2 := hfz 2; have z3 := hfz 3; have z4 := hfz 4; have z5 := hfz 5; have z6 := hfz 6
  have HX3 := Lib.hid hX3; have HF3 := Lib.hid hf3
  clear hX3 hfz
  refine hK _ _ (And.intro hf3 ?_)
  clear hf3 hK
  refine seqS_out (fun KK hK => ?_)
  go_simp
  refine hK _ _ ?_
  clear hK
  refine seqS_nil ?_
  obtain ⟨hX4, hf4⟩ := set7 HX3.out (.pointer (some ⟨D, 0, none⟩)) (.bool c.big) (.iface 138 (.pointer (some ⟨U, uo, none⟩))) (.string ⟨#[115, 116, 114]⟩) (.int .u32 0) (.slice sa sn sc) .nilIface
  have hF14 : Frame no w1 w3 := (HAL.out.drew.trans HF3.out (fun _ h => h.elim))
  have hx := HX.out
  have hKX : ∀ k, KS k → k < w1.heap.size := fun k hk => by rw [hx]; exact Nat.lt_of_lt_of_le (HKS.out k hk).1 hs1
  have hbX : Buf (((((((w3.setCell ⟨X, 0, none⟩ (.pointer (some ⟨D, 0, none⟩))).setCell ⟨X, 1, none⟩ (.bool c.big)).setCell ⟨X, 2, none⟩ (.iface 138 (.pointer (some ⟨U, uo, none⟩)))).setCell ⟨X, 3, none⟩ (.string ⟨#[115, 116, 114]⟩)).setCell ⟨X, 4, none⟩ (.int .u32 0)).setCell ⟨X, 5, none⟩ (.slice sa sn sc)).setCell ⟨X, 6, none⟩ .nilIface) X KS
      { dp := .pointer (some ⟨D, 0, none⟩), big := c.big, fmt := .iface 138 (.pointer (some ⟨U, uo, none⟩)), nm := .string ⟨#[115, 116, 114]⟩, rest := [], ty := 135 } 0 (str.take n ++ (d ++ 0 :: r)) := by
    rw [← HDR.out, List.take_append_drop]
    exact ⟨⟨sa, sn, sc, hX4, (HSTR.out.keep (hF14.same fun k hk => ⟨hKX k hk, id⟩)).keep (hf4.same fun k hk => ⟨Nat.lt_of_lt_of_le (hKX k hk) hF14.size, fun e => by have := hKX k hk; have e' : k = X := e; omega⟩)⟩,
      fun k hk => ⟨Nat.lt_of_lt_of_le (hKX k hk) (Nat.le_trans hF14.size hf4.size), fun e => by have := hKX k hk; omega⟩, by omega⟩
  have hnl : (str.take n).length = n := by
    have := congrArg List.length HDR.out
    rw [List.length_drop, List.length_append, List.length_cons] at this
    rw [List.length_take]; omega
  have HB4 := Lib.hid (HB.out.keep hF14 id fun k hk => ⟨(HB.out.apart k hk).1, id⟩)
  have hBX : ¬ B = X := fun e => by have := HB.out.lt_size; omega
  have hKXl : ∀ k, K k → k < w3.heap.size ∧ ¬ k = X := fun k hk => ⟨(HB4.out.apart k hk).1, fun e => by have := (HB.out.apart k hk).1; omega⟩
  have HB5 := Lib.hid (HB4.out.keep hf4 hBX hKXl)
  have hF15 : Frame (fun k => k = B) w (((((((w3.setCell ⟨X, 0, none⟩ (.pointer (some ⟨D, 0, none⟩))).setCell ⟨X, 1, none⟩ (.bool c.big)).setCell ⟨X, 2, none⟩ (.iface 138 (.pointer (some ⟨U, uo, none⟩)))).setCell ⟨X, 3, none⟩ (.string ⟨#[115, 116, 114]⟩)).setCell ⟨X, 4, none⟩ (.int .u32 0)).setCell ⟨X, 5, none⟩ (.slice sa sn sc)).setCell ⟨X, 6, none⟩ .nilIface) :=
    (HF.out.trans hF14 fun _ h => h.elim).trans hf4 fun k hk => .inr (by have e' : k = X := hk; omega)
  have HBX := Lib.hid hbX; have HNL := Lib.hid hnl; have HF15 := Lib.hid hF15; have HKXL := Lib.hid hKXl
  clear hbX hnl hF15 hKXl hKX hX4 hf4 hF14 y0 y1 y2 y3 y4 y5 y6 z0 z1 z2 z3 z4 z5 z6 hp hD7 hD14 hD14d c0 c2'
  generalize (((((((w3.setCell ⟨X, 0, none⟩ (.pointer (some ⟨D, 0, none⟩))).setCell ⟨X, 1, none⟩ (.bool c.big)).setCell ⟨X, 2, none⟩ (.iface 138 (.pointer (some ⟨U, uo, none⟩)))).setCell ⟨X, 3, none⟩ (.string ⟨#[115, 116, 114]⟩)).setCell ⟨X, 4, none⟩ (.int .u32 0)).setCell ⟨X, 5, none⟩ (.slice sa sn sc)).setCell ⟨X, 6, none⟩ .nilIface) = w4 at *
  go_wp2_with fail
  (with_reducible refine (skip_any X KS _ 0 n (str.take n) _ w4 HBX.out HNL.out).mono ?_)
  rintro e w5 ⟨rfl, hb5, hf5⟩
  have HBX5 := Lib.hid hb5; have HF5 := Lib.hid hf5; clear hb5 hf5
  go_wp2_with fail
  (with_reducible refine (string_any X KS _ (0 + n) d r w5 HBX5.out HD.out).mono ?_)
  rintro e w6 ⟨rfl, hb6, hf6⟩
  obtain ⟨_, _, _, _, c6, _⟩ := hb6.get
  have HBX6 := Lib.hid hb6; have HF6 := Lib.hid hf6; clear hb6 hf6
  go_upto_if 492 with fail
  refine wp_cond_false (eval_tmp (by simp [g492])) ?_
  go_wp2_with fail
  have hFX := HF5.out.trans' HF6.out
  have hxw := HF.out.size
  have hx := HX.out
  exact H _ _ ((((((((((((((((((((((((((HST.out.tail.tail.mk').setV 442 _ (by decide)).setV 443 _ (by decide)).setV 444 _ (by decide)).setV 445 _ (by decide)).setV 446 _ (by decide)).setV 447 _ (by decide)).setV 448 _ (by decide)).setV 449 _ (by decide)).setV 450 _ (by decide)).setV 451 _ (by decide)).setV 452 _ (by decide)).setV 453 _ (by decide)).setV 454 _ (by decide)).setV 455 _ (by decide)).setV 456 _ (by decide)).setV 457 _ (by decide)).setV 485 _ (by decide)).setV 486 _ (by decide)).setV 487 _ (by decide)).setV 488 _ (by decide)).setV 489 _ (by decide)).setV 19 _ (by decide)).setV 490 _ (by decide)).setV 491 _ (by decide)).setV 492 _ (by decide)) (by simp [g19]) (HB5.out.keep hFX hBX fun k hk => ⟨(HB5.out.apart k hk).1, (HKXL.out k hk).2⟩) (HF15.out.trans hFX fun k hk => .inr (by have e' : k = X := hk; omega)) trivial

theorem sw_14 (B pb U uo D n : Nat) (wide : Bool) (K KS : Bs) (c : BufK) (off : Nat) (l d r str : List Nat) (sa : Option Addr) (sn sc : Nat) (w : World)
    (hp : w.cell? ⟨pb, 0, none⟩ = some (.pointer (some ⟨B, 0, none⟩))) (hfmt : c.fmt = .iface 138 (.pointer (some ⟨U, uo, none⟩))) (hwd : w.cell? ⟨U, uo + 7, none⟩ = some (.bool wide))
    (hdp : c.dp = .pointer (some ⟨D, 0, none⟩)) (hD7 : w.cell? ⟨D, 7, none⟩ = some (.slice sa sn sc)) (hD14 : w.cell? ⟨D, 14, none⟩ = some (.bool c.big)) (hstr : Rd KS w (.slice sa sn sc) str) (hKS : ∀ k, KS k → k < w.heap.size ∧ k ≠ B) (hDB : ¬ D = B) (hpB : ¬ pb = B) (hUB : ¬ U = B)
    (hlen : str.length < 4294967296) (hdr : str.drop n = d ++ 0 :: r) (hd : ∀ x ∈ d, x ≠ 0 ∧ x < 256)
    (h : Buf w B K c off (num n (wordF wide) c.big ++ l)) (hn : n < 4294967296) : SwC 14 B pb K c (off + wordF wide) l (ifv 6 0 d) w (fun _ => True) := by
  cases wide
  · exact sw_14n B pb U uo D n K KS c off l d r str sa sn sc w hp hfmt hwd hdp hD7 hD14 hstr hKS hDB hpB hUB hlen hdr hd h hn
  · exact sw_14w B pb U uo D n K KS c off l d r str sa sn sc w hp hfmt hwd hdp hD7 hD14 hstr hKS hDB hpB hUB hlen hdr hd h hn

end Go.Proofs.YtklcoppfkfenfaaGreatDoor
