/-
  The reader's switch over the forms of values: numbers and texts in place.
-/
import Derived.Test.YtklcoppfkfenfaaGreatDoorFP28
set_option linter.all false
set_option linter.unusedVariables false
set_option linter.unusedSimpArgs false
namespace Go.Proofs.YtklcoppfkfenfaaGreatDoor
set_option maxRecDepth 1000000
open Go Go.RowKit

theorem sgn_small (n : Nat) (h : n < 9223372036854775808) : sgn n = (n : Int) := by unfold sgn; rw [if_pos h]
theorem sgn_wrapR (n : Nat) (h : n < 18446744073709551616) : wrap64 (n : Int) = sgn n := by unfold sgn wrap64; split <;> omega

set_option maxHeartbeats 1000000 in
theorem sw_1 (B pb : Nat) (U uo ad n : Nat) (K : Bs) (c : BufK) (off : Nat) (l : List Nat) (w : World)
    (hp : w.cell? ⟨pb, 0, none⟩ = some (.pointer (some ⟨B, 0, none⟩))) (hfmt : c.fmt = .iface 138 (.pointer (some ⟨U, uo, none⟩))) (hsz : w.cell? ⟨U, uo + 5, none⟩ = some (.int .i64 (ad : Int))) (had : ad = 4 ∨ ad = 8) (h : Buf w B K c off (num n ad c.big ++ l)) (hn : n < 2 ^ (8 * ad)) :
    SwC 1 B pb K c (off + ad) l (ifv 2 n []) w (fun _ => True) := by
  have e : ifv 2 n [] = .iface 29 (.int .u64 (n : Int)) := by unfold ifv; rw [if_neg (by decide), if_pos rfl]
  rw [e]
  clear e
  intro vs a Q hQ hst H
  unfold cSw
  conv => arg 2; whnf
  refine wp_block ?_
  refine sw_yes hst (hst.get 1 148 _ rfl rfl) (by decide) (by decide) (by decide) (by decide) (by decide) ?_
  clear hst; intro a hst
  have h3 := hst.get 0 3 _ rfl rfl
  have hz := hst.size
  have g19 : 19 < a.tmps.size := by rw [hz]; decide
  have g157 : 157 < a.tmps.size := by rw [hz]; decide
  have g158 : 158 < a.tmps.size := by rw [hz]; decide
  have g159 : 159 < a.tmps.size := by rw [hz]; decide
  have HST := Lib.hid hst; clear hst hz
  go_wp2_with fail
  (with_reducible refine (addr_any B U uo K c off n ad l w hfmt hsz had h hn).mono ?_)
  rintro e w1 ⟨rfl, hb, hf⟩
  go_wp2_with fail
  exact H _ _ (((((HST.out.mk').setV 157 _ (by decide)).setV 158 _ (by decide)).setV 159 _ (by decide)).setV 19 _ (by decide)) (by simp [g19]) hb hf trivial

set_option maxHeartbeats 1000000 in
theorem sw_5 (B pb : Nat) (n : Nat) (K : Bs) (c : BufK) (off : Nat) (l : List Nat) (w : World)
    (hp : w.cell? ⟨pb, 0, none⟩ = some (.pointer (some ⟨B, 0, none⟩))) (h : Buf w B K c off (num n 2 c.big ++ l)) (hn : n < 65536) :
    SwC 5 B pb K c (off + 2) l (ifv 1 n []) w (fun _ => True) := by
  have e : ifv 1 n [] = .iface 2 (.int .i64 (n : Int)) := by unfold ifv; rw [if_pos rfl, sgn_small n (by omega)]
  rw [e]
  clear e
  intro vs a Q hQ hst H
  unfold cSw
  conv => arg 2; whnf
  refine wp_block ?_
  refine sw_no hst (hst.get 1 148 _ rfl rfl) (by decide) (by decide) (by decide) (by decide) (by decide) ?_
  clear hst; intro a hst
  refine wp_seq ?_
  refine mu_no hst (hst.get 1 148 _ rfl rfl) (by decide) (by decide) (by decide) (by decide) (by decide) ?_
  clear hst; intro a hst
  refine mu_no hst (hst.get 1 148 _ rfl rfl) (by decide) (by decide) (by decide) (by decide) (by decide) ?_
  clear hst; intro a hst
  refine mu_no hst (hst.get 1 148 _ rfl rfl) (by decide) (by decide) (by decide) (by decide) (by decide) ?_
  clear hst; intro a hst
  refine mu_no hst (hst.get 1 148 _ rfl rfl) (by decide) (by decide) (by decide) (by decide) (by decide) ?_
  clear hst; intro a hst
  refine sw_test hst (hst.get 1 148 _ rfl rfl) (by decide) (by decide) (by decide) (by decide) false (by decide) ?_
  clear hst; intro a hst hv
  refine wp_cond_false (eval_tmp hv) ?_
  clear hv
  refine sw_no hst (hst.get 1 148 _ rfl rfl) (by decide) (by decide) (by decide) (by decide) (by decide) ?_
  clear hst; intro a hst
  refine sw_no hst (hst.get 1 148 _ rfl rfl) (by decide) (by decide) (by decide) (by decide) (by decide) ?_
  clear hst; intro a hst
  refine sw_no hst (hst.get 1 148 _ rfl rfl) (by decide) (by decide) (by decide) (by decide) (by decide) ?_
  clear hst; intro a hst
  refine sw_no hst (hst.get 1 148 _ rfl rfl) (by decide) (by decide) (by decide) (by decide) (by decide) ?_
  clear hst; intro a hst
  refine sw_no hst (hst.get 1 148 _ rfl rfl) (by decide) (by decide) (by decide) (by decide) (by decide) ?_
  clear hst; intro a hst
  refine sw_yes hst (hst.get 1 148 _ rfl rfl) (by decide) (by decide) (by decide) (by decide) (by decide) ?_
  clear hst; intro a hst
  have h3 := hst.get 0 3 _ rfl rfl
  have hz := hst.size
  have g19 : 19 < a.tmps.size := by rw [hz]; decide
  have g276 : 276 < a.tmps.size := by rw [hz]; decide
  have g277 : 277 < a.tmps.size := by rw [hz]; decide
  have g278 : 278 < a.tmps.size := by rw [hz]; decide
  have g279 : 279 < a.tmps.size := by rw [hz]; decide
  have HST := Lib.hid hst; clear hst hz
  go_wp2_with fail
  (with_reducible refine (uint16_any B K c off n l w h hn).mono ?_)
  rintro e w1 ⟨rfl, hb, hf⟩
  go_wp2_with fail
  exact H _ _ ((((((HST.out.mk').setV 276 _ (by decide)).setV 277 _ (by decide)).setV 278 _ (by decide)).setV 279 _ (by decide)).setV 19 _ (by decide)) (by simp [g19]) hb hf trivial

set_option maxHeartbeats 1000000 in
theorem sw_6 (B pb : Nat) (n : Nat) (K : Bs) (c : BufK) (off : Nat) (l : List Nat) (w : World)
    (hp : w.cell? ⟨pb, 0, none⟩ = some (.pointer (some ⟨B, 0, none⟩))) (h : Buf w B K c off (num n 4 c.big ++ l)) (hn : n < 4294967296) :
    SwC 6 B pb K c (off + 4) l (ifv 1 n []) w (fun _ => True) := by
  have e : ifv 1 n [] = .iface 2 (.int .i64 (n : Int)) := by unfold ifv; rw [if_pos rfl, sgn_small n (by omega)]
  rw [e]
  clear e
  intro vs a Q hQ hst H
  unfold cSw
  conv => arg 2; whnf
  refine wp_block ?_
  refine sw_no hst (hst.get 1 148 _ rfl rfl) (by decide) (by decide) (by decide) (by decide) (by decide) ?_
  clear hst; intro a hst
  refine wp_seq ?_
  refine mu_no hst (hst.get 1 148 _ rfl rfl) (by decide) (by decide) (by decide) (by decide) (by decide) ?_
  clear hst; intro a hst
  refine mu_no hst (hst.get 1 148 _ rfl rfl) (by decide) (by decide) (by decide) (by decide) (by decide) ?_
  clear hst; intro a hst
  refine mu_no hst (hst.get 1 148 _ rfl rfl) (by decide) (by decide) (by decide) (by decide) (by decide) ?_
  clear hst; intro a hst
  refine mu_no hst (hst.get 1 148 _ rfl rfl) (by decide) (by decide) (by decide) (by decide) (by decide) ?_
  clear hst; intro a hst
  refine sw_test hst (hst.get 1 148 _ rfl rfl) (by decide) (by decide) (by decide) (by decide) false (by decide) ?_
  clear hst; intro a hst hv
  refine wp_cond_false (eval_tmp hv) ?_
  clear hv
  refine sw_no hst (hst.get 1 148 _ rfl rfl) (by decide) (by decide) (by decide) (by decide) (by decide) ?_
  clear hst; intro a hst
  refine sw_no hst (hst.get 1 148 _ rfl rfl) (by decide) (by decide) (by decide) (by decide) (by decide) ?_
  clear hst; intro a hst
  refine sw_no hst (hst.get 1 148 _ rfl rfl) (by decide) (by decide) (by decide) (by decide) (by decide) ?_
  clear hst; intro a hst
  refine sw_no hst (hst.get 1 148 _ rfl rfl) (by decide) (by decide) (by decide) (by decide) (by decide) ?_
  clear hst; intro a hst
  refine sw_no hst (hst.get 1 148 _ rfl rfl) (by decide) (by decide) (by decide) (by decide) (by decide) ?_
  clear hst; intro a hst
  refine sw_no hst (hst.get 1 148 _ rfl rfl) (by decide) (by decide) (by decide) (by decide) (by decide) ?_
  clear hst; intro a hst
  refine sw_yes hst (hst.get 1 148 _ rfl rfl) (by decide) (by decide) (by decide) (by decide) (by decide) ?_
  clear hst; intro a hst
  have h3 := hst.get 0 3 _ rfl rfl
  have hz := hst.size
  have g19 : 19 < a.tmps.size := by rw [hz]; decide
  have g282 : 282 < a.tmps.size := by rw [hz]; decide
  have g283 : 283 < a.tmps.size := by rw [hz]; decide
  have g284 : 284 < a.tmps.size := by rw [hz]; decide
  have g285 : 285 < a.tmps.size := by rw [hz]; decide
  have HST := Lib.hid hst; clear hst hz
  go_wp2_with fail
  (with_reducible refine (uint32_any B K c off n l w h hn).mono ?_)
  rintro e w1 ⟨rfl, hb, hf⟩
  go_wp2_with fail
  exact H _ _ ((((((HST.out.mk').setV 282 _ (by decide)).setV 283 _ (by decide)).setV 284 _ (by decide)).setV 285 _ (by decide)).setV 19 _ (by decide)) (by simp [g19]) hb hf trivial

set_option maxHeartbeats 1000000 in
theorem sw_11 (B pb : Nat) (n : Nat) (K : Bs) (c : BufK) (off : Nat) (l : List Nat) (w : World)
    (hp : w.cell? ⟨pb, 0, none⟩ = some (.pointer (some ⟨B, 0, none⟩))) (h : Buf w B K c off (num n 1 c.big ++ l)) (hn : n < 256) :
    SwC 11 B pb K c (off + 1) l (ifv 1 n []) w (fun _ => True) := by
  have e : ifv 1 n [] = .iface 2 (.int .i64 (n : Int)) := by unfold ifv; rw [if_pos rfl, sgn_small n (by omega)]
  rw [e]
  clear e
  have e2 : num n 1 c.big = [n] := by
    have : byteAt n 0 = n := by obtain ⟨h0, _⟩ := byteAt_vals n; omega
    cases c.big <;> exact congrArg (fun x => [x]) this
  rw [e2] at h
  replace h : Buf w B K c off (n :: l) := h
  clear e2
  intro vs a Q hQ hst H
  unfold cSw
  conv => arg 2; whnf
  refine wp_block ?_
  refine sw_no hst (hst.get 1 148 _ rfl rfl) (by decide) (by decide) (by decide) (by decide) (by decide) ?_
  clear hst; intro a hst
  refine wp_seq ?_
  refine mu_no hst (hst.get 1 148 _ rfl rfl) (by decide) (by decide) (by decide) (by decide) (by decide) ?_
  clear hst; intro a hst
  refine mu_no hst (hst.get 1 148 _ rfl rfl) (by decide) (by decide) (by decide) (by decide) (by decide) ?_
  clear hst; intro a hst
  refine mu_no hst (hst.get 1 148 _ rfl rfl) (by decide) (by decide) (by decide) (by decide) (by decide) ?_
  clear hst; intro a hst
  refine mu_no hst (hst.get 1 148 _ rfl rfl) (by decide) (by decide) (by decide) (by decide) (by decide) ?_
  clear hst; intro a hst
  refine sw_test hst (hst.get 1 148 _ rfl rfl) (by decide) (by decide) (by decide) (by decide) false (by decide) ?_
  clear hst; intro a hst hv
  refine wp_cond_false (eval_tmp hv) ?_
  clear hv
  refine sw_no hst (hst.get 1 148 _ rfl rfl) (by decide) (by decide) (by decide) (by decide) (by decide) ?_
  clear hst; intro a hst
  refine sw_no hst (hst.get 1 148 _ rfl rfl) (by decide) (by decide) (by decide) (by decide) (by decide) ?_
  clear hst; intro a hst
  refine sw_no hst (hst.get 1 148 _ rfl rfl) (by decide) (by decide) (by decide) (by decide) (by decide) ?_
  clear hst; intro a hst
  refine sw_no hst (hst.get 1 148 _ rfl rfl) (by decide) (by decide) (by decide) (by decide) (by decide) ?_
  clear hst; intro a hst
  refine sw_yes hst (hst.get 1 148 _ rfl rfl) (by decide) (by decide) (by decide) (by decide) (by decide) ?_
  clear hst; intro a hst
  have h3 := hst.get 0 3 _ rfl rfl
  have hz := hst.size
  have g19 : 19 < a.tmps.size := by rw [hz]; decide
  have g270 : 270 < a.tmps.size := by rw [hz]; decide
  have g271 : 271 < a.tmps.size := by rw [hz]; decide
  have g272 : 272 < a.tmps.size := by rw [hz]; decide
  have g273 : 273 < a.tmps.size := by rw [hz]; decide
  have HST := Lib.hid hst; clear hst hz
  go_wp2_with fail
  (with_reducible refine (uint8_any B K c off n l w h).mono ?_)
  rintro e w1 ⟨rfl, hb, hf⟩
  go_wp2_with fail
  exact H _ _ ((((((HST.out.mk').setV 270 _ (by decide)).setV 271 _ (by decide)).setV 272 _ (by decide)).setV 273 _ (by decide)).setV 19 _ (by decide)) (by simp [g19]) hb hf trivial

set_option maxHeartbeats 1000000 in
theorem sw_7 (B pb : Nat) (n : Nat) (K : Bs) (c : BufK) (off : Nat) (l : List Nat) (w : World)
    (hp : w.cell? ⟨pb, 0, none⟩ = some (.pointer (some ⟨B, 0, none⟩))) (h : Buf w B K c off (num n 8 c.big ++ l)) (hn : n < 18446744073709551616) :
    SwC 7 B pb K c (off + 8) l (ifv 1 n []) w (fun _ => True) := by
  have e : ifv 1 n [] = .iface 2 (.int .i64 (sgn n)) := by unfold ifv; rw [if_pos rfl]
  rw [e]
  clear e
  have hw := sgn_wrapR n hn
  generalize sgn n = sn at *
  intro vs a Q hQ hst H
  unfold cSw
  conv => arg 2; whnf
  refine wp_block ?_
  refine sw_no hst (hst.get 1 148 _ rfl rfl) (by decide) (by decide) (by decide) (by decide) (by decide) ?_
  clear hst; intro a hst
  refine wp_seq ?_
  refine mu_no hst (hst.get 1 148 _ rfl rfl) (by decide) (by decide) (by decide) (by decide) (by decide) ?_
  clear hst; intro a hst
  refine mu_no hst (hst.get 1 148 _ rfl rfl) (by decide) (by decide) (by decide) (by decide) (by decide) ?_
  clear hst; intro a hst
  refine mu_no hst (hst.get 1 148 _ rfl rfl) (by decide) (by decide) (by decide) (by decide) (by decide) ?_
  clear hst; intro a hst
  refine mu_no hst (hst.get 1 148 _ rfl rfl) (by decide) (by decide) (by decide) (by decide) (by decide) ?_
  clear hst; intro a hst
  refine sw_test hst (hst.get 1 148 _ rfl rfl) (by decide) (by decide) (by decide) (by decide) false (by decide) ?_
  clear hst; intro a hst hv
  refine wp_cond_false (eval_tmp hv) ?_
  clear hv
  refine sw_no hst (hst.get 1 148 _ rfl rfl) (by decide) (by decide) (by decide) (by decide) (by decide) ?_
  clear hst; intro a hst
  refine sw_no hst (hst.get 1 148 _ rfl rfl) (by decide) (by decide) (by decide) (by decide) (by decide) ?_
  clear hst; intro a hst
  refine sw_no hst (hst.get 1 148 _ rfl rfl) (by decide) (by decide) (by decide) (by decide) (by decide) ?_
  clear hst; intro a hst
  refine sw_no hst (hst.get 1 148 _ rfl rfl) (by decide) (by decide) (by decide) (by decide) (by decide) ?_
  clear hst; intro a hst
  refine sw_no hst (hst.get 1 148 _ rfl rfl) (by decide) (by decide) (by decide) (by decide) (by decide) ?_
  clear hst; intro a hst
  refine sw_no hst (hst.get 1 148 _ rfl rfl) (by decide) (by decide) (by decide) (by decide) (by decide) ?_
  clear hst; intro a hst
  refine sw_no hst (hst.get 1 148 _ rfl rfl) (by decide) (by decide) (by decide) (by decide) (by decide) ?_
  clear hst; intro a hst
  refine sw_yes hst (hst.get 1 148 _ rfl rfl) (by decide) (by decide) (by decide) (by decide) (by decide) ?_
  clear hst; intro a hst
  have h3 := hst.get 0 3 _ rfl rfl
  have hz := hst.size
  have g19 : 19 < a.tmps.size := by rw [hz]; decide
  have g288 : 288 < a.tmps.size := by rw [hz]; decide
  have g289 : 289 < a.tmps.size := by rw [hz]; decide
  have g290 : 290 < a.tmps.size := by rw [hz]; decide
  have g291 : 291 < a.tmps.size := by rw [hz]; decide
  have HST := Lib.hid hst; clear hst hz
  go_wp2_with fail
  (with_reducible refine (uint64_any B K c off n l w h hn).mono ?_)
  rintro e w1 ⟨rfl, hb, hf⟩
  go_wp2_with fail
  exact H _ _ ((((((HST.out.mk').setV 288 _ (by decide)).setV 289 _ (by decide)).setV 290 _ (by decide)).setV 291 _ (by decide)).setV 19 _ (by decide)) (by simp [g19]) hb hf trivial

set_option maxHeartbeats 1000000 in
theorem sw_13 (B pb : Nat) (n : Nat) (K : Bs) (c : BufK) (off : Nat) (l : List Nat) (w : World)
    (hp : w.cell? ⟨pb, 0, none⟩ = some (.pointer (some ⟨B, 0, none⟩))) (h : Buf w B K c off (sleb (sgn n) ++ l)) (hn : n < 18446744073709551616) :
    SwC 13 B pb K c (off + (sleb (sgn n)).length) l (ifv 1 n []) w (fun _ => True) := by
  have e : ifv 1 n [] = .iface 2 (.int .i64 (sgn n)) := by unfold ifv; rw [if_pos rfl]
  rw [e]
  clear e
  have hs : -9223372036854775808 ≤ sgn n ∧ sgn n ≤ 9223372036854775807 := by unfold sgn; split <;> omega
  intro vs a Q hQ hst H
  unfold cSw
  conv => arg 2; whnf
  refine wp_block ?_
  refine sw_no hst (hst.get 1 148 _ rfl rfl) (by decide) (by decide) (by decide) (by decide) (by decide) ?_
  clear hst; intro a hst
  refine wp_seq ?_
  refine mu_no hst (hst.get 1 148 _ rfl rfl) (by decide) (by decide) (by decide) (by decide) (by decide) ?_
  clear hst; intro a hst
  refine mu_no hst (hst.get 1 148 _ rfl rfl) (by decide) (by decide) (by decide) (by decide) (by decide) ?_
  clear hst; intro a hst
  refine mu_no hst (hst.get 1 148 _ rfl rfl) (by decide) (by decide) (by decide) (by decide) (by decide) ?_
  clear hst; intro a hst
  refine mu_no hst (hst.get 1 148 _ rfl rfl) (by decide) (by decide) (by decide) (by decide) (by decide) ?_
  clear hst; intro a hst
  refine sw_test hst (hst.get 1 148 _ rfl rfl) (by decide) (by decide) (by decide) (by decide) false (by decide) ?_
  clear hst; intro a hst hv
  refine wp_cond_false (eval_tmp hv) ?_
  clear hv
  refine sw_no hst (hst.get 1 148 _ rfl rfl) (by decide) (by decide) (by decide) (by decide) (by decide) ?_
  clear hst; intro a hst
  refine sw_no hst (hst.get 1 148 _ rfl rfl) (by decide) (by decide) (by decide) (by decide) (by decide) ?_
  clear hst; intro a hst
  refine sw_no hst (hst.get 1 148 _ rfl rfl) (by decide) (by decide) (by decide) (by decide) (by decide) ?_
  clear hst; intro a hst
  refine sw_no hst (hst.get 1 148 _ rfl rfl) (by decide) (by decide) (by decide) (by decide) (by decide) ?_
  clear hst; intro a hst
  refine sw_no hst (hst.get 1 148 _ rfl rfl) (by decide) (by decide) (by decide) (by decide) (by decide) ?_
  clear hst; intro a hst
  refine sw_no hst (hst.get 1 148 _ rfl rfl) (by decide) (by decide) (by decide) (by decide) (by decide) ?_
  clear hst; intro a hst
  refine sw_no hst (hst.get 1 148 _ rfl rfl) (by decide) (by decide) (by decide) (by decide) (by decide) ?_
  clear hst; intro a hst
  refine sw_no hst (hst.get 1 148 _ rfl rfl) (by decide) (by decide) (by decide) (by decide) (by decide) ?_
  clear hst; intro a hst
  refine sw_no hst (hst.get 1 148 _ rfl rfl) (by decide) (by decide) (by decide) (by decide) (by decide) ?_
  clear hst; intro a hst
  refine sw_yes hst (hst.get 1 148 _ rfl rfl) (by decide) (by decide) (by decide) (by decide) (by decide) ?_
  clear hst; intro a hst
  have h3 := hst.get 0 3 _ rfl rfl
  have hz := hst.size
  have g19 : 19 < a.tmps.size := by rw [hz]; decide
  have g299 : 299 < a.tmps.size := by rw [hz]; decide
  have g300 : 300 < a.tmps.size := by rw [hz]; decide
  have g301 : 301 < a.tmps.size := by rw [hz]; decide
  have HST := Lib.hid hst; clear hst hz
  go_wp2_with fail
  (with_reducible refine (int_any B K c off (sgn n) l w h hs).mono ?_)
  rintro e w1 ⟨rfl, hb, hf⟩
  go_wp2_with fail
  exact H _ _ (((((HST.out.mk').setV 299 _ (by decide)).setV 300 _ (by decide)).setV 301 _ (by decide)).setV 19 _ (by decide)) (by simp [g19]) hb hf trivial

set_option maxHeartbeats 1000000 in
theorem sw_15 (B pb : Nat) (n : Nat) (K : Bs) (c : BufK) (off : Nat) (l : List Nat) (w : World)
    (hp : w.cell? ⟨pb, 0, none⟩ = some (.pointer (some ⟨B, 0, none⟩))) (h : Buf w B K c off (uleb n ++ l)) (hn : n < 18446744073709551616) :
    SwC 15 B pb K c (off + (uleb n).length) l (ifv 1 n []) w (fun _ => True) := by
  have e : ifv 1 n [] = .iface 2 (.int .i64 (sgn n)) := by unfold ifv; rw [if_pos rfl]
  rw [e]
  clear e
  have hw := sgn_wrapR n hn
  generalize sgn n = sn at *
  intro vs a Q hQ hst H
  unfold cSw
  conv => arg 2; whnf
  refine wp_block ?_
  refine sw_no hst (hst.get 1 148 _ rfl rfl) (by decide) (by decide) (by decide) (by decide) (by decide) ?_
  clear hst; intro a hst
  refine wp_seq ?_
  refine mu_no hst (hst.get 1 148 _ rfl rfl) (by decide) (by decide) (by decide) (by decide) (by decide) ?_
  clear hst; intro a hst
  refine mu_no hst (hst.get 1 148 _ rfl rfl) (by decide) (by decide) (by decide) (by decide) (by decide) ?_
  clear hst; intro a hst
  refine mu_no hst (hst.get 1 148 _ rfl rfl) (by decide) (by decide) (by decide) (by decide) (by decide) ?_
  clear hst; intro a hst
  refine mu_no hst (hst.get 1 148 _ rfl rfl) (by decide) (by decide) (by decide) (by decide) (by decide) ?_
  clear hst; intro a hst
  refine sw_test hst (hst.get 1 148 _ rfl rfl) (by decide) (by decide) (by decide) (by decide) false (by decide) ?_
  clear hst; intro a hst hv
  refine wp_cond_false (eval_tmp hv) ?_
  clear hv
  refine sw_no hst (hst.get 1 148 _ rfl rfl) (by decide) (by decide) (by decide) (by decide) (by decide) ?_
  clear hst; intro a hst
  refine sw_no hst (hst.get 1 148 _ rfl rfl) (by decide) (by decide) (by decide) (by decide) (by decide) ?_
  clear hst; intro a hst
  refine sw_no hst (hst.get 1 148 _ rfl rfl) (by decide) (by decide) (by decide) (by decide) (by decide) ?_
  clear hst; intro a hst
  refine sw_no hst (hst.get 1 148 _ rfl rfl) (by decide) (by decide) (by decide) (by decide) (by decide) ?_
  clear hst; intro a hst
  refine sw_no hst (hst.get 1 148 _ rfl rfl) (by decide) (by decide) (by decide) (by decide) (by decide) ?_
  clear hst; intro a hst
  refine sw_no hst (hst.get 1 148 _ rfl rfl) (by decide) (by decide) (by decide) (by decide) (by decide) ?_
  clear hst; intro a hst
  refine sw_no hst (hst.get 1 148 _ rfl rfl) (by decide) (by decide) (by decide) (by decide) (by decide) ?_
  clear hst; intro a hst
  refine sw_no hst (hst.get 1 148 _ rfl rfl) (by decide) (by decide) (by decide) (by decide) (by decide) ?_
  clear hst; intro a hst
  refine sw_no hst (hst.get 1 148 _ rfl rfl) (by decide) (by decide) (by decide) (by decide) (by decide) ?_
  clear hst; intro a hst
  refine sw_no hst (hst.get 1 148 _ rfl rfl) (by decide) (by decide) (by decide) (by decide) (by decide) ?_
  clear hst; intro a hst
  refine sw_yes hst (hst.get 1 148 _ rfl rfl) (by decide) (by decide) (by decide) (by decide) (by decide) ?_
  clear hst; intro a hst
  have h3 := hst.get 0 3 _ rfl rfl
  have hz := hst.size
  have g19 : 19 < a.tmps.size := by rw [hz]; decide
  have g304 : 304 < a.tmps.size := by rw [hz]; decide
  have g305 : 305 < a.tmps.size := by rw [hz]; decide
  have g306 : 306 < a.tmps.size := by rw [hz]; decide
  have g307 : 307 < a.tmps.size := by rw [hz]; decide
  have HST := Lib.hid hst; clear hst hz
  go_wp2_with fail
  (with_reducible refine (uint_any B K c off n l w h hn).mono ?_)
  rintro e w1 ⟨rfl, hb, hf⟩
  go_wp2_with fail
  exact H _ _ ((((((HST.out.mk').setV 304 _ (by decide)).setV 305 _ (by decide)).setV 306 _ (by decide)).setV 307 _ (by decide)).setV 19 _ (by decide)) (by simp [g19]) hb hf trivial

set_option maxHeartbeats 1000000 in
theorem sw_8 (B pb : Nat) (d : List Nat) (K : Bs) (c : BufK) (off : Nat) (l : List Nat) (w : World)
    (hp : w.cell? ⟨pb, 0, none⟩ = some (.pointer (some ⟨B, 0, none⟩))) (h : Buf w B K c off (d ++ 0 :: l)) (hd : ∀ x ∈ d, x ≠ 0 ∧ x < 256) :
    SwC 8 B pb K c (off + (d.length + 1)) l (ifv 6 0 d) w (fun _ => True) := by
  have e : ifv 6 0 d = .iface 9 (.string (strB d)) := by unfold ifv; rw [if_neg (by decide), if_neg (by decide)]
  rw [e]
  clear e
  have HD := Lib.hid hd; clear hd
  intro vs a Q hQ hst H
  unfold cSw
  conv => arg 2; whnf
  refine wp_block ?_
  refine sw_no hst (hst.get 1 148 _ rfl rfl) (by decide) (by decide) (by decide) (by decide) (by decide) ?_
  clear hst; intro a hst
  refine wp_seq ?_
  refine mu_no hst (hst.get 1 148 _ rfl rfl) (by decide) (by decide) (by decide) (by decide) (by decide) ?_
  clear hst; intro a hst
  refine mu_no hst (hst.get 1 148 _ rfl rfl) (by decide) (by decide) (by decide) (by decide) (by decide) ?_
  clear hst; intro a hst
  refine mu_no hst (hst.get 1 148 _ rfl rfl) (by decide) (by decide) (by decide) (by decide) (by decide) ?_
  clear hst; intro a hst
  refine mu_no hst (hst.get 1 148 _ rfl rfl) (by decide) (by decide) (by decide) (by decide) (by decide) ?_
  clear hst; intro a hst
  refine sw_test hst (hst.get 1 148 _ rfl rfl) (by decide) (by decide) (by decide) (by decide) false (by decide) ?_
  clear hst; intro a hst hv
  refine wp_cond_false (eval_tmp hv) ?_
  clear hv
  refine sw_no hst (hst.get 1 148 _ rfl rfl) (by decide) (by decide) (by decide) (by decide) (by decide) ?_
  clear hst; intro a hst
  refine sw_no hst (hst.get 1 148 _ rfl rfl) (by decide) (by decide) (by decide) (by decide) (by decide) ?_
  clear hst; intro a hst
  refine sw_no hst (hst.get 1 148 _ rfl rfl) (by decide) (by decide) (by decide) (by decide) (by decide) ?_
  clear hst; intro a hst
  refine sw_no hst (hst.get 1 148 _ rfl rfl) (by decide) (by decide) (by decide) (by decide) (by decide) ?_
  clear hst; intro a hst
  refine sw_no hst (hst.get 1 148 _ rfl rfl) (by decide) (by decide) (by decide) (by decide) (by decide) ?_
  clear hst; intro a hst
  refine sw_no hst (hst.get 1 148 _ rfl rfl) (by decide) (by decide) (by decide) (by decide) (by decide) ?_
  clear hst; intro a hst
  refine sw_no hst (hst.get 1 148 _ rfl rfl) (by decide) (by decide) (by decide) (by decide) (by decide) ?_
  clear hst; intro a hst
  refine sw_no hst (hst.get 1 148 _ rfl rfl) (by decide) (by decide) (by decide) (by decide) (by decide) ?_
  clear hst; intro a hst
  refine sw_no hst (hst.get 1 148 _ rfl rfl) (by decide) (by decide) (by decide) (by decide) (by decide) ?_
  clear hst; intro a hst
  refine sw_no hst (hst.get 1 148 _ rfl rfl) (by decide) (by decide) (by decide) (by decide) (by decide) ?_
  clear hst; intro a hst
  refine sw_no hst (hst.get 1 148 _ rfl rfl) (by decide) (by decide) (by decide) (by decide) (by decide) ?_
  clear hst; intro a hst
  refine sw_no hst (hst.get 1 148 _ rfl rfl) (by decide) (by decide) (by decide) (by decide) (by decide) ?_
  clear hst; intro a hst
  refine sw_no hst (hst.get 1 148 _ rfl rfl) (by decide) (by decide) (by decide) (by decide) (by decide) ?_
  clear hst; intro a hst
  refine sw_no hst (hst.get 1 148 _ rfl rfl) (by decide) (by decide) (by decide) (by decide) (by decide) ?_
  clear hst; intro a hst
  refine sw_no hst (hst.get 1 148 _ rfl rfl) (by decide) (by decide) (by decide) (by decide) (by decide) ?_
  clear hst; intro a hst
  refine sw_no hst (hst.get 1 148 _ rfl rfl) (by decide) (by decide) (by decide) (by decide) (by decide) ?_
  clear hst; intro a hst
  refine sw_no hst (hst.get 1 148 _ rfl rfl) (by decide) (by decide) (by decide) (by decide) (by decide) ?_
  clear hst; intro a hst
  refine sw_no hst (hst.get 1 148 _ rfl rfl) (by decide) (by decide) (by decide) (by decide) (by decide) ?_
  clear hst; intro a hst
  refine sw_no hst (hst.get 1 148 _ rfl rfl) (by decide) (by decide) (by decide) (by decide) (by decide) ?_
  clear hst; intro a hst
  refine sw_no hst (hst.get 1 148 _ rfl rfl) (by decide) (by decide) (by decide) (by decide) (by decide) ?_
  clear hst; intro a hst
  refine sw_yes hst (hst.get 1 148 _ rfl rfl) (by decide) (by decide) (by decide) (by decide) (by decide) ?_
  clear hst; intro a hst
  have h3 := hst.get 0 3 _ rfl rfl
  have hz := hst.size
  have g19 : 19 < a.tmps.size := by rw [hz]; decide
  have g404 : 404 < a.tmps.size := by rw [hz]; decide
  have g405 : 405 < a.tmps.size := by rw [hz]; decide
  have g406 : 406 < a.tmps.size := by rw [hz]; decide
  have HST := Lib.hid hst; clear hst hz
  go_wp2_with fail
  (with_reducible refine (string_any B K c off d l w h HD.out).mono ?_)
  rintro e w1 ⟨rfl, hb, hf⟩
  go_wp2_with fail
  exact H _ _ (((((HST.out.mk').setV 404 _ (by decide)).setV 405 _ (by decide)).setV 406 _ (by decide)).setV 19 _ (by decide)) (by simp [g19]) hb hf trivial

end Go.Proofs.YtklcoppfkfenfaaGreatDoor
