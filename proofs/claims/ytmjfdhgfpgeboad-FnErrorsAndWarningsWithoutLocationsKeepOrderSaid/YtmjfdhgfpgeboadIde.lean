/-
  Proved: StringToMsgIDs sets just the numbers of the given name, and StringToMaximumMsgID returns the greatest of them, or 0. Conditions: those that
  each theorem names as its hypotheses, and no others.
-/
import Derived.Test.YtmjfdhgfpgeboadIda
import Derived.Test.YtmjfdhgfpgeboadIdb
import Derived.Test.YtmjfdhgfpgeboadIdc
import Derived.Test.YtmjfdhgfpgeboadIdd
namespace Go.Proofs.Ytmjfdhgfpgeboad.Idp
open Go.RowKit Go.Maps Go.WideMaps
set_option linter.unusedVariables false
set_option linter.unusedSimpArgs false
theorem put_key (D : DataW Value) (hD : IsMap D) (lo : Int) (k : Nat) (c : Int) (d : DataW Value) (hk : lo ≤ k) (h : ∀ c, has D (.int .u8 c) = true ↔ lo ≤ c ∧ c < (k : Int)) : has (D.put (.int .u8 (k : Int)) d) (.int .u8 c) = true ↔ lo ≤ c ∧ c < ((k + 1 : Nat) : Int) := by
  by_cases e : c = (k : Int)
  · subst e
    rw [has_put_same hD (show WideAt.IsKeyLit (.int .u8 (k : Int)) from trivial)]
    simp only [true_iff]
    omega
  · rw [has_put_other (fun e' => e (by injection e')), h]
    omega
set_option maxRecDepth 1000000 in
set_option maxHeartbeats 40000000 in
theorem arm55 (s : ByteArray) (b : Nat) (w : World) (ho : Om w b 0 (.map [])) (hs : s.toList = [112, 97, 99, 107, 97, 103, 101, 46, 106, 115, 111, 110]) : Calls Try.prog 20 #[.string s, .int .i8 3, .map (some b)] w (Ids s b w) := by
  have HK := Lib.hid (Ks_arm (lo := 55) (hi := 61) hs (by decide) (by decide))
  have HO := Lib.hid ho
  clear ho
  have t1 : (s.toList == [97, 115, 115, 101, 114, 116, 45, 116, 111, 45, 119, 105, 116, 104]) = false := by rw [hs]; decide
  have t2 : (s.toList == [97, 115, 115, 101, 114, 116, 45, 116, 121, 112, 101, 45, 106, 115, 111, 110]) = false := by rw [hs]; decide
  have t3 : (s.toList == [97, 115, 115, 105, 103, 110, 45, 116, 111, 45, 99, 111, 110, 115, 116, 97, 110, 116]) = false := by rw [hs]; decide
  have t4 : (s.toList == [97, 115, 115, 105, 103, 110, 45, 116, 111, 45, 100, 101, 102, 105, 110, 101]) = false := by rw [hs]; decide
  have t5 : (s.toList == [97, 115, 115, 105, 103, 110, 45, 116, 111, 45, 105, 109, 112, 111, 114, 116]) = false := by rw [hs]; decide
  have t6 : (s.toList == [98, 105, 103, 105, 110, 116]) = false := by rw [hs]; decide
  have t7 : (s.toList == [99, 97, 108, 108, 45, 105, 109, 112, 111, 114, 116, 45, 110, 97, 109, 101, 115, 112, 97, 99, 101]) = false := by rw [hs]; decide
  have t8 : (s.toList == [99, 108, 97, 115, 115, 45, 110, 97, 109, 101, 45, 119, 105, 108, 108, 45, 116, 104, 114, 111, 119]) = false := by rw [hs]; decide
  have t9 : (s.toList == [99, 111, 109, 109, 111, 110, 106, 115, 45, 118, 97, 114, 105, 97, 98, 108, 101, 45, 105, 110, 45, 101, 115, 109]) = false := by rw [hs]; decide
  have t10 : (s.toList == [99, 111, 110, 102, 117, 115, 105, 110, 103, 45, 116, 121, 112, 101, 115, 99, 114, 105, 112, 116, 45, 99, 97, 115, 116]) = false := by rw [hs]; decide
  have t11 : (s.toList == [100, 101, 108, 101, 116, 101, 45, 115, 117, 112, 101, 114, 45, 112, 114, 111, 112, 101, 114, 116, 121]) = false := by rw [hs]; decide
  have t12 : (s.toList == [100, 105, 114, 101, 99, 116, 45, 101, 118, 97, 108]) = false := by rw [hs]; decide
  have t13 : (s.toList == [100, 117, 112, 108, 105, 99, 97, 116, 101, 45, 99, 97, 115, 101]) = false := by rw [hs]; decide
  have t14 : (s.toList == [100, 117, 112, 108, 105, 99, 97, 116, 101, 45, 99, 108, 97, 115, 115, 45, 109, 101, 109, 98, 101, 114]) = false := by rw [hs]; decide
  have t15 : (s.toList == [100, 117, 112, 108, 105, 99, 97, 116, 101, 45, 111, 98, 106, 101, 99, 116, 45, 107, 101, 121]) = false := by rw [hs]; decide
  have t16 : (s.toList == [101, 109, 112, 116, 121, 45, 105, 109, 112, 111, 114, 116, 45, 109, 101, 116, 97]) = false := by rw [hs]; decide
  have t17 : (s.toList == [101, 113, 117, 97, 108, 115, 45, 110, 97, 110]) = false := by rw [hs]; decide
  have t18 : (s.toList == [101, 113, 117, 97, 108, 115, 45, 110, 101, 103, 97, 116, 105, 118, 101, 45, 122, 101, 114, 111]) = false := by rw [hs]; decide
  have t19 : (s.toList == [101, 113, 117, 97, 108, 115, 45, 110, 101, 119, 45, 111, 98, 106, 101, 99, 116]) = false := by rw [hs]; decide
  have t20 : (s.toList == [104, 116, 109, 108, 45, 99, 111, 109, 109, 101, 110, 116, 45, 105, 110, 45, 106, 115]) = false := by rw [hs]; decide
  have t21 : (s.toList == [105, 109, 112, 111, 115, 115, 105, 98, 108, 101, 45, 116, 121, 112, 101, 111, 102]) = false := by rw [hs]; decide
  have t22 : (s.toList == [105, 110, 100, 105, 114, 101, 99, 116, 45, 114, 101, 113, 117, 105, 114, 101]) = false := by rw [hs]; decide
  have t23 : (s.toList == [112, 114, 105, 118, 97, 116, 101, 45, 110, 97, 109, 101, 45, 119, 105, 108, 108, 45, 116, 104, 114, 111, 119]) = false := by rw [hs]; decide
  have t24 : (s.toList == [115, 101, 109, 105, 99, 111, 108, 111, 110, 45, 97, 102, 116, 101, 114, 45, 114, 101, 116, 117, 114, 110]) = false := by rw [hs]; decide
  have t25 : (s.toList == [115, 117, 115, 112, 105, 99, 105, 111, 117, 115, 45, 98, 111, 111, 108, 101, 97, 110, 45, 110, 111, 116]) = false := by rw [hs]; decide
  have t26 : (s.toList == [115, 117, 115, 112, 105, 99, 105, 111, 117, 115, 45, 100, 101, 102, 105, 110, 101]) = false := by rw [hs]; decide
  have t27 : (s.toList == [115, 117, 115, 112, 105, 99, 105, 111, 117, 115, 45, 108, 111, 103, 105, 99, 97, 108, 45, 111, 112, 101, 114, 97, 116, 111, 114]) = false := by rw [hs]; decide
  have t28 : (s.toList == [115, 117, 115, 112, 105, 99, 105, 111, 117, 115, 45, 110, 117, 108, 108, 105, 115, 104, 45, 99, 111, 97, 108, 101, 115, 99, 105, 110, 103]) = false := by rw [hs]; decide
  have t29 : (s.toList == [116, 104, 105, 115, 45, 105, 115, 45, 117, 110, 100, 101, 102, 105, 110, 101, 100, 45, 105, 110, 45, 101, 115, 109]) = false := by rw [hs]; decide
  have t30 : (s.toList == [117, 110, 115, 117, 112, 112, 111, 114, 116, 101, 100, 45, 100, 121, 110, 97, 109, 105, 99, 45, 105, 109, 112, 111, 114, 116]) = false := by rw [hs]; decide
  have t31 : (s.toList == [117, 110, 115, 117, 112, 112, 111, 114, 116, 101, 100, 45, 106, 115, 120, 45, 99, 111, 109, 109, 101, 110, 116]) = false := by rw [hs]; decide
  have t32 : (s.toList == [117, 110, 115, 117, 112, 112, 111, 114, 116, 101, 100, 45, 114, 101, 103, 101, 120, 112]) = false := by rw [hs]; decide
  have t33 : (s.toList == [117, 110, 115, 117, 112, 112, 111, 114, 116, 101, 100, 45, 114, 101, 113, 117, 105, 114, 101, 45, 99, 97, 108, 108]) = false := by rw [hs]; decide
  have t34 : (s.toList == [99, 115, 115, 45, 115, 121, 110, 116, 97, 120, 45, 101, 114, 114, 111, 114]) = false := by rw [hs]; decide
  have t35 : (s.toList == [105, 110, 118, 97, 108, 105, 100, 45, 64, 99, 104, 97, 114, 115, 101, 116]) = false := by rw [hs]; decide
  have t36 : (s.toList == [105, 110, 118, 97, 108, 105, 100, 45, 64, 105, 109, 112, 111, 114, 116]) = false := by rw [hs]; decide
  have t37 : (s.toList == [105, 110, 118, 97, 108, 105, 100, 45, 64, 108, 97, 121, 101, 114]) = false := by rw [hs]; decide
  have t38 : (s.toList == [105, 110, 118, 97, 108, 105, 100, 45, 99, 97, 108, 99]) = false := by rw [hs]; decide
  have t39 : (s.toList == [106, 115, 45, 99, 111, 109, 109, 101, 110, 116, 45, 105, 110, 45, 99, 115, 115]) = false := by rw [hs]; decide
  have t40 : (s.toList == [117, 110, 100, 101, 102, 105, 110, 101, 100, 45, 99, 111, 109, 112, 111, 115, 101, 115, 45, 102, 114, 111, 109]) = false := by rw [hs]; decide
  have t41 : (s.toList == [117, 110, 115, 117, 112, 112, 111, 114, 116, 101, 100, 45, 64, 99, 104, 97, 114, 115, 101, 116]) = false := by rw [hs]; decide
  have t42 : (s.toList == [117, 110, 115, 117, 112, 112, 111, 114, 116, 101, 100, 45, 64, 110, 97, 109, 101, 115, 112, 97, 99, 101]) = false := by rw [hs]; decide
  have t43 : (s.toList == [117, 110, 115, 117, 112, 112, 111, 114, 116, 101, 100, 45, 99, 115, 115, 45, 112, 114, 111, 112, 101, 114, 116, 121]) = false := by rw [hs]; decide
  have t44 : (s.toList == [117, 110, 115, 117, 112, 112, 111, 114, 116, 101, 100, 45, 99, 115, 115, 45, 110, 101, 115, 116, 105, 110, 103]) = false := by rw [hs]; decide
  have t45 : (s.toList == [97, 109, 98, 105, 103, 117, 111, 117, 115, 45, 114, 101, 101, 120, 112, 111, 114, 116]) = false := by rw [hs]; decide
  have t46 : (s.toList == [100, 105, 102, 102, 101, 114, 101, 110, 116, 45, 112, 97, 116, 104, 45, 99, 97, 115, 101]) = false := by rw [hs]; decide
  have t47 : (s.toList == [101, 109, 112, 116, 121, 45, 103, 108, 111, 98]) = false := by rw [hs]; decide
  have t48 : (s.toList == [105, 103, 110, 111, 114, 101, 100, 45, 98, 97, 114, 101, 45, 105, 109, 112, 111, 114, 116]) = false := by rw [hs]; decide
  have t49 : (s.toList == [105, 103, 110, 111, 114, 101, 100, 45, 100, 121, 110, 97, 109, 105, 99, 45, 105, 109, 112, 111, 114, 116]) = false := by rw [hs]; decide
  have t50 : (s.toList == [105, 109, 112, 111, 114, 116, 45, 105, 115, 45, 117, 110, 100, 101, 102, 105, 110, 101, 100]) = false := by rw [hs]; decide
  have t51 : (s.toList == [114, 101, 113, 117, 105, 114, 101, 45, 114, 101, 115, 111, 108, 118, 101, 45, 110, 111, 116, 45, 101, 120, 116, 101, 114, 110, 97, 108]) = false := by rw [hs]; decide
  have t52 : (s.toList == [105, 110, 118, 97, 108, 105, 100, 45, 115, 111, 117, 114, 99, 101, 45, 109, 97, 112, 112, 105, 110, 103, 115]) = false := by rw [hs]; decide
  have t53 : (s.toList == [109, 105, 115, 115, 105, 110, 103, 45, 115, 111, 117, 114, 99, 101, 45, 109, 97, 112]) = false := by rw [hs]; decide
  have t54 : (s.toList == [117, 110, 115, 117, 112, 112, 111, 114, 116, 101, 100, 45, 115, 111, 117, 114, 99, 101, 45, 109, 97, 112, 45, 99, 111, 109, 109, 101, 110, 116]) = false := by rw [hs]; decide
  have t55 : (s.toList == [112, 97, 99, 107, 97, 103, 101, 46, 106, 115, 111, 110]) = true := by rw [hs]; exact beq_self_eq_true _
  clear hs
  go_enter Try.func20, Try.ntmps20
  go_wp2_with fail
  go_loopw [6] (fun i wr => ∃ (k cnt : Nat) (D : DataW Value), i = .int .u8 (k : Int) ∧ 55 ≤ k ∧ k ≤ 62 ∧ cnt + 55 = k ∧ Hid (IsMap D) ∧ Hid (Om wr b cnt D) ∧ Hid (∀ c, has D (.int .u8 c) = true ↔ 55 ≤ c ∧ c < (k : Int)) ∧ Hid (w.grownBy wr (some b))) (fun i _ => 62 - (intOf i).toNat)
  case atStart => exact ⟨55, 0, .map [], rfl, by omega, by omega, rfl, Lib.hid isMap_empty, HO, Lib.hid (fun c => ⟨fun h => by (cases h), fun h => by (have := h.1; have := h.2; omega)⟩), Lib.hid (World.grownBy.refl _ _)⟩
  case round =>
    obtain ⟨k, cnt, D, rfl, h1, h2, hc, HM, HD, HH, HG⟩ := hrel
    obtain ⟨wo, rfl⟩ : ∃ wo : World, wo = wr := ⟨_, rfl⟩
    by_cases hlt : k ≤ 61
    · have z0 : decide ((k : Int) ≤ 61) = true := decide_eq_true (by omega)
      go_wp2_with (first
        | (at_mapUpdate; refine wpList_mapUpdate_own _ rfl _ _ _ 69 rfl 5 72 lawM Try.underlying69 RE b cnt _ rfl HD.out (by unfold maxLen; omega) _ _ _ rfl rfl (keyOf_int_mk Try.underlying5 (WalkArith.wf_u8 (by omega))) _ [] (plainElem_int Try.underlying72 (by decide)) ?_; intro w1 ho1 hg1; go_frame)
        | fail)
      have HO1 := Lib.hid ho1
      have HG1 := Lib.hid (HG.out.trans hg1)
      have HP := fun d => Lib.hid (fun c => put_key D HM.out 55 k c d (by omega) HH.out)
      clear ho1 hg1
      go_roundw
      case rel => exact ⟨k + 1, cnt + 1, _, by go_num, by omega, by omega, by omega, Lib.hid (IsMap.put HM.out _ _), HO1, HP _, HG1⟩
      case measure => simp [intOf]; omega
    · have z0 : decide ((k : Int) ≤ 61) = false := decide_eq_false (by omega)
      obtain rfl : k = 62 := by omega
      go_wp2_with fail
      go_end0
      exact ⟨rfl, cnt, D, by omega, HD.out, fun c => (HH.out c).trans ((show (55 ≤ c ∧ c < ((62 : Nat) : Int)) ↔ (55 ≤ c ∧ c ≤ 61) by omega).trans (HK.out c).symm), HG.out⟩
set_option maxRecDepth 1000000 in
set_option maxHeartbeats 40000000 in
theorem arm56 (s : ByteArray) (b : Nat) (w : World) (ho : Om w b 0 (.map [])) (hs : s.toList = [116, 115, 99, 111, 110, 102, 105, 103, 46, 106, 115, 111, 110]) : Calls Try.prog 20 #[.string s, .int .i8 3, .map (some b)] w (Ids s b w) := by
  have HK := Lib.hid (Ks_arm (lo := 62) (hi := 70) hs (by decide) (by decide))
  have HO := Lib.hid ho
  clear ho
  have t1 : (s.toList == [97, 115, 115, 101, 114, 116, 45, 116, 111, 45, 119, 105, 116, 104]) = false := by rw [hs]; decide
  have t2 : (s.toList == [97, 115, 115, 101, 114, 116, 45, 116, 121, 112, 101, 45, 106, 115, 111, 110]) = false := by rw [hs]; decide
  have t3 : (s.toList == [97, 115, 115, 105, 103, 110, 45, 116, 111, 45, 99, 111, 110, 115, 116, 97, 110, 116]) = false := by rw [hs]; decide
  have t4 : (s.toList == [97, 115, 115, 105, 103, 110, 45, 116, 111, 45, 100, 101, 102, 105, 110, 101]) = false := by rw [hs]; decide
  have t5 : (s.toList == [97, 115, 115, 105, 103, 110, 45, 116, 111, 45, 105, 109, 112, 111, 114, 116]) = false := by rw [hs]; decide
  have t6 : (s.toList == [98, 105, 103, 105, 110, 116]) = false := by rw [hs]; decide
  have t7 : (s.toList == [99, 97, 108, 108, 45, 105, 109, 112, 111, 114, 116, 45, 110, 97, 109, 101, 115, 112, 97, 99, 101]) = false := by rw [hs]; decide
  have t8 : (s.toList == [99, 108, 97, 115, 115, 45, 110, 97, 109, 101, 45, 119, 105, 108, 108, 45, 116, 104, 114, 111, 119]) = false := by rw [hs]; decide
  have t9 : (s.toList == [99, 111, 109, 109, 111, 110, 106, 115, 45, 118, 97, 114, 105, 97, 98, 108, 101, 45, 105, 110, 45, 101, 115, 109]) = false := by rw [hs]; decide
  have t10 : (s.toList == [99, 111, 110, 102, 117, 115, 105, 110, 103, 45, 116, 121, 112, 101, 115, 99, 114, 105, 112, 116, 45, 99, 97, 115, 116]) = false := by rw [hs]; decide
  have t11 : (s.toList == [100, 101, 108, 101, 116, 101, 45, 115, 117, 112, 101, 114, 45, 112, 114, 111, 112, 101, 114, 116, 121]) = false := by rw [hs]; decide
  have t12 : (s.toList == [100, 105, 114, 101, 99, 116, 45, 101, 118, 97, 108]) = false := by rw [hs]; decide
  have t13 : (s.toList == [100, 117, 112, 108, 105, 99, 97, 116, 101, 45, 99, 97, 115, 101]) = false := by rw [hs]; decide
  have t14 : (s.toList == [100, 117, 112, 108, 105, 99, 97, 116, 101, 45, 99, 108, 97, 115, 115, 45, 109, 101, 109, 98, 101, 114]) = false := by rw [hs]; decide
  have t15 : (s.toList == [100, 117, 112, 108, 105, 99, 97, 116, 101, 45, 111, 98, 106, 101, 99, 116, 45, 107, 101, 121]) = false := by rw [hs]; decide
  have t16 : (s.toList == [101, 109, 112, 116, 121, 45, 105, 109, 112, 111, 114, 116, 45, 109, 101, 116, 97]) = false := by rw [hs]; decide
  have t17 : (s.toList == [101, 113, 117, 97, 108, 115, 45, 110, 97, 110]) = false := by rw [hs]; decide
  have t18 : (s.toList == [101, 113, 117, 97, 108, 115, 45, 110, 101, 103, 97, 116, 105, 118, 101, 45, 122, 101, 114, 111]) = false := by rw [hs]; decide
  have t19 : (s.toList == [101, 113, 117, 97, 108, 115, 45, 110, 101, 119, 45, 111, 98, 106, 101, 99, 116]) = false := by rw [hs]; decide
  have t20 : (s.toList == [104, 116, 109, 108, 45, 99, 111, 109, 109, 101, 110, 116, 45, 105, 110, 45, 106, 115]) = false := by rw [hs]; decide
  have t21 : (s.toList == [105, 109, 112, 111, 115, 115, 105, 98, 108, 101, 45, 116, 121, 112, 101, 111, 102]) = false := by rw [hs]; decide
  have t22 : (s.toList == [105, 110, 100, 105, 114, 101, 99, 116, 45, 114, 101, 113, 117, 105, 114, 101]) = false := by rw [hs]; decide
  have t23 : (s.toList == [112, 114, 105, 118, 97, 116, 101, 45, 110, 97, 109, 101, 45, 119, 105, 108, 108, 45, 116, 104, 114, 111, 119]) = false := by rw [hs]; decide
  have t24 : (s.toList == [115, 101, 109, 105, 99, 111, 108, 111, 110, 45, 97, 102, 116, 101, 114, 45, 114, 101, 116, 117, 114, 110]) = false := by rw [hs]; decide
  have t25 : (s.toList == [115, 117, 115, 112, 105, 99, 105, 111, 117, 115, 45, 98, 111, 111, 108, 101, 97, 110, 45, 110, 111, 116]) = false := by rw [hs]; decide
  have t26 : (s.toList == [115, 117, 115, 112, 105, 99, 105, 111, 117, 115, 45, 100, 101, 102, 105, 110, 101]) = false := by rw [hs]; decide
  have t27 : (s.toList == [115, 117, 115, 112, 105, 99, 105, 111, 117, 115, 45, 108, 111, 103, 105, 99, 97, 108, 45, 111, 112, 101, 114, 97, 116, 111, 114]) = false := by rw [hs]; decide
  have t28 : (s.toList == [115, 117, 115, 112, 105, 99, 105, 111, 117, 115, 45, 110, 117, 108, 108, 105, 115, 104, 45, 99, 111, 97, 108, 101, 115, 99, 105, 110, 103]) = false := by rw [hs]; decide
  have t29 : (s.toList == [116, 104, 105, 115, 45, 105, 115, 45, 117, 110, 100, 101, 102, 105, 110, 101, 100, 45, 105, 110, 45, 101, 115, 109]) = false := by rw [hs]; decide
  have t30 : (s.toList == [117, 110, 115, 117, 112, 112, 111, 114, 116, 101, 100, 45, 100, 121, 110, 97, 109, 105, 99, 45, 105, 109, 112, 111, 114, 116]) = false := by rw [hs]; decide
  have t31 : (s.toList == [117, 110, 115, 117, 112, 112, 111, 114, 116, 101, 100, 45, 106, 115, 120, 45, 99, 111, 109, 109, 101, 110, 116]) = false := by rw [hs]; decide
  have t32 : (s.toList == [117, 110, 115, 117, 112, 112, 111, 114, 116, 101, 100, 45, 114, 101, 103, 101, 120, 112]) = false := by rw [hs]; decide
  have t33 : (s.toList == [117, 110, 115, 117, 112, 112, 111, 114, 116, 101, 100, 45, 114, 101, 113, 117, 105, 114, 101, 45, 99, 97, 108, 108]) = false := by rw [hs]; decide
  have t34 : (s.toList == [99, 115, 115, 45, 115, 121, 110, 116, 97, 120, 45, 101, 114, 114, 111, 114]) = false := by rw [hs]; decide
  have t35 : (s.toList == [105, 110, 118, 97, 108, 105, 100, 45, 64, 99, 104, 97, 114, 115, 101, 116]) = false := by rw [hs]; decide
  have t36 : (s.toList == [105, 110, 118, 97, 108, 105, 100, 45, 64, 105, 109, 112, 111, 114, 116]) = false := by rw [hs]; decide
  have t37 : (s.toList == [105, 110, 118, 97, 108, 105, 100, 45, 64, 108, 97, 121, 101, 114]) = false := by rw [hs]; decide
  have t38 : (s.toList == [105, 110, 118, 97, 108, 105, 100, 45, 99, 97, 108, 99]) = false := by rw [hs]; decide
  have t39 : (s.toList == [106, 115, 45, 99, 111, 109, 109, 101, 110, 116, 45, 105, 110, 45, 99, 115, 115]) = false := by rw [hs]; decide
  have t40 : (s.toList == [117, 110, 100, 101, 102, 105, 110, 101, 100, 45, 99, 111, 109, 112, 111, 115, 101, 115, 45, 102, 114, 111, 109]) = false := by rw [hs]; decide
  have t41 : (s.toList == [117, 110, 115, 117, 112, 112, 111, 114, 116, 101, 100, 45, 64, 99, 104, 97, 114, 115, 101, 116]) = false := by rw [hs]; decide
  have t42 : (s.toList == [117, 110, 115, 117, 112, 112, 111, 114, 116, 101, 100, 45, 64, 110, 97, 109, 101, 115, 112, 97, 99, 101]) = false := by rw [hs]; decide
  have t43 : (s.toList == [117, 110, 115, 117, 112, 112, 111, 114, 116, 101, 100, 45, 99, 115, 115, 45, 112, 114, 111, 112, 101, 114, 116, 121]) = false := by rw [hs]; decide
  have t44 : (s.toList == [117, 110, 115, 117, 112, 112, 111, 114, 116, 101, 100, 45, 99, 115, 115, 45, 110, 101, 115, 116, 105, 110, 103]) = false := by rw [hs]; decide
  have t45 : (s.toList == [97, 109, 98, 105, 103, 117, 111, 117, 115, 45, 114, 101, 101, 120, 112, 111, 114, 116]) = false := by rw [hs]; decide
  have t46 : (s.toList == [100, 105, 102, 102, 101, 114, 101, 110, 116, 45, 112, 97, 116, 104, 45, 99, 97, 115, 101]) = false := by rw [hs]; decide
  have t47 : (s.toList == [101, 109, 112, 116, 121, 45, 103, 108, 111, 98]) = false := by rw [hs]; decide
  have t48 : (s.toList == [105, 103, 110, 111, 114, 101, 100, 45, 98, 97, 114, 101, 45, 105, 109, 112, 111, 114, 116]) = false := by rw [hs]; decide
  have t49 : (s.toList == [105, 103, 110, 111, 114, 101, 100, 45, 100, 121, 110, 97, 109, 105, 99, 45, 105, 109, 112, 111, 114, 116]) = false := by rw [hs]; decide
  have t50 : (s.toList == [105, 109, 112, 111, 114, 116, 45, 105, 115, 45, 117, 110, 100, 101, 102, 105, 110, 101, 100]) = false := by rw [hs]; decide
  have t51 : (s.toList == [114, 101, 113, 117, 105, 114, 101, 45, 114, 101, 115, 111, 108, 118, 101, 45, 110, 111, 116, 45, 101, 120, 116, 101, 114, 110, 97, 108]) = false := by rw [hs]; decide
  have t52 : (s.toList == [105, 110, 118, 97, 108, 105, 100, 45, 115, 111, 117, 114, 99, 101, 45, 109, 97, 112, 112, 105, 110, 103, 115]) = false := by rw [hs]; decide
  have t53 : (s.toList == [109, 105, 115, 115, 105, 110, 103, 45, 115, 111, 117, 114, 99, 101, 45, 109, 97, 112]) = false := by rw [hs]; decide
  have t54 : (s.toList == [117, 110, 115, 117, 112, 112, 111, 114, 116, 101, 100, 45, 115, 111, 117, 114, 99, 101, 45, 109, 97, 112, 45, 99, 111, 109, 109, 101, 110, 116]) = false := by rw [hs]; decide
  have t55 : (s.toList == [112, 97, 99, 107, 97, 103, 101, 46, 106, 115, 111, 110]) = false := by rw [hs]; decide
  have t56 : (s.toList == [116, 115, 99, 111, 110, 102, 105, 103, 46, 106, 115, 111, 110]) = true := by rw [hs]; exact beq_self_eq_true _
  clear hs
  go_enter Try.func20, Try.ntmps20
  go_wp2_with fail
  go_loopw [7] (fun i wr => ∃ (k cnt : Nat) (D : DataW Value), i = .int .u8 (k : Int) ∧ 62 ≤ k ∧ k ≤ 71 ∧ cnt + 62 = k ∧ Hid (IsMap D) ∧ Hid (Om wr b cnt D) ∧ Hid (∀ c, has D (.int .u8 c) = true ↔ 62 ≤ c ∧ c < (k : Int)) ∧ Hid (w.grownBy wr (some b))) (fun i _ => 71 - (intOf i).toNat)
  case atStart => exact ⟨62, 0, .map [], rfl, by omega, by omega, rfl, Lib.hid isMap_empty, HO, Lib.hid (fun c => ⟨fun h => by (cases h), fun h => by (have := h.1; have := h.2; omega)⟩), Lib.hid (World.grownBy.refl _ _)⟩
  case round =>
    obtain ⟨k, cnt, D, rfl, h1, h2, hc, HM, HD, HH, HG⟩ := hrel
    obtain ⟨wo, rfl⟩ : ∃ wo : World, wo = wr := ⟨_, rfl⟩
    by_cases hlt : k ≤ 70
    · have z0 : decide ((k : Int) ≤ 70) = true := decide_eq_true (by omega)
      go_wp2_with (first
        | (at_mapUpdate; refine wpList_mapUpdate_own _ rfl _ _ _ 69 rfl 5 72 lawM Try.underlying69 RE b cnt _ rfl HD.out (by unfold maxLen; omega) _ _ _ rfl rfl (keyOf_int_mk Try.underlying5 (WalkArith.wf_u8 (by omega))) _ [] (plainElem_int Try.underlying72 (by decide)) ?_; intro w1 ho1 hg1; go_frame)
        | fail)
      have HO1 := Lib.hid ho1
      have HG1 := Lib.hid (HG.out.trans hg1)
      have HP := fun d => Lib.hid (fun c => put_key D HM.out 62 k c d (by omega) HH.out)
      clear ho1 hg1
      go_roundw
      case rel => exact ⟨k + 1, cnt + 1, _, by go_num, by omega, by omega, by omega, Lib.hid (IsMap.put HM.out _ _), HO1, HP _, HG1⟩
      case measure => simp [intOf]; omega
    · have z0 : decide ((k : Int) ≤ 70) = false := decide_eq_false (by omega)
      obtain rfl : k = 71 := by omega
      go_wp2_with fail
      go_end0
      exact ⟨rfl, cnt, D, by omega, HD.out, fun c => (HH.out c).trans ((show (62 ≤ c ∧ c < ((71 : Nat) : Int)) ↔ (62 ≤ c ∧ c ≤ 70) by omega).trans (HK.out c).symm), HG.out⟩
set_option maxRecDepth 1000000 in
set_option maxHeartbeats 40000000 in
theorem arm0 (s : ByteArray) (b : Nat) (w : World) (ho : Om w b 0 (.map [])) (h : ∀ a ∈ arms, s.toList ≠ a.1) : Calls Try.prog 20 #[.string s, .int .i8 3, .map (some b)] w (Ids s b w) := by
  have HN := Lib.hid (Ks_none h)
  have HO := Lib.hid ho
  have hb : ∀ L lo hi, (L, lo, hi) ∈ arms → (s.toList == L) = false := fun L lo hi hm => by
    have := h _ hm
    simpa using this
  clear ho h
  have t1 := hb [97, 115, 115, 101, 114, 116, 45, 116, 111, 45, 119, 105, 116, 104] 1 1 (by decide)
  have t2 := hb [97, 115, 115, 101, 114, 116, 45, 116, 121, 112, 101, 45, 106, 115, 111, 110] 2 2 (by decide)
  have t3 := hb [97, 115, 115, 105, 103, 110, 45, 116, 111, 45, 99, 111, 110, 115, 116, 97, 110, 116] 3 3 (by decide)
  have t4 := hb [97, 115, 115, 105, 103, 110, 45, 116, 111, 45, 100, 101, 102, 105, 110, 101] 4 4 (by decide)
  have t5 := hb [97, 115, 115, 105, 103, 110, 45, 116, 111, 45, 105, 109, 112, 111, 114, 116] 5 5 (by decide)
  have t6 := hb [98, 105, 103, 105, 110, 116] 6 6 (by decide)
  have t7 := hb [99, 97, 108, 108, 45, 105, 109, 112, 111, 114, 116, 45, 110, 97, 109, 101, 115, 112, 97, 99, 101] 7 7 (by decide)
  have t8 := hb [99, 108, 97, 115, 115, 45, 110, 97, 109, 101, 45, 119, 105, 108, 108, 45, 116, 104, 114, 111, 119] 8 8 (by decide)
  have t9 := hb [99, 111, 109, 109, 111, 110, 106, 115, 45, 118, 97, 114, 105, 97, 98, 108, 101, 45, 105, 110, 45, 101, 115, 109] 9 9 (by decide)
  have t10 := hb [99, 111, 110, 102, 117, 115, 105, 110, 103, 45, 116, 121, 112, 101, 115, 99, 114, 105, 112, 116, 45, 99, 97, 115, 116] 10 10 (by decide)
  have t11 := hb [100, 101, 108, 101, 116, 101, 45, 115, 117, 112, 101, 114, 45, 112, 114, 111, 112, 101, 114, 116, 121] 11 11 (by decide)
  have t12 := hb [100, 105, 114, 101, 99, 116, 45, 101, 118, 97, 108] 12 12 (by decide)
  have t13 := hb [100, 117, 112, 108, 105, 99, 97, 116, 101, 45, 99, 97, 115, 101] 13 13 (by decide)
  have t14 := hb [100, 117, 112, 108, 105, 99, 97, 116, 101, 45, 99, 108, 97, 115, 115, 45, 109, 101, 109, 98, 101, 114] 14 14 (by decide)
  have t15 := hb [100, 117, 112, 108, 105, 99, 97, 116, 101, 45, 111, 98, 106, 101, 99, 116, 45, 107, 101, 121] 15 15 (by decide)
  have t16 := hb [101, 109, 112, 116, 121, 45, 105, 109, 112, 111, 114, 116, 45, 109, 101, 116, 97] 16 16 (by decide)
  have t17 := hb [101, 113, 117, 97, 108, 115, 45, 110, 97, 110] 17 17 (by decide)
  have t18 := hb [101, 113, 117, 97, 108, 115, 45, 110, 101, 103, 97, 116, 105, 118, 101, 45, 122, 101, 114, 111] 18 18 (by decide)
  have t19 := hb [101, 113, 117, 97, 108, 115, 45, 110, 101, 119, 45, 111, 98, 106, 101, 99, 116] 19 19 (by decide)
  have t20 := hb [104, 116, 109, 108, 45, 99, 111, 109, 109, 101, 110, 116, 45, 105, 110, 45, 106, 115] 20 20 (by decide)
  have t21 := hb [105, 109, 112, 111, 115, 115, 105, 98, 108, 101, 45, 116, 121, 112, 101, 111, 102] 21 21 (by decide)
  have t22 := hb [105, 110, 100, 105, 114, 101, 99, 116, 45, 114, 101, 113, 117, 105, 114, 101] 22 22 (by decide)
  have t23 := hb [112, 114, 105, 118, 97, 116, 101, 45, 110, 97, 109, 101, 45, 119, 105, 108, 108, 45, 116, 104, 114, 111, 119] 23 23 (by decide)
  have t24 := hb [115, 101, 109, 105, 99, 111, 108, 111, 110, 45, 97, 102, 116, 101, 114, 45, 114, 101, 116, 117, 114, 110] 24 24 (by decide)
  have t25 := hb [115, 117, 115, 112, 105, 99, 105, 111, 117, 115, 45, 98, 111, 111, 108, 101, 97, 110, 45, 110, 111, 116] 25 25 (by decide)
  have t26 := hb [115, 117, 115, 112, 105, 99, 105, 111, 117, 115, 45, 100, 101, 102, 105, 110, 101] 26 26 (by decide)
  have t27 := hb [115, 117, 115, 112, 105, 99, 105, 111, 117, 115, 45, 108, 111, 103, 105, 99, 97, 108, 45, 111, 112, 101, 114, 97, 116, 111, 114] 27 27 (by decide)
  have t28 := hb [115, 117, 115, 112, 105, 99, 105, 111, 117, 115, 45, 110, 117, 108, 108, 105, 115, 104, 45, 99, 111, 97, 108, 101, 115, 99, 105, 110, 103] 28 28 (by decide)
  have t29 := hb [116, 104, 105, 115, 45, 105, 115, 45, 117, 110, 100, 101, 102, 105, 110, 101, 100, 45, 105, 110, 45, 101, 115, 109] 29 29 (by decide)
  have t30 := hb [117, 110, 115, 117, 112, 112, 111, 114, 116, 101, 100, 45, 100, 121, 110, 97, 109, 105, 99, 45, 105, 109, 112, 111, 114, 116] 30 30 (by decide)
  have t31 := hb [117, 110, 115, 117, 112, 112, 111, 114, 116, 101, 100, 45, 106, 115, 120, 45, 99, 111, 109, 109, 101, 110, 116] 31 31 (by decide)
  have t32 := hb [117, 110, 115, 117, 112, 112, 111, 114, 116, 101, 100, 45, 114, 101, 103, 101, 120, 112] 32 32 (by decide)
  have t33 := hb [117, 110, 115, 117, 112, 112, 111, 114, 116, 101, 100, 45, 114, 101, 113, 117, 105, 114, 101, 45, 99, 97, 108, 108] 33 33 (by decide)
  have t34 := hb [99, 115, 115, 45, 115, 121, 110, 116, 97, 120, 45, 101, 114, 114, 111, 114] 34 34 (by decide)
  have t35 := hb [105, 110, 118, 97, 108, 105, 100, 45, 64, 99, 104, 97, 114, 115, 101, 116] 35 35 (by decide)
  have t36 := hb [105, 110, 118, 97, 108, 105, 100, 45, 64, 105, 109, 112, 111, 114, 116] 36 36 (by decide)
  have t37 := hb [105, 110, 118, 97, 108, 105, 100, 45, 64, 108, 97, 121, 101, 114] 37 37 (by decide)
  have t38 := hb [105, 110, 118, 97, 108, 105, 100, 45, 99, 97, 108, 99] 38 38 (by decide)
  have t39 := hb [106, 115, 45, 99, 111, 109, 109, 101, 110, 116, 45, 105, 110, 45, 99, 115, 115] 39 39 (by decide)
  have t40 := hb [117, 110, 100, 101, 102, 105, 110, 101, 100, 45, 99, 111, 109, 112, 111, 115, 101, 115, 45, 102, 114, 111, 109] 40 40 (by decide)
  have t41 := hb [117, 110, 115, 117, 112, 112, 111, 114, 116, 101, 100, 45, 64, 99, 104, 97, 114, 115, 101, 116] 41 41 (by decide)
  have t42 := hb [117, 110, 115, 117, 112, 112, 111, 114, 116, 101, 100, 45, 64, 110, 97, 109, 101, 115, 112, 97, 99, 101] 42 42 (by decide)
  have t43 := hb [117, 110, 115, 117, 112, 112, 111, 114, 116, 101, 100, 45, 99, 115, 115, 45, 112, 114, 111, 112, 101, 114, 116, 121] 43 43 (by decide)
  have t44 := hb [117, 110, 115, 117, 112, 112, 111, 114, 116, 101, 100, 45, 99, 115, 115, 45, 110, 101, 115, 116, 105, 110, 103] 44 44 (by decide)
  have t45 := hb [97, 109, 98, 105, 103, 117, 111, 117, 115, 45, 114, 101, 101, 120, 112, 111, 114, 116] 45 45 (by decide)
  have t46 := hb [100, 105, 102, 102, 101, 114, 101, 110, 116, 45, 112, 97, 116, 104, 45, 99, 97, 115, 101] 46 46 (by decide)
  have t47 := hb [101, 109, 112, 116, 121, 45, 103, 108, 111, 98] 47 47 (by decide)
  have t48 := hb [105, 103, 110, 111, 114, 101, 100, 45, 98, 97, 114, 101, 45, 105, 109, 112, 111, 114, 116] 48 48 (by decide)
  have t49 := hb [105, 103, 110, 111, 114, 101, 100, 45, 100, 121, 110, 97, 109, 105, 99, 45, 105, 109, 112, 111, 114, 116] 49 49 (by decide)
  have t50 := hb [105, 109, 112, 111, 114, 116, 45, 105, 115, 45, 117, 110, 100, 101, 102, 105, 110, 101, 100] 50 50 (by decide)
  have t51 := hb [114, 101, 113, 117, 105, 114, 101, 45, 114, 101, 115, 111, 108, 118, 101, 45, 110, 111, 116, 45, 101, 120, 116, 101, 114, 110, 97, 108] 51 51 (by decide)
  have t52 := hb [105, 110, 118, 97, 108, 105, 100, 45, 115, 111, 117, 114, 99, 101, 45, 109, 97, 112, 112, 105, 110, 103, 115] 52 52 (by decide)
  have t53 := hb [109, 105, 115, 115, 105, 110, 103, 45, 115, 111, 117, 114, 99, 101, 45, 109, 97, 112] 53 53 (by decide)
  have t54 := hb [117, 110, 115, 117, 112, 112, 111, 114, 116, 101, 100, 45, 115, 111, 117, 114, 99, 101, 45, 109, 97, 112, 45, 99, 111, 109, 109, 101, 110, 116] 54 54 (by decide)
  have t55 := hb [112, 97, 99, 107, 97, 103, 101, 46, 106, 115, 111, 110] 55 61 (by decide)
  have t56 := hb [116, 115, 99, 111, 110, 102, 105, 103, 46, 106, 115, 111, 110] 62 70 (by decide)
  clear hb
  go_enter Try.func20, Try.ntmps20
  go_wp2_with fail
  go_end0
  exact ⟨rfl, 0, _, by decide, HO.out, fun c => ⟨fun h => (by cases h), fun h => absurd h (HN.out c)⟩, World.grownBy.refl _ _⟩
theorem ids20 (s : ByteArray) (b : Nat) (w : World) (ho : Om w b 0 (.map [])) : Calls Try.prog 20 #[.string s, .int .i8 3, .map (some b)] w (Ids s b w) := by
  by_cases h : ∀ a ∈ arms, s.toList ≠ a.1
  · exact arm0 s b w ho h
  · simp only [Classical.not_forall, ne_eq, Classical.not_not] at h
    obtain ⟨a, ha, e⟩ := h
    simp only [arms, List.mem_cons, List.not_mem_nil, or_false] at ha
    rcases ha with rfl | rfl | rfl | rfl | rfl | rfl | rfl | rfl | rfl | rfl | rfl | rfl | rfl | rfl | rfl | rfl | rfl | rfl | rfl | rfl | rfl | rfl | rfl | rfl | rfl | rfl | rfl | rfl | rfl | rfl | rfl | rfl | rfl | rfl | rfl | rfl | rfl | rfl | rfl | rfl | rfl | rfl | rfl | rfl | rfl | rfl | rfl | rfl | rfl | rfl | rfl | rfl | rfl | rfl | rfl | rfl
    · exact arm1 s b w ho e
    · exact arm2 s b w ho e
    · exact arm3 s b w ho e
    · exact arm4 s b w ho e
    · exact arm5 s b w ho e
    · exact arm6 s b w ho e
    · exact arm7 s b w ho e
    · exact arm8 s b w ho e
    · exact arm9 s b w ho e
    · exact arm10 s b w ho e
    · exact arm11 s b w ho e
    · exact arm12 s b w ho e
    · exact arm13 s b w ho e
    · exact arm14 s b w ho e
    · exact arm15 s b w ho e
    · exact arm16 s b w ho e
    · exact arm17 s b w ho e
    · exact arm18 s b w ho e
    · exact arm19 s b w ho e
    · exact arm20 s b w ho e
    · exact arm21 s b w ho e
    · exact arm22 s b w ho e
    · exact arm23 s b w ho e
    · exact arm24 s b w ho e
    · exact arm25 s b w ho e
    · exact arm26 s b w ho e
    · exact arm27 s b w ho e
    · exact arm28 s b w ho e
    · exact arm29 s b w ho e
    · exact arm30 s b w ho e
    · exact arm31 s b w ho e
    · exact arm32 s b w ho e
    · exact arm33 s b w ho e
    · exact arm34 s b w ho e
    · exact arm35 s b w ho e
    · exact arm36 s b w ho e
    · exact arm37 s b w ho e
    · exact arm38 s b w ho e
    · exact arm39 s b w ho e
    · exact arm40 s b w ho e
    · exact arm41 s b w ho e
    · exact arm42 s b w ho e
    · exact arm43 s b w ho e
    · exact arm44 s b w ho e
    · exact arm45 s b w ho e
    · exact arm46 s b w ho e
    · exact arm47 s b w ho e
    · exact arm48 s b w ho e
    · exact arm49 s b w ho e
    · exact arm50 s b w ho e
    · exact arm51 s b w ho e
    · exact arm52 s b w ho e
    · exact arm53 s b w ho e
    · exact arm54 s b w ho e
    · exact arm55 s b w ho e
    · exact arm56 s b w ho e
/-- StringToMaximumMsgID's contract. -/
theorem max18 (s : ByteArray) (w : World) : Calls Try.prog 18 #[.string s] w (Mxd s w) := max_any ids20 s w
end Go.Proofs.Ytmjfdhgfpgeboad.Idp
