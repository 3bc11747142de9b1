/-
  Proved: arms 41 to 50 of the switch in StringToMsgIDs: at its name an arm sets just its numbers in the map. Conditions: those that each theorem
  names as its hypotheses, and no others.
-/
import Derived.Test.YtmjfdhgfpgeboadIdp
import Derived.Test.YtmjfdhgfpgeboadIdk
namespace Go.Proofs.Ytmjfdhgfpgeboad.Idp
open Go.RowKit Go.Maps Go.WideMaps
set_option linter.unusedVariables false
set_option linter.unusedSimpArgs false
set_option maxRecDepth 1000000 in
set_option maxHeartbeats 40000000 in
theorem arm41 (s : ByteArray) (b : Nat) (w : World) (ho : Om w b 0 (.map [])) (hs : s.toList = [117, 110, 115, 117, 112, 112, 111, 114, 116, 101, 100, 45, 64, 99, 104, 97, 114, 115, 101, 116]) : Calls Try.prog 20 #[.string s, .int .i8 3, .map (some b)] w (Ids s b w) := by
  have HK := Lib.hid (Ks_arm (lo := 41) (hi := 41) hs (by decide) (by decide))
  have HO := Lib.hid ho
  clear ho
  have t1 : (s.toList == [97, 115, 115, 101, 114, 116, 45, 116, 111, 45, 119, 105, 116, 104]) = false := by rw [hs]; decide
  have t2 : (s.toList == [97, 115, 115, 101, 114, 116, 45, 116, 121, 112, 101, 45, 106, 115, 111, 110]) = false := by rw [hs]; decide
  have t3 : (s.toList == [97, 115, 115, 105, 103, 110, 45, 116, 111, 45, 99, 111, 110, 115, 116, 97, 110, 116]) = false := by rw [hs]; decide
  have t4 : (s.toList == [97, 115, 115, 105, 103, 110, 45, 116, 111, 45, 100, 101, 102, 105, 110, 101]) = false := by rw [hs]; decide
  have t5 : (s.toList == [97, 115, 115, 105, 103, 110, 45, 116, 111, 45, 105, 109, 112, 111, 114, 116]) = false := by rw [hs]; decide
  have t6 : (s.toList == [98, 105, 103, 105, 110, 116]) = false := by rw [hs]; decide
  have t7 : (s.toList == [99, 97, 108, 108, 45, 105, 109, 112, 111, 114, 116, 45, 110, 97, 109, 101, 115, 112, 97, 99, 101]) = false := by rw [hs]; decide
  have t8 : (s.toList == [99, 108, 97, 115, 115, 45, 110, 97, 109, 101, 45, 119, 105, 108, 108, 45, 116, 104, 114, 111, 119]) = false := by rw [hs]; decide
  have t9 : (s.toList == [99, 111, 109, 109, 111, 110, 106, 115, 45, 118, 97, 114, 105, 97, 98, 108, 101, 45, 105, 110, 45, 101, 115, 109]) = false := by rw [hs]; decide
  have t10 : (s.toList == [99, 111, 110, 102, 117, 115, 105, 110, 103, 45, 116, 121, 112, 101, 115, 99, 114, 105, 112, 116, 45, 99, 97, 115, 116]) = false := by rw [hs]; decide
  have t11 : (s.toList == [100, 101, 108, 101, 116, 101, 45, 115, 117, 112, 101, 114, 45, 112, 114, 111, 112, 101, 114, 116, 121]) = false := by rw [hs]; decide
  have t12 : (s.toList == [100, 105, 114, 101, 99, 116, 45, 101, 118, 97, 108]) = false := by rw [hs]; decide
  have t13 : (s.toList == [100, 117, 112, 108, 105, 99, 97, 116, 101, 45, 99, 97, 115, 101]) = false := by rw [hs]; decide
  have t14 : (s.toList == [100, 117, 112, 108, 105, 99, 97, 116, 101, 45, 99, 108, 97, 115, 115, 45, 109, 101, 109, 98, 101, 114]) = false := by rw [hs]; decide
  have t15 : (s.toList == [100, 117, 112, 108, 105, 99, 97, 116, 101, 45, 111, 98, 106, 101, 99, 116, 45, 107, 101, 121]) = false := by rw [hs]; decide
  have t16 : (s.toList == [101, 109, 112, 116, 121, 45, 105, 109, 112, 111, 114, 116, 45, 109, 101, 116, 97]) = false := by rw [hs]; decide
  have t17 : (s.toList == [101, 113, 117, 97, 108, 115, 45, 110, 97, 110]) = false := by rw [hs]; decide
  have t18 : (s.toList == [101, 113, 117, 97, 108, 115, 45, 110, 101, 103, 97, 116, 105, 118, 101, 45, 122, 101, 114, 111]) = false := by rw [hs]; decide
  have t19 : (s.toList == [101, 113, 117, 97, 108, 115, 45, 110, 101, 119, 45, 111, 98, 106, 101, 99, 116]) = false := by rw [hs]; decide
  have t20 : (s.toList == [104, 116, 109, 108, 45, 99, 111, 109, 109, 101, 110, 116, 45, 105, 110, 45, 106, 115]) = false := by rw [hs]; decide
  have t21 : (s.toList == [105, 109, 112, 111, 115, 115, 105, 98, 108, 101, 45, 116, 121, 112, 101, 111, 102]) = false := by rw [hs]; decide
  have t22 : (s.toList == [105, 110, 100, 105, 114, 101, 99, 116, 45, 114, 101, 113, 117, 105, 114, 101]) = false := by rw [hs]; decide
  have t23 : (s.toList == [112, 114, 105, 118, 97, 116, 101, 45, 110, 97, 109, 101, 45, 119, 105, 108, 108, 45, 116, 104, 114, 111, 119]) = false := by rw [hs]; decide
  have t24 : (s.toList == [115, 101, 109, 105, 99, 111, 108, 111, 110, 45, 97, 102, 116, 101, 114, 45, 114, 101, 116, 117, 114, 110]) = false := by rw [hs]; decide
  have t25 : (s.toList == [115, 117, 115, 112, 105, 99, 105, 111, 117, 115, 45, 98, 111, 111, 108, 101, 97, 110, 45, 110, 111, 116]) = false := by rw [hs]; decide
  have t26 : (s.toList == [115, 117, 115, 112, 105, 99, 105, 111, 117, 115, 45, 100, 101, 102, 105, 110, 101]) = false := by rw [hs]; decide
  have t27 : (s.toList == [115, 117, 115, 112, 105, 99, 105, 111, 117, 115, 45, 108, 111, 103, 105, 99, 97, 108, 45, 111, 112, 101, 114, 97, 116, 111, 114]) = false := by rw [hs]; decide
  have t28 : (s.toList == [115, 117, 115, 112, 105, 99, 105, 111, 117, 115, 45, 110, 117, 108, 108, 105, 115, 104, 45, 99, 111, 97, 108, 101, 115, 99, 105, 110, 103]) = false := by rw [hs]; decide
  have t29 : (s.toList == [116, 104, 105, 115, 45, 105, 115, 45, 117, 110, 100, 101, 102, 105, 110, 101, 100, 45, 105, 110, 45, 101, 115, 109]) = false := by rw [hs]; decide
  have t30 : (s.toList == [117, 110, 115, 117, 112, 112, 111, 114, 116, 101, 100, 45, 100, 121, 110, 97, 109, 105, 99, 45, 105, 109, 112, 111, 114, 116]) = false := by rw [hs]; decide
  have t31 : (s.toList == [117, 110, 115, 117, 112, 112, 111, 114, 116, 101, 100, 45, 106, 115, 120, 45, 99, 111, 109, 109, 101, 110, 116]) = false := by rw [hs]; decide
  have t32 : (s.toList == [117, 110, 115, 117, 112, 112, 111, 114, 116, 101, 100, 45, 114, 101, 103, 101, 120, 112]) = false := by rw [hs]; decide
  have t33 : (s.toList == [117, 110, 115, 117, 112, 112, 111, 114, 116, 101, 100, 45, 114, 101, 113, 117, 105, 114, 101, 45, 99, 97, 108, 108]) = false := by rw [hs]; decide
  have t34 : (s.toList == [99, 115, 115, 45, 115, 121, 110, 116, 97, 120, 45, 101, 114, 114, 111, 114]) = false := by rw [hs]; decide
  have t35 : (s.toList == [105, 110, 118, 97, 108, 105, 100, 45, 64, 99, 104, 97, 114, 115, 101, 116]) = false := by rw [hs]; decide
  have t36 : (s.toList == [105, 110, 118, 97, 108, 105, 100, 45, 64, 105, 109, 112, 111, 114, 116]) = false := by rw [hs]; decide
  have t37 : (s.toList == [105, 110, 118, 97, 108, 105, 100, 45, 64, 108, 97, 121, 101, 114]) = false := by rw [hs]; decide
  have t38 : (s.toList == [105, 110, 118, 97, 108, 105, 100, 45, 99, 97, 108, 99]) = false := by rw [hs]; decide
  have t39 : (s.toList == [106, 115, 45, 99, 111, 109, 109, 101, 110, 116, 45, 105, 110, 45, 99, 115, 115]) = false := by rw [hs]; decide
  have t40 : (s.toList == [117, 110, 100, 101, 102, 105, 110, 101, 100, 45, 99, 111, 109, 112, 111, 115, 101, 115, 45, 102, 114, 111, 109]) = false := by rw [hs]; decide
  have t41 : (s.toList == [117, 110, 115, 117, 112, 112, 111, 114, 116, 101, 100, 45, 64, 99, 104, 97, 114, 115, 101, 116]) = true := by rw [hs]; exact beq_self_eq_true _
  clear hs
  go_enter Try.func20, Try.ntmps20
  go_wp2_with (first
    | (at_mapUpdate; refine wpList_mapUpdate_own _ rfl _ _ _ 69 rfl 5 72 lawM Try.underlying69 RE b 0 _ rfl HO.out (by decide) _ _ _ rfl rfl (keyOf_int_mk Try.underlying5 (by decide)) _ [] (plainElem_int Try.underlying72 (by decide)) ?_; intro w1 ho1 hg1; go_frame)
    | fail)
  go_end0
  exact ⟨rfl, 1, _, by decide, ho1, fun c => (one_key 41 c _).trans (HK.out c).symm, hg1⟩
set_option maxRecDepth 1000000 in
set_option maxHeartbeats 40000000 in
theorem arm42 (s : ByteArray) (b : Nat) (w : World) (ho : Om w b 0 (.map [])) (hs : s.toList = [117, 110, 115, 117, 112, 112, 111, 114, 116, 101, 100, 45, 64, 110, 97, 109, 101, 115, 112, 97, 99, 101]) : Calls Try.prog 20 #[.string s, .int .i8 3, .map (some b)] w (Ids s b w) := by
  have HK := Lib.hid (Ks_arm (lo := 42) (hi := 42) hs (by decide) (by decide))
  have HO := Lib.hid ho
  clear ho
  have t1 : (s.toList == [97, 115, 115, 101, 114, 116, 45, 116, 111, 45, 119, 105, 116, 104]) = false := by rw [hs]; decide
  have t2 : (s.toList == [97, 115, 115, 101, 114, 116, 45, 116, 121, 112, 101, 45, 106, 115, 111, 110]) = false := by rw [hs]; decide
  have t3 : (s.toList == [97, 115, 115, 105, 103, 110, 45, 116, 111, 45, 99, 111, 110, 115, 116, 97, 110, 116]) = false := by rw [hs]; decide
  have t4 : (s.toList == [97, 115, 115, 105, 103, 110, 45, 116, 111, 45, 100, 101, 102, 105, 110, 101]) = false := by rw [hs]; decide
  have t5 : (s.toList == [97, 115, 115, 105, 103, 110, 45, 116, 111, 45, 105, 109, 112, 111, 114, 116]) = false := by rw [hs]; decide
  have t6 : (s.toList == [98, 105, 103, 105, 110, 116]) = false := by rw [hs]; decide
  have t7 : (s.toList == [99, 97, 108, 108, 45, 105, 109, 112, 111, 114, 116, 45, 110, 97, 109, 101, 115, 112, 97, 99, 101]) = false := by rw [hs]; decide
  have t8 : (s.toList == [99, 108, 97, 115, 115, 45, 110, 97, 109, 101, 45, 119, 105, 108, 108, 45, 116, 104, 114, 111, 119]) = false := by rw [hs]; decide
  have t9 : (s.toList == [99, 111, 109, 109, 111, 110, 106, 115, 45, 118, 97, 114, 105, 97, 98, 108, 101, 45, 105, 110, 45, 101, 115, 109]) = false := by rw [hs]; decide
  have t10 : (s.toList == [99, 111, 110, 102, 117, 115, 105, 110, 103, 45, 116, 121, 112, 101, 115, 99, 114, 105, 112, 116, 45, 99, 97, 115, 116]) = false := by rw [hs]; decide
  have t11 : (s.toList == [100, 101, 108, 101, 116, 101, 45, 115, 117, 112, 101, 114, 45, 112, 114, 111, 112, 101, 114, 116, 121]) = false := by rw [hs]; decide
  have t12 : (s.toList == [100, 105, 114, 101, 99, 116, 45, 101, 118, 97, 108]) = false := by rw [hs]; decide
  have t13 : (s.toList == [100, 117, 112, 108, 105, 99, 97, 116, 101, 45, 99, 97, 115, 101]) = false := by rw [hs]; decide
  have t14 : (s.toList == [100, 117, 112, 108, 105, 99, 97, 116, 101, 45, 99, 108, 97, 115, 115, 45, 109, 101, 109, 98, 101, 114]) = false := by rw [hs]; decide
  have t15 : (s.toList == [100, 117, 112, 108, 105, 99, 97, 116, 101, 45, 111, 98, 106, 101, 99, 116, 45, 107, 101, 121]) = false := by rw [hs]; decide
  have t16 : (s.toList == [101, 109, 112, 116, 121, 45, 105, 109, 112, 111, 114, 116, 45, 109, 101, 116, 97]) = false := by rw [hs]; decide
  have t17 : (s.toList == [101, 113, 117, 97, 108, 115, 45, 110, 97, 110]) = false := by rw [hs]; decide
  have t18 : (s.toList == [101, 113, 117, 97, 108, 115, 45, 110, 101, 103, 97, 116, 105, 118, 101, 45, 122, 101, 114, 111]) = false := by rw [hs]; decide
  have t19 : (s.toList == [101, 113, 117, 97, 108, 115, 45, 110, 101, 119, 45, 111, 98, 106, 101, 99, 116]) = false := by rw [hs]; decide
  have t20 : (s.toList == [104, 116, 109, 108, 45, 99, 111, 109, 109, 101, 110, 116, 45, 105, 110, 45, 106, 115]) = false := by rw [hs]; decide
  have t21 : (s.toList == [105, 109, 112, 111, 115, 115, 105, 98, 108, 101, 45, 116, 121, 112, 101, 111, 102]) = false := by rw [hs]; decide
  have t22 : (s.toList == [105, 110, 100, 105, 114, 101, 99, 116, 45, 114, 101, 113, 117, 105, 114, 101]) = false := by rw [hs]; decide
  have t23 : (s.toList == [112, 114, 105, 118, 97, 116, 101, 45, 110, 97, 109, 101, 45, 119, 105, 108, 108, 45, 116, 104, 114, 111, 119]) = false := by rw [hs]; decide
  have t24 : (s.toList == [115, 101, 109, 105, 99, 111, 108, 111, 110, 45, 97, 102, 116, 101, 114, 45, 114, 101, 116, 117, 114, 110]) = false := by rw [hs]; decide
  have t25 : (s.toList == [115, 117, 115, 112, 105, 99, 105, 111, 117, 115, 45, 98, 111, 111, 108, 101, 97, 110, 45, 110, 111, 116]) = false := by rw [hs]; decide
  have t26 : (s.toList == [115, 117, 115, 112, 105, 99, 105, 111, 117, 115, 45, 100, 101, 102, 105, 110, 101]) = false := by rw [hs]; decide
  have t27 : (s.toList == [115, 117, 115, 112, 105, 99, 105, 111, 117, 115, 45, 108, 111, 103, 105, 99, 97, 108, 45, 111, 112, 101, 114, 97, 116, 111, 114]) = false := by rw [hs]; decide
  have t28 : (s.toList == [115, 117, 115, 112, 105, 99, 105, 111, 117, 115, 45, 110, 117, 108, 108, 105, 115, 104, 45, 99, 111, 97, 108, 101, 115, 99, 105, 110, 103]) = false := by rw [hs]; decide
  have t29 : (s.toList == [116, 104, 105, 115, 45, 105, 115, 45, 117, 110, 100, 101, 102, 105, 110, 101, 100, 45, 105, 110, 45, 101, 115, 109]) = false := by rw [hs]; decide
  have t30 : (s.toList == [117, 110, 115, 117, 112, 112, 111, 114, 116, 101, 100, 45, 100, 121, 110, 97, 109, 105, 99, 45, 105, 109, 112, 111, 114, 116]) = false := by rw [hs]; decide
  have t31 : (s.toList == [117, 110, 115, 117, 112, 112, 111, 114, 116, 101, 100, 45, 106, 115, 120, 45, 99, 111, 109, 109, 101, 110, 116]) = false := by rw [hs]; decide
  have t32 : (s.toList == [117, 110, 115, 117, 112, 112, 111, 114, 116, 101, 100, 45, 114, 101, 103, 101, 120, 112]) = false := by rw [hs]; decide
  have t33 : (s.toList == [117, 110, 115, 117, 112, 112, 111, 114, 116, 101, 100, 45, 114, 101, 113, 117, 105, 114, 101, 45, 99, 97, 108, 108]) = false := by rw [hs]; decide
  have t34 : (s.toList == [99, 115, 115, 45, 115, 121, 110, 116, 97, 120, 45, 101, 114, 114, 111, 114]) = false := by rw [hs]; decide
  have t35 : (s.toList == [105, 110, 118, 97, 108, 105, 100, 45, 64, 99, 104, 97, 114, 115, 101, 116]) = false := by rw [hs]; decide
  have t36 : (s.toList == [105, 110, 118, 97, 108, 105, 100, 45, 64, 105, 109, 112, 111, 114, 116]) = false := by rw [hs]; decide
  have t37 : (s.toList == [105, 110, 118, 97, 108, 105, 100, 45, 64, 108, 97, 121, 101, 114]) = false := by rw [hs]; decide
  have t38 : (s.toList == [105, 110, 118, 97, 108, 105, 100, 45, 99, 97, 108, 99]) = false := by rw [hs]; decide
  have t39 : (s.toList == [106, 115, 45, 99, 111, 109, 109, 101, 110, 116, 45, 105, 110, 45, 99, 115, 115]) = false := by rw [hs]; decide
  have t40 : (s.toList == [117, 110, 100, 101, 102, 105, 110, 101, 100, 45, 99, 111, 109, 112, 111, 115, 101, 115, 45, 102, 114, 111, 109]) = false := by rw [hs]; decide
  have t41 : (s.toList == [117, 110, 115, 117, 112, 112, 111, 114, 116, 101, 100, 45, 64, 99, 104, 97, 114, 115, 101, 116]) = false := by rw [hs]; decide
  have t42 : (s.toList == [117, 110, 115, 117, 112, 112, 111, 114, 116, 101, 100, 45, 64, 110, 97, 109, 101, 115, 112, 97, 99, 101]) = true := by rw [hs]; exact beq_self_eq_true _
  clear hs
  go_enter Try.func20, Try.ntmps20
  go_wp2_with (first
    | (at_mapUpdate; refine wpList_mapUpdate_own _ rfl _ _ _ 69 rfl 5 72 lawM Try.underlying69 RE b 0 _ rfl HO.out (by decide) _ _ _ rfl rfl (keyOf_int_mk Try.underlying5 (by decide)) _ [] (plainElem_int Try.underlying72 (by decide)) ?_; intro w1 ho1 hg1; go_frame)
    | fail)
  go_end0
  exact ⟨rfl, 1, _, by decide, ho1, fun c => (one_key 42 c _).trans (HK.out c).symm, hg1⟩
set_option maxRecDepth 1000000 in
set_option maxHeartbeats 40000000 in
theorem arm43 (s : ByteArray) (b : Nat) (w : World) (ho : Om w b 0 (.map [])) (hs : s.toList = [117, 110, 115, 117, 112, 112, 111, 114, 116, 101, 100, 45, 99, 115, 115, 45, 112, 114, 111, 112, 101, 114, 116, 121]) : Calls Try.prog 20 #[.string s, .int .i8 3, .map (some b)] w (Ids s b w) := by
  have HK := Lib.hid (Ks_arm (lo := 43) (hi := 43) hs (by decide) (by decide))
  have HO := Lib.hid ho
  clear ho
  have t1 : (s.toList == [97, 115, 115, 101, 114, 116, 45, 116, 111, 45, 119, 105, 116, 104]) = false := by rw [hs]; decide
  have t2 : (s.toList == [97, 115, 115, 101, 114, 116, 45, 116, 121, 112, 101, 45, 106, 115, 111, 110]) = false := by rw [hs]; decide
  have t3 : (s.toList == [97, 115, 115, 105, 103, 110, 45, 116, 111, 45, 99, 111, 110, 115, 116, 97, 110, 116]) = false := by rw [hs]; decide
  have t4 : (s.toList == [97, 115, 115, 105, 103, 110, 45, 116, 111, 45, 100, 101, 102, 105, 110, 101]) = false := by rw [hs]; decide
  have t5 : (s.toList == [97, 115, 115, 105, 103, 110, 45, 116, 111, 45, 105, 109, 112, 111, 114, 116]) = false := by rw [hs]; decide
  have t6 : (s.toList == [98, 105, 103, 105, 110, 116]) = false := by rw [hs]; decide
  have t7 : (s.toList == [99, 97, 108, 108, 45, 105, 109, 112, 111, 114, 116, 45, 110, 97, 109, 101, 115, 112, 97, 99, 101]) = false := by rw [hs]; decide
  have t8 : (s.toList == [99, 108, 97, 115, 115, 45, 110, 97, 109, 101, 45, 119, 105, 108, 108, 45, 116, 104, 114, 111, 119]) = false := by rw [hs]; decide
  have t9 : (s.toList == [99, 111, 109, 109, 111, 110, 106, 115, 45, 118, 97, 114, 105, 97, 98, 108, 101, 45, 105, 110, 45, 101, 115, 109]) = false := by rw [hs]; decide
  have t10 : (s.toList == [99, 111, 110, 102, 117, 115, 105, 110, 103, 45, 116, 121, 112, 101, 115, 99, 114, 105, 112, 116, 45, 99, 97, 115, 116]) = false := by rw [hs]; decide
  have t11 : (s.toList == [100, 101, 108, 101, 116, 101, 45, 115, 117, 112, 101, 114, 45, 112, 114, 111, 112, 101, 114, 116, 121]) = false := by rw [hs]; decide
  have t12 : (s.toList == [100, 105, 114, 101, 99, 116, 45, 101, 118, 97, 108]) = false := by rw [hs]; decide
  have t13 : (s.toList == [100, 117, 112, 108, 105, 99, 97, 116, 101, 45, 99, 97, 115, 101]) = false := by rw [hs]; decide
  have t14 : (s.toList == [100, 117, 112, 108, 105, 99, 97, 116, 101, 45, 99, 108, 97, 115, 115, 45, 109, 101, 109, 98, 101, 114]) = false := by rw [hs]; decide
  have t15 : (s.toList == [100, 117, 112, 108, 105, 99, 97, 116, 101, 45, 111, 98, 106, 101, 99, 116, 45, 107, 101, 121]) = false := by rw [hs]; decide
  have t16 : (s.toList == [101, 109, 112, 116, 121, 45, 105, 109, 112, 111, 114, 116, 45, 109, 101, 116, 97]) = false := by rw [hs]; decide
  have t17 : (s.toList == [101, 113, 117, 97, 108, 115, 45, 110, 97, 110]) = false := by rw [hs]; decide
  have t18 : (s.toList == [101, 113, 117, 97, 108, 115, 45, 110, 101, 103, 97, 116, 105, 118, 101, 45, 122, 101, 114, 111]) = false := by rw [hs]; decide
  have t19 : (s.toList == [101, 113, 117, 97, 108, 115, 45, 110, 101, 119, 45, 111, 98, 106, 101, 99, 116]) = false := by rw [hs]; decide
  have t20 : (s.toList == [104, 116, 109, 108, 45, 99, 111, 109, 109, 101, 110, 116, 45, 105, 110, 45, 106, 115]) = false := by rw [hs]; decide
  have t21 : (s.toList == [105, 109, 112, 111, 115, 115, 105, 98, 108, 101, 45, 116, 121, 112, 101, 111, 102]) = false := by rw [hs]; decide
  have t22 : (s.toList == [105, 110, 100, 105, 114, 101, 99, 116, 45, 114, 101, 113, 117, 105, 114, 101]) = false := by rw [hs]; decide
  have t23 : (s.toList == [112, 114, 105, 118, 97, 116, 101, 45, 110, 97, 109, 101, 45, 119, 105, 108, 108, 45, 116, 104, 114, 111, 119]) = false := by rw [hs]; decide
  have t24 : (s.toList == [115, 101, 109, 105, 99, 111, 108, 111, 110, 45, 97, 102, 116, 101, 114, 45, 114, 101, 116, 117, 114, 110]) = false := by rw [hs]; decide
  have t25 : (s.toList == [115, 117, 115, 112, 105, 99, 105, 111, 117, 115, 45, 98, 111, 111, 108, 101, 97, 110, 45, 110, 111, 116]) = false := by rw [hs]; decide
  have t26 : (s.toList == [115, 117, 115, 112, 105, 99, 105, 111, 117, 115, 45, 100, 101, 102, 105, 110, 101]) = false := by rw [hs]; decide
  have t27 : (s.toList == [115, 117, 115, 112, 105, 99, 105, 111, 117, 115, 45, 108, 111, 103, 105, 99, 97, 108, 45, 111, 112, 101, 114, 97, 116, 111, 114]) = false := by rw [hs]; decide
  have t28 : (s.toList == [115, 117, 115, 112, 105, 99, 105, 111, 117, 115, 45, 110, 117, 108, 108, 105, 115, 104, 45, 99, 111, 97, 108, 101, 115, 99, 105, 110, 103]) = false := by rw [hs]; decide
  have t29 : (s.toList == [116, 104, 105, 115, 45, 105, 115, 45, 117, 110, 100, 101, 102, 105, 110, 101, 100, 45, 105, 110, 45, 101, 115, 109]) = false := by rw [hs]; decide
  have t30 : (s.toList == [117, 110, 115, 117, 112, 112, 111, 114, 116, 101, 100, 45, 100, 121, 110, 97, 109, 105, 99, 45, 105, 109, 112, 111, 114, 116]) = false := by rw [hs]; decide
  have t31 : (s.toList == [117, 110, 115, 117, 112, 112, 111, 114, 116, 101, 100, 45, 106, 115, 120, 45, 99, 111, 109, 109, 101, 110, 116]) = false := by rw [hs]; decide
  have t32 : (s.toList == [117, 110, 115, 117, 112, 112, 111, 114, 116, 101, 100, 45, 114, 101, 103, 101, 120, 112]) = false := by rw [hs]; decide
  have t33 : (s.toList == [117, 110, 115, 117, 112, 112, 111, 114, 116, 101, 100, 45, 114, 101, 113, 117, 105, 114, 101, 45, 99, 97, 108, 108]) = false := by rw [hs]; decide
  have t34 : (s.toList == [99, 115, 115, 45, 115, 121, 110, 116, 97, 120, 45, 101, 114, 114, 111, 114]) = false := by rw [hs]; decide
  have t35 : (s.toList == [105, 110, 118, 97, 108, 105, 100, 45, 64, 99, 104, 97, 114, 115, 101, 116]) = false := by rw [hs]; decide
  have t36 : (s.toList == [105, 110, 118, 97, 108, 105, 100, 45, 64, 105, 109, 112, 111, 114, 116]) = false := by rw [hs]; decide
  have t37 : (s.toList == [105, 110, 118, 97, 108, 105, 100, 45, 64, 108, 97, 121, 101, 114]) = false := by rw [hs]; decide
  have t38 : (s.toList == [105, 110, 118, 97, 108, 105, 100, 45, 99, 97, 108, 99]) = false := by rw [hs]; decide
  have t39 : (s.toList == [106, 115, 45, 99, 111, 109, 109, 101, 110, 116, 45, 105, 110, 45, 99, 115, 115]) = false := by rw [hs]; decide
  have t40 : (s.toList == [117, 110, 100, 101, 102, 105, 110, 101, 100, 45, 99, 111, 109, 112, 111, 115, 101, 115, 45, 102, 114, 111, 109]) = false := by rw [hs]; decide
  have t41 : (s.toList == [117, 110, 115, 117, 112, 112, 111, 114, 116, 101, 100, 45, 64, 99, 104, 97, 114, 115, 101, 116]) = false := by rw [hs]; decide
  have t42 : (s.toList == [117, 110, 115, 117, 112, 112, 111, 114, 116, 101, 100, 45, 64, 110, 97, 109, 101, 115, 112, 97, 99, 101]) = false := by rw [hs]; decide
  have t43 : (s.toList == [117, 110, 115, 117, 112, 112, 111, 114, 116, 101, 100, 45, 99, 115, 115, 45, 112, 114, 111, 112, 101, 114, 116, 121]) = true := by rw [hs]; exact beq_self_eq_true _
  clear hs
  go_enter Try.func20, Try.ntmps20
  go_wp2_with (first
    | (at_mapUpdate; refine wpList_mapUpdate_own _ rfl _ _ _ 69 rfl 5 72 lawM Try.underlying69 RE b 0 _ rfl HO.out (by decide) _ _ _ rfl rfl (keyOf_int_mk Try.underlying5 (by decide)) _ [] (plainElem_int Try.underlying72 (by decide)) ?_; intro w1 ho1 hg1; go_frame)
    | fail)
  go_end0
  exact ⟨rfl, 1, _, by decide, ho1, fun c => (one_key 43 c _).trans (HK.out c).symm, hg1⟩
set_option maxRecDepth 1000000 in
set_option maxHeartbeats 40000000 in
theorem arm44 (s : ByteArray) (b : Nat) (w : World) (ho : Om w b 0 (.map [])) (hs : s.toList = [117, 110, 115, 117, 112, 112, 111, 114, 116, 101, 100, 45, 99, 115, 115, 45, 110, 101, 115, 116, 105, 110, 103]) : Calls Try.prog 20 #[.string s, .int .i8 3, .map (some b)] w (Ids s b w) := by
  have HK := Lib.hid (Ks_arm (lo := 44) (hi := 44) hs (by decide) (by decide))
  have HO := Lib.hid ho
  clear ho
  have t1 : (s.toList == [97, 115, 115, 101, 114, 116, 45, 116, 111, 45, 119, 105, 116, 104]) = false := by rw [hs]; decide
  have t2 : (s.toList == [97, 115, 115, 101, 114, 116, 45, 116, 121, 112, 101, 45, 106, 115, 111, 110]) = false := by rw [hs]; decide
  have t3 : (s.toList == [97, 115, 115, 105, 103, 110, 45, 116, 111, 45, 99, 111, 110, 115, 116, 97, 110, 116]) = false := by rw [hs]; decide
  have t4 : (s.toList == [97, 115, 115, 105, 103, 110, 45, 116, 111, 45, 100, 101, 102, 105, 110, 101]) = false := by rw [hs]; decide
  have t5 : (s.toList == [97, 115, 115, 105, 103, 110, 45, 116, 111, 45, 105, 109, 112, 111, 114, 116]) = false := by rw [hs]; decide
  have t6 : (s.toList == [98, 105, 103, 105, 110, 116]) = false := by rw [hs]; decide
  have t7 : (s.toList == [99, 97, 108, 108, 45, 105, 109, 112, 111, 114, 116, 45, 110, 97, 109, 101, 115, 112, 97, 99, 101]) = false := by rw [hs]; decide
  have t8 : (s.toList == [99, 108, 97, 115, 115, 45, 110, 97, 109, 101, 45, 119, 105, 108, 108, 45, 116, 104, 114, 111, 119]) = false := by rw [hs]; decide
  have t9 : (s.toList == [99, 111, 109, 109, 111, 110, 106, 115, 45, 118, 97, 114, 105, 97, 98, 108, 101, 45, 105, 110, 45, 101, 115, 109]) = false := by rw [hs]; decide
  have t10 : (s.toList == [99, 111, 110, 102, 117, 115, 105, 110, 103, 45, 116, 121, 112, 101, 115, 99, 114, 105, 112, 116, 45, 99, 97, 115, 116]) = false := by rw [hs]; decide
  have t11 : (s.toList == [100, 101, 108, 101, 116, 101, 45, 115, 117, 112, 101, 114, 45, 112, 114, 111, 112, 101, 114, 116, 121]) = false := by rw [hs]; decide
  have t12 : (s.toList == [100, 105, 114, 101, 99, 116, 45, 101, 118, 97, 108]) = false := by rw [hs]; decide
  have t13 : (s.toList == [100, 117, 112, 108, 105, 99, 97, 116, 101, 45, 99, 97, 115, 101]) = false := by rw [hs]; decide
  have t14 : (s.toList == [100, 117, 112, 108, 105, 99, 97, 116, 101, 45, 99, 108, 97, 115, 115, 45, 109, 101, 109, 98, 101, 114]) = false := by rw [hs]; decide
  have t15 : (s.toList == [100, 117, 112, 108, 105, 99, 97, 116, 101, 45, 111, 98, 106, 101, 99, 116, 45, 107, 101, 121]) = false := by rw [hs]; decide
  have t16 : (s.toList == [101, 109, 112, 116, 121, 45, 105, 109, 112, 111, 114, 116, 45, 109, 101, 116, 97]) = false := by rw [hs]; decide
  have t17 : (s.toList == [101, 113, 117, 97, 108, 115, 45, 110, 97, 110]) = false := by rw [hs]; decide
  have t18 : (s.toList == [101, 113, 117, 97, 108, 115, 45, 110, 101, 103, 97, 116, 105, 118, 101, 45, 122, 101, 114, 111]) = false := by rw [hs]; decide
  have t19 : (s.toList == [101, 113, 117, 97, 108, 115, 45, 110, 101, 119, 45, 111, 98, 106, 101, 99, 116]) = false := by rw [hs]; decide
  have t20 : (s.toList == [104, 116, 109, 108, 45, 99, 111, 109, 109, 101, 110, 116, 45, 105, 110, 45, 106, 115]) = false := by rw [hs]; decide
  have t21 : (s.toList == [105, 109, 112, 111, 115, 115, 105, 98, 108, 101, 45, 116, 121, 112, 101, 111, 102]) = false := by rw [hs]; decide
  have t22 : (s.toList == [105, 110, 100, 105, 114, 101, 99, 116, 45, 114, 101, 113, 117, 105, 114, 101]) = false := by rw [hs]; decide
  have t23 : (s.toList == [112, 114, 105, 118, 97, 116, 101, 45, 110, 97, 109, 101, 45, 119, 105, 108, 108, 45, 116, 104, 114, 111, 119]) = false := by rw [hs]; decide
  have t24 : (s.toList == [115, 101, 109, 105, 99, 111, 108, 111, 110, 45, 97, 102, 116, 101, 114, 45, 114, 101, 116, 117, 114, 110]) = false := by rw [hs]; decide
  have t25 : (s.toList == [115, 117, 115, 112, 105, 99, 105, 111, 117, 115, 45, 98, 111, 111, 108, 101, 97, 110, 45, 110, 111, 116]) = false := by rw [hs]; decide
  have t26 : (s.toList == [115, 117, 115, 112, 105, 99, 105, 111, 117, 115, 45, 100, 101, 102, 105, 110, 101]) = false := by rw [hs]; decide
  have t27 : (s.toList == [115, 117, 115, 112, 105, 99, 105, 111, 117, 115, 45, 108, 111, 103, 105, 99, 97, 108, 45, 111, 112, 101, 114, 97, 116, 111, 114]) = false := by rw [hs]; decide
  have t28 : (s.toList == [115, 117, 115, 112, 105, 99, 105, 111, 117, 115, 45, 110, 117, 108, 108, 105, 115, 104, 45, 99, 111, 97, 108, 101, 115, 99, 105, 110, 103]) = false := by rw [hs]; decide
  have t29 : (s.toList == [116, 104, 105, 115, 45, 105, 115, 45, 117, 110, 100, 101, 102, 105, 110, 101, 100, 45, 105, 110, 45, 101, 115, 109]) = false := by rw [hs]; decide
  have t30 : (s.toList == [117, 110, 115, 117, 112, 112, 111, 114, 116, 101, 100, 45, 100, 121, 110, 97, 109, 105, 99, 45, 105, 109, 112, 111, 114, 116]) = false := by rw [hs]; decide
  have t31 : (s.toList == [117, 110, 115, 117, 112, 112, 111, 114, 116, 101, 100, 45, 106, 115, 120, 45, 99, 111, 109, 109, 101, 110, 116]) = false := by rw [hs]; decide
  have t32 : (s.toList == [117, 110, 115, 117, 112, 112, 111, 114, 116, 101, 100, 45, 114, 101, 103, 101, 120, 112]) = false := by rw [hs]; decide
  have t33 : (s.toList == [117, 110, 115, 117, 112, 112, 111, 114, 116, 101, 100, 45, 114, 101, 113, 117, 105, 114, 101, 45, 99, 97, 108, 108]) = false := by rw [hs]; decide
  have t34 : (s.toList == [99, 115, 115, 45, 115, 121, 110, 116, 97, 120, 45, 101, 114, 114, 111, 114]) = false := by rw [hs]; decide
  have t35 : (s.toList == [105, 110, 118, 97, 108, 105, 100, 45, 64, 99, 104, 97, 114, 115, 101, 116]) = false := by rw [hs]; decide
  have t36 : (s.toList == [105, 110, 118, 97, 108, 105, 100, 45, 64, 105, 109, 112, 111, 114, 116]) = false := by rw [hs]; decide
  have t37 : (s.toList == [105, 110, 118, 97, 108, 105, 100, 45, 64, 108, 97, 121, 101, 114]) = false := by rw [hs]; decide
  have t38 : (s.toList == [105, 110, 118, 97, 108, 105, 100, 45, 99, 97, 108, 99]) = false := by rw [hs]; decide
  have t39 : (s.toList == [106, 115, 45, 99, 111, 109, 109, 101, 110, 116, 45, 105, 110, 45, 99, 115, 115]) = false := by rw [hs]; decide
  have t40 : (s.toList == [117, 110, 100, 101, 102, 105, 110, 101, 100, 45, 99, 111, 109, 112, 111, 115, 101, 115, 45, 102, 114, 111, 109]) = false := by rw [hs]; decide
  have t41 : (s.toList == [117, 110, 115, 117, 112, 112, 111, 114, 116, 101, 100, 45, 64, 99, 104, 97, 114, 115, 101, 116]) = false := by rw [hs]; decide
  have t42 : (s.toList == [117, 110, 115, 117, 112, 112, 111, 114, 116, 101, 100, 45, 64, 110, 97, 109, 101, 115, 112, 97, 99, 101]) = false := by rw [hs]; decide
  have t43 : (s.toList == [117, 110, 115, 117, 112, 112, 111, 114, 116, 101, 100, 45, 99, 115, 115, 45, 112, 114, 111, 112, 101, 114, 116, 121]) = false := by rw [hs]; decide
  have t44 : (s.toList == [117, 110, 115, 117, 112, 112, 111, 114, 116, 101, 100, 45, 99, 115, 115, 45, 110, 101, 115, 116, 105, 110, 103]) = true := by rw [hs]; exact beq_self_eq_true _
  clear hs
  go_enter Try.func20, Try.ntmps20
  go_wp2_with (first
    | (at_mapUpdate; refine wpList_mapUpdate_own _ rfl _ _ _ 69 rfl 5 72 lawM Try.underlying69 RE b 0 _ rfl HO.out (by decide) _ _ _ rfl rfl (keyOf_int_mk Try.underlying5 (by decide)) _ [] (plainElem_int Try.underlying72 (by decide)) ?_; intro w1 ho1 hg1; go_frame)
    | fail)
  go_end0
  exact ⟨rfl, 1, _, by decide, ho1, fun c => (one_key 44 c _).trans (HK.out c).symm, hg1⟩
set_option maxRecDepth 1000000 in
set_option maxHeartbeats 40000000 in
theorem arm45 (s : ByteArray) (b : Nat) (w : World) (ho : Om w b 0 (.map [])) (hs : s.toList = [97, 109, 98, 105, 103, 117, 111, 117, 115, 45, 114, 101, 101, 120, 112, 111, 114, 116]) : Calls Try.prog 20 #[.string s, .int .i8 3, .map (some b)] w (Ids s b w) := by
  have HK := Lib.hid (Ks_arm (lo := 45) (hi := 45) hs (by decide) (by decide))
  have HO := Lib.hid ho
  clear ho
  have t1 : (s.toList == [97, 115, 115, 101, 114, 116, 45, 116, 111, 45, 119, 105, 116, 104]) = false := by rw [hs]; decide
  have t2 : (s.toList == [97, 115, 115, 101, 114, 116, 45, 116, 121, 112, 101, 45, 106, 115, 111, 110]) = false := by rw [hs]; decide
  have t3 : (s.toList == [97, 115, 115, 105, 103, 110, 45, 116, 111, 45, 99, 111, 110, 115, 116, 97, 110, 116]) = false := by rw [hs]; decide
  have t4 : (s.toList == [97, 115, 115, 105, 103, 110, 45, 116, 111, 45, 100, 101, 102, 105, 110, 101]) = false := by rw [hs]; decide
  have t5 : (s.toList == [97, 115, 115, 105, 103, 110, 45, 116, 111, 45, 105, 109, 112, 111, 114, 116]) = false := by rw [hs]; decide
  have t6 : (s.toList == [98, 105, 103, 105, 110, 116]) = false := by rw [hs]; decide
  have t7 : (s.toList == [99, 97, 108, 108, 45, 105, 109, 112, 111, 114, 116, 45, 110, 97, 109, 101, 115, 112, 97, 99, 101]) = false := by rw [hs]; decide
  have t8 : (s.toList == [99, 108, 97, 115, 115, 45, 110, 97, 109, 101, 45, 119, 105, 108, 108, 45, 116, 104, 114, 111, 119]) = false := by rw [hs]; decide
  have t9 : (s.toList == [99, 111, 109, 109, 111, 110, 106, 115, 45, 118, 97, 114, 105, 97, 98, 108, 101, 45, 105, 110, 45, 101, 115, 109]) = false := by rw [hs]; decide
  have t10 : (s.toList == [99, 111, 110, 102, 117, 115, 105, 110, 103, 45, 116, 121, 112, 101, 115, 99, 114, 105, 112, 116, 45, 99, 97, 115, 116]) = false := by rw [hs]; decide
  have t11 : (s.toList == [100, 101, 108, 101, 116, 101, 45, 115, 117, 112, 101, 114, 45, 112, 114, 111, 112, 101, 114, 116, 121]) = false := by rw [hs]; decide
  have t12 : (s.toList == [100, 105, 114, 101, 99, 116, 45, 101, 118, 97, 108]) = false := by rw [hs]; decide
  have t13 : (s.toList == [100, 117, 112, 108, 105, 99, 97, 116, 101, 45, 99, 97, 115, 101]) = false := by rw [hs]; decide
  have t14 : (s.toList == [100, 117, 112, 108, 105, 99, 97, 116, 101, 45, 99, 108, 97, 115, 115, 45, 109, 101, 109, 98, 101, 114]) = false := by rw [hs]; decide
  have t15 : (s.toList == [100, 117, 112, 108, 105, 99, 97, 116, 101, 45, 111, 98, 106, 101, 99, 116, 45, 107, 101, 121]) = false := by rw [hs]; decide
  have t16 : (s.toList == [101, 109, 112, 116, 121, 45, 105, 109, 112, 111, 114, 116, 45, 109, 101, 116, 97]) = false := by rw [hs]; decide
  have t17 : (s.toList == [101, 113, 117, 97, 108, 115, 45, 110, 97, 110]) = false := by rw [hs]; decide
  have t18 : (s.toList == [101, 113, 117, 97, 108, 115, 45, 110, 101, 103, 97, 116, 105, 118, 101, 45, 122, 101, 114, 111]) = false := by rw [hs]; decide
  have t19 : (s.toList == [101, 113, 117, 97, 108, 115, 45, 110, 101, 119, 45, 111, 98, 106, 101, 99, 116]) = false := by rw [hs]; decide
  have t20 : (s.toList == [104, 116, 109, 108, 45, 99, 111, 109, 109, 101, 110, 116, 45, 105, 110, 45, 106, 115]) = false := by rw [hs]; decide
  have t21 : (s.toList == [105, 109, 112, 111, 115, 115, 105, 98, 108, 101, 45, 116, 121, 112, 101, 111, 102]) = false := by rw [hs]; decide
  have t22 : (s.toList == [105, 110, 100, 105, 114, 101, 99, 116, 45, 114, 101, 113, 117, 105, 114, 101]) = false := by rw [hs]; decide
  have t23 : (s.toList == [112, 114, 105, 118, 97, 116, 101, 45, 110, 97, 109, 101, 45, 119, 105, 108, 108, 45, 116, 104, 114, 111, 119]) = false := by rw [hs]; decide
  have t24 : (s.toList == [115, 101, 109, 105, 99, 111, 108, 111, 110, 45, 97, 102, 116, 101, 114, 45, 114, 101, 116, 117, 114, 110]) = false := by rw [hs]; decide
  have t25 : (s.toList == [115, 117, 115, 112, 105, 99, 105, 111, 117, 115, 45, 98, 111, 111, 108, 101, 97, 110, 45, 110, 111, 116]) = false := by rw [hs]; decide
  have t26 : (s.toList == [115, 117, 115, 112, 105, 99, 105, 111, 117, 115, 45, 100, 101, 102, 105, 110, 101]) = false := by rw [hs]; decide
  have t27 : (s.toList == [115, 117, 115, 112, 105, 99, 105, 111, 117, 115, 45, 108, 111, 103, 105, 99, 97, 108, 45, 111, 112, 101, 114, 97, 116, 111, 114]) = false := by rw [hs]; decide
  have t28 : (s.toList == [115, 117, 115, 112, 105, 99, 105, 111, 117, 115, 45, 110, 117, 108, 108, 105, 115, 104, 45, 99, 111, 97, 108, 101, 115, 99, 105, 110, 103]) = false := by rw [hs]; decide
  have t29 : (s.toList == [116, 104, 105, 115, 45, 105, 115, 45, 117, 110, 100, 101, 102, 105, 110, 101, 100, 45, 105, 110, 45, 101, 115, 109]) = false := by rw [hs]; decide
  have t30 : (s.toList == [117, 110, 115, 117, 112, 112, 111, 114, 116, 101, 100, 45, 100, 121, 110, 97, 109, 105, 99, 45, 105, 109, 112, 111, 114, 116]) = false := by rw [hs]; decide
  have t31 : (s.toList == [117, 110, 115, 117, 112, 112, 111, 114, 116, 101, 100, 45, 106, 115, 120, 45, 99, 111, 109, 109, 101, 110, 116]) = false := by rw [hs]; decide
  have t32 : (s.toList == [117, 110, 115, 117, 112, 112, 111, 114, 116, 101, 100, 45, 114, 101, 103, 101, 120, 112]) = false := by rw [hs]; decide
  have t33 : (s.toList == [117, 110, 115, 117, 112, 112, 111, 114, 116, 101, 100, 45, 114, 101, 113, 117, 105, 114, 101, 45, 99, 97, 108, 108]) = false := by rw [hs]; decide
  have t34 : (s.toList == [99, 115, 115, 45, 115, 121, 110, 116, 97, 120, 45, 101, 114, 114, 111, 114]) = false := by rw [hs]; decide
  have t35 : (s.toList == [105, 110, 118, 97, 108, 105, 100, 45, 64, 99, 104, 97, 114, 115, 101, 116]) = false := by rw [hs]; decide
  have t36 : (s.toList == [105, 110, 118, 97, 108, 105, 100, 45, 64, 105, 109, 112, 111, 114, 116]) = false := by rw [hs]; decide
  have t37 : (s.toList == [105, 110, 118, 97, 108, 105, 100, 45, 64, 108, 97, 121, 101, 114]) = false := by rw [hs]; decide
  have t38 : (s.toList == [105, 110, 118, 97, 108, 105, 100, 45, 99, 97, 108, 99]) = false := by rw [hs]; decide
  have t39 : (s.toList == [106, 115, 45, 99, 111, 109, 109, 101, 110, 116, 45, 105, 110, 45, 99, 115, 115]) = false := by rw [hs]; decide
  have t40 : (s.toList == [117, 110, 100, 101, 102, 105, 110, 101, 100, 45, 99, 111, 109, 112, 111, 115, 101, 115, 45, 102, 114, 111, 109]) = false := by rw [hs]; decide
  have t41 : (s.toList == [117, 110, 115, 117, 112, 112, 111, 114, 116, 101, 100, 45, 64, 99, 104, 97, 114, 115, 101, 116]) = false := by rw [hs]; decide
  have t42 : (s.toList == [117, 110, 115, 117, 112, 112, 111, 114, 116, 101, 100, 45, 64, 110, 97, 109, 101, 115, 112, 97, 99, 101]) = false := by rw [hs]; decide
  have t43 : (s.toList == [117, 110, 115, 117, 112, 112, 111, 114, 116, 101, 100, 45, 99, 115, 115, 45, 112, 114, 111, 112, 101, 114, 116, 121]) = false := by rw [hs]; decide
  have t44 : (s.toList == [117, 110, 115, 117, 112, 112, 111, 114, 116, 101, 100, 45, 99, 115, 115, 45, 110, 101, 115, 116, 105, 110, 103]) = false := by rw [hs]; decide
  have t45 : (s.toList == [97, 109, 98, 105, 103, 117, 111, 117, 115, 45, 114, 101, 101, 120, 112, 111, 114, 116]) = true := by rw [hs]; exact beq_self_eq_true _
  clear hs
  go_enter Try.func20, Try.ntmps20
  go_wp2_with (first
    | (at_mapUpdate; refine wpList_mapUpdate_own _ rfl _ _ _ 69 rfl 5 72 lawM Try.underlying69 RE b 0 _ rfl HO.out (by decide) _ _ _ rfl rfl (keyOf_int_mk Try.underlying5 (by decide)) _ [] (plainElem_int Try.underlying72 (by decide)) ?_; intro w1 ho1 hg1; go_frame)
    | fail)
  go_end0
  exact ⟨rfl, 1, _, by decide, ho1, fun c => (one_key 45 c _).trans (HK.out c).symm, hg1⟩
set_option maxRecDepth 1000000 in
set_option maxHeartbeats 40000000 in
theorem arm46 (s : ByteArray) (b : Nat) (w : World) (ho : Om w b 0 (.map [])) (hs : s.toList = [100, 105, 102, 102, 101, 114, 101, 110, 116, 45, 112, 97, 116, 104, 45, 99, 97, 115, 101]) : Calls Try.prog 20 #[.string s, .int .i8 3, .map (some b)] w (Ids s b w) := by
  have HK := Lib.hid (Ks_arm (lo := 46) (hi := 46) hs (by decide) (by decide))
  have HO := Lib.hid ho
  clear ho
  have t1 : (s.toList == [97, 115, 115, 101, 114, 116, 45, 116, 111, 45, 119, 105, 116, 104]) = false := by rw [hs]; decide
  have t2 : (s.toList == [97, 115, 115, 101, 114, 116, 45, 116, 121, 112, 101, 45, 106, 115, 111, 110]) = false := by rw [hs]; decide
  have t3 : (s.toList == [97, 115, 115, 105, 103, 110, 45, 116, 111, 45, 99, 111, 110, 115, 116, 97, 110, 116]) = false := by rw [hs]; decide
  have t4 : (s.toList == [97, 115, 115, 105, 103, 110, 45, 116, 111, 45, 100, 101, 102, 105, 110, 101]) = false := by rw [hs]; decide
  have t5 : (s.toList == [97, 115, 115, 105, 103, 110, 45, 116, 111, 45, 105, 109, 112, 111, 114, 116]) = false := by rw [hs]; decide
  have t6 : (s.toList == [98, 105, 103, 105, 110, 116]) = false := by rw [hs]; decide
  have t7 : (s.toList == [99, 97, 108, 108, 45, 105, 109, 112, 111, 114, 116, 45, 110, 97, 109, 101, 115, 112, 97, 99, 101]) = false := by rw [hs]; decide
  have t8 : (s.toList == [99, 108, 97, 115, 115, 45, 110, 97, 109, 101, 45, 119, 105, 108, 108, 45, 116, 104, 114, 111, 119]) = false := by rw [hs]; decide
  have t9 : (s.toList == [99, 111, 109, 109, 111, 110, 106, 115, 45, 118, 97, 114, 105, 97, 98, 108, 101, 45, 105, 110, 45, 101, 115, 109]) = false := by rw [hs]; decide
  have t10 : (s.toList == [99, 111, 110, 102, 117, 115, 105, 110, 103, 45, 116, 121, 112, 101, 115, 99, 114, 105, 112, 116, 45, 99, 97, 115, 116]) = false := by rw [hs]; decide
  have t11 : (s.toList == [100, 101, 108, 101, 116, 101, 45, 115, 117, 112, 101, 114, 45, 112, 114, 111, 112, 101, 114, 116, 121]) = false := by rw [hs]; decide
  have t12 : (s.toList == [100, 105, 114, 101, 99, 116, 45, 101, 118, 97, 108]) = false := by rw [hs]; decide
  have t13 : (s.toList == [100, 117, 112, 108, 105, 99, 97, 116, 101, 45, 99, 97, 115, 101]) = false := by rw [hs]; decide
  have t14 : (s.toList == [100, 117, 112, 108, 105, 99, 97, 116, 101, 45, 99, 108, 97, 115, 115, 45, 109, 101, 109, 98, 101, 114]) = false := by rw [hs]; decide
  have t15 : (s.toList == [100, 117, 112, 108, 105, 99, 97, 116, 101, 45, 111, 98, 106, 101, 99, 116, 45, 107, 101, 121]) = false := by rw [hs]; decide
  have t16 : (s.toList == [101, 109, 112, 116, 121, 45, 105, 109, 112, 111, 114, 116, 45, 109, 101, 116, 97]) = false := by rw [hs]; decide
  have t17 : (s.toList == [101, 113, 117, 97, 108, 115, 45, 110, 97, 110]) = false := by rw [hs]; decide
  have t18 : (s.toList == [101, 113, 117, 97, 108, 115, 45, 110, 101, 103, 97, 116, 105, 118, 101, 45, 122, 101, 114, 111]) = false := by rw [hs]; decide
  have t19 : (s.toList == [101, 113, 117, 97, 108, 115, 45, 110, 101, 119, 45, 111, 98, 106, 101, 99, 116]) = false := by rw [hs]; decide
  have t20 : (s.toList == [104, 116, 109, 108, 45, 99, 111, 109, 109, 101, 110, 116, 45, 105, 110, 45, 106, 115]) = false := by rw [hs]; decide
  have t21 : (s.toList == [105, 109, 112, 111, 115, 115, 105, 98, 108, 101, 45, 116, 121, 112, 101, 111, 102]) = false := by rw [hs]; decide
  have t22 : (s.toList == [105, 110, 100, 105, 114, 101, 99, 116, 45, 114, 101, 113, 117, 105, 114, 101]) = false := by rw [hs]; decide
  have t23 : (s.toList == [112, 114, 105, 118, 97, 116, 101, 45, 110, 97, 109, 101, 45, 119, 105, 108, 108, 45, 116, 104, 114, 111, 119]) = false := by rw [hs]; decide
  have t24 : (s.toList == [115, 101, 109, 105, 99, 111, 108, 111, 110, 45, 97, 102, 116, 101, 114, 45, 114, 101, 116, 117, 114, 110]) = false := by rw [hs]; decide
  have t25 : (s.toList == [115, 117, 115, 112, 105, 99, 105, 111, 117, 115, 45, 98, 111, 111, 108, 101, 97, 110, 45, 110, 111, 116]) = false := by rw [hs]; decide
  have t26 : (s.toList == [115, 117, 115, 112, 105, 99, 105, 111, 117, 115, 45, 100, 101, 102, 105, 110, 101]) = false := by rw [hs]; decide
  have t27 : (s.toList == [115, 117, 115, 112, 105, 99, 105, 111, 117, 115, 45, 108, 111, 103, 105, 99, 97, 108, 45, 111, 112, 101, 114, 97, 116, 111, 114]) = false := by rw [hs]; decide
  have t28 : (s.toList == [115, 117, 115, 112, 105, 99, 105, 111, 117, 115, 45, 110, 117, 108, 108, 105, 115, 104, 45, 99, 111, 97, 108, 101, 115, 99, 105, 110, 103]) = false := by rw [hs]; decide
  have t29 : (s.toList == [116, 104, 105, 115, 45, 105, 115, 45, 117, 110, 100, 101, 102, 105, 110, 101, 100, 45, 105, 110, 45, 101, 115, 109]) = false := by rw [hs]; decide
  have t30 : (s.toList == [117, 110, 115, 117, 112, 112, 111, 114, 116, 101, 100, 45, 100, 121, 110, 97, 109, 105, 99, 45, 105, 109, 112, 111, 114, 116]) = false := by rw [hs]; decide
  have t31 : (s.toList == [117, 110, 115, 117, 112, 112, 111, 114, 116, 101, 100, 45, 106, 115, 120, 45, 99, 111, 109, 109, 101, 110, 116]) = false := by rw [hs]; decide
  have t32 : (s.toList == [117, 110, 115, 117, 112, 112, 111, 114, 116, 101, 100, 45, 114, 101, 103, 101, 120, 112]) = false := by rw [hs]; decide
  have t33 : (s.toList == [117, 110, 115, 117, 112, 112, 111, 114, 116, 101, 100, 45, 114, 101, 113, 117, 105, 114, 101, 45, 99, 97, 108, 108]) = false := by rw [hs]; decide
  have t34 : (s.toList == [99, 115, 115, 45, 115, 121, 110, 116, 97, 120, 45, 101, 114, 114, 111, 114]) = false := by rw [hs]; decide
  have t35 : (s.toList == [105, 110, 118, 97, 108, 105, 100, 45, 64, 99, 104, 97, 114, 115, 101, 116]) = false := by rw [hs]; decide
  have t36 : (s.toList == [105, 110, 118, 97, 108, 105, 100, 45, 64, 105, 109, 112, 111, 114, 116]) = false := by rw [hs]; decide
  have t37 : (s.toList == [105, 110, 118, 97, 108, 105, 100, 45, 64, 108, 97, 121, 101, 114]) = false := by rw [hs]; decide
  have t38 : (s.toList == [105, 110, 118, 97, 108, 105, 100, 45, 99, 97, 108, 99]) = false := by rw [hs]; decide
  have t39 : (s.toList == [106, 115, 45, 99, 111, 109, 109, 101, 110, 116, 45, 105, 110, 45, 99, 115, 115]) = false := by rw [hs]; decide
  have t40 : (s.toList == [117, 110, 100, 101, 102, 105, 110, 101, 100, 45, 99, 111, 109, 112, 111, 115, 101, 115, 45, 102, 114, 111, 109]) = false := by rw [hs]; decide
  have t41 : (s.toList == [117, 110, 115, 117, 112, 112, 111, 114, 116, 101, 100, 45, 64, 99, 104, 97, 114, 115, 101, 116]) = false := by rw [hs]; decide
  have t42 : (s.toList == [117, 110, 115, 117, 112, 112, 111, 114, 116, 101, 100, 45, 64, 110, 97, 109, 101, 115, 112, 97, 99, 101]) = false := by rw [hs]; decide
  have t43 : (s.toList == [117, 110, 115, 117, 112, 112, 111, 114, 116, 101, 100, 45, 99, 115, 115, 45, 112, 114, 111, 112, 101, 114, 116, 121]) = false := by rw [hs]; decide
  have t44 : (s.toList == [117, 110, 115, 117, 112, 112, 111, 114, 116, 101, 100, 45, 99, 115, 115, 45, 110, 101, 115, 116, 105, 110, 103]) = false := by rw [hs]; decide
  have t45 : (s.toList == [97, 109, 98, 105, 103, 117, 111, 117, 115, 45, 114, 101, 101, 120, 112, 111, 114, 116]) = false := by rw [hs]; decide
  have t46 : (s.toList == [100, 105, 102, 102, 101, 114, 101, 110, 116, 45, 112, 97, 116, 104, 45, 99, 97, 115, 101]) = true := by rw [hs]; exact beq_self_eq_true _
  clear hs
  go_enter Try.func20, Try.ntmps20
  go_wp2_with (first
    | (at_mapUpdate; refine wpList_mapUpdate_own _ rfl _ _ _ 69 rfl 5 72 lawM Try.underlying69 RE b 0 _ rfl HO.out (by decide) _ _ _ rfl rfl (keyOf_int_mk Try.underlying5 (by decide)) _ [] (plainElem_int Try.underlying72 (by decide)) ?_; intro w1 ho1 hg1; go_frame)
    | fail)
  go_end0
  exact ⟨rfl, 1, _, by decide, ho1, fun c => (one_key 46 c _).trans (HK.out c).symm, hg1⟩
set_option maxRecDepth 1000000 in
set_option maxHeartbeats 40000000 in
theorem arm47 (s : ByteArray) (b : Nat) (w : World) (ho : Om w b 0 (.map [])) (hs : s.toList = [101, 109, 112, 116, 121, 45, 103, 108, 111, 98]) : Calls Try.prog 20 #[.string s, .int .i8 3, .map (some b)] w (Ids s b w) := by
  have HK := Lib.hid (Ks_arm (lo := 47) (hi := 47) hs (by decide) (by decide))
  have HO := Lib.hid ho
  clear ho
  have t1 : (s.toList == [97, 115, 115, 101, 114, 116, 45, 116, 111, 45, 119, 105, 116, 104]) = false := by rw [hs]; decide
  have t2 : (s.toList == [97, 115, 115, 101, 114, 116, 45, 116, 121, 112, 101, 45, 106, 115, 111, 110]) = false := by rw [hs]; decide
  have t3 : (s.toList == [97, 115, 115, 105, 103, 110, 45, 116, 111, 45, 99, 111, 110, 115, 116, 97, 110, 116]) = false := by rw [hs]; decide
  have t4 : (s.toList == [97, 115, 115, 105, 103, 110, 45, 116, 111, 45, 100, 101, 102, 105, 110, 101]) = false := by rw [hs]; decide
  have t5 : (s.toList == [97, 115, 115, 105, 103, 110, 45, 116, 111, 45, 105, 109, 112, 111, 114, 116]) = false := by rw [hs]; decide
  have t6 : (s.toList == [98, 105, 103, 105, 110, 116]) = false := by rw [hs]; decide
  have t7 : (s.toList == [99, 97, 108, 108, 45, 105, 109, 112, 111, 114, 116, 45, 110, 97, 109, 101, 115, 112, 97, 99, 101]) = false := by rw [hs]; decide
  have t8 : (s.toList == [99, 108, 97, 115, 115, 45, 110, 97, 109, 101, 45, 119, 105, 108, 108, 45, 116, 104, 114, 111, 119]) = false := by rw [hs]; decide
  have t9 : (s.toList == [99, 111, 109, 109, 111, 110, 106, 115, 45, 118, 97, 114, 105, 97, 98, 108, 101, 45, 105, 110, 45, 101, 115, 109]) = false := by rw [hs]; decide
  have t10 : (s.toList == [99, 111, 110, 102, 117, 115, 105, 110, 103, 45, 116, 121, 112, 101, 115, 99, 114, 105, 112, 116, 45, 99, 97, 115, 116]) = false := by rw [hs]; decide
  have t11 : (s.toList == [100, 101, 108, 101, 116, 101, 45, 115, 117, 112, 101, 114, 45, 112, 114, 111, 112, 101, 114, 116, 121]) = false := by rw [hs]; decide
  have t12 : (s.toList == [100, 105, 114, 101, 99, 116, 45, 101, 118, 97, 108]) = false := by rw [hs]; decide
  have t13 : (s.toList == [100, 117, 112, 108, 105, 99, 97, 116, 101, 45, 99, 97, 115, 101]) = false := by rw [hs]; decide
  have t14 : (s.toList == [100, 117, 112, 108, 105, 99, 97, 116, 101, 45, 99, 108, 97, 115, 115, 45, 109, 101, 109, 98, 101, 114]) = false := by rw [hs]; decide
  have t15 : (s.toList == [100, 117, 112, 108, 105, 99, 97, 116, 101, 45, 111, 98, 106, 101, 99, 116, 45, 107, 101, 121]) = false := by rw [hs]; decide
  have t16 : (s.toList == [101, 109, 112, 116, 121, 45, 105, 109, 112, 111, 114, 116, 45, 109, 101, 116, 97]) = false := by rw [hs]; decide
  have t17 : (s.toList == [101, 113, 117, 97, 108, 115, 45, 110, 97, 110]) = false := by rw [hs]; decide
  have t18 : (s.toList == [101, 113, 117, 97, 108, 115, 45, 110, 101, 103, 97, 116, 105, 118, 101, 45, 122, 101, 114, 111]) = false := by rw [hs]; decide
  have t19 : (s.toList == [101, 113, 117, 97, 108, 115, 45, 110, 101, 119, 45, 111, 98, 106, 101, 99, 116]) = false := by rw [hs]; decide
  have t20 : (s.toList == [104, 116, 109, 108, 45, 99, 111, 109, 109, 101, 110, 116, 45, 105, 110, 45, 106, 115]) = false := by rw [hs]; decide
  have t21 : (s.toList == [105, 109, 112, 111, 115, 115, 105, 98, 108, 101, 45, 116, 121, 112, 101, 111, 102]) = false := by rw [hs]; decide
  have t22 : (s.toList == [105, 110, 100, 105, 114, 101, 99, 116, 45, 114, 101, 113, 117, 105, 114, 101]) = false := by rw [hs]; decide
  have t23 : (s.toList == [112, 114, 105, 118, 97, 116, 101, 45, 110, 97, 109, 101, 45, 119, 105, 108, 108, 45, 116, 104, 114, 111, 119]) = false := by rw [hs]; decide
  have t24 : (s.toList == [115, 101, 109, 105, 99, 111, 108, 111, 110, 45, 97, 102, 116, 101, 114, 45, 114, 101, 116, 117, 114, 110]) = false := by rw [hs]; decide
  have t25 : (s.toList == [115, 117, 115, 112, 105, 99, 105, 111, 117, 115, 45, 98, 111, 111, 108, 101, 97, 110, 45, 110, 111, 116]) = false := by rw [hs]; decide
  have t26 : (s.toList == [115, 117, 115, 112, 105, 99, 105, 111, 117, 115, 45, 100, 101, 102, 105, 110, 101]) = false := by rw [hs]; decide
  have t27 : (s.toList == [115, 117, 115, 112, 105, 99, 105, 111, 117, 115, 45, 108, 111, 103, 105, 99, 97, 108, 45, 111, 112, 101, 114, 97, 116, 111, 114]) = false := by rw [hs]; decide
  have t28 : (s.toList == [115, 117, 115, 112, 105, 99, 105, 111, 117, 115, 45, 110, 117, 108, 108, 105, 115, 104, 45, 99, 111, 97, 108, 101, 115, 99, 105, 110, 103]) = false := by rw [hs]; decide
  have t29 : (s.toList == [116, 104, 105, 115, 45, 105, 115, 45, 117, 110, 100, 101, 102, 105, 110, 101, 100, 45, 105, 110, 45, 101, 115, 109]) = false := by rw [hs]; decide
  have t30 : (s.toList == [117, 110, 115, 117, 112, 112, 111, 114, 116, 101, 100, 45, 100, 121, 110, 97, 109, 105, 99, 45, 105, 109, 112, 111, 114, 116]) = false := by rw [hs]; decide
  have t31 : (s.toList == [117, 110, 115, 117, 112, 112, 111, 114, 116, 101, 100, 45, 106, 115, 120, 45, 99, 111, 109, 109, 101, 110, 116]) = false := by rw [hs]; decide
  have t32 : (s.toList == [117, 110, 115, 117, 112, 112, 111, 114, 116, 101, 100, 45, 114, 101, 103, 101, 120, 112]) = false := by rw [hs]; decide
  have t33 : (s.toList == [117, 110, 115, 117, 112, 112, 111, 114, 116, 101, 100, 45, 114, 101, 113, 117, 105, 114, 101, 45, 99, 97, 108, 108]) = false := by rw [hs]; decide
  have t34 : (s.toList == [99, 115, 115, 45, 115, 121, 110, 116, 97, 120, 45, 101, 114, 114, 111, 114]) = false := by rw [hs]; decide
  have t35 : (s.toList == [105, 110, 118, 97, 108, 105, 100, 45, 64, 99, 104, 97, 114, 115, 101, 116]) = false := by rw [hs]; decide
  have t36 : (s.toList == [105, 110, 118, 97, 108, 105, 100, 45, 64, 105, 109, 112, 111, 114, 116]) = false := by rw [hs]; decide
  have t37 : (s.toList == [105, 110, 118, 97, 108, 105, 100, 45, 64, 108, 97, 121, 101, 114]) = false := by rw [hs]; decide
  have t38 : (s.toList == [105, 110, 118, 97, 108, 105, 100, 45, 99, 97, 108, 99]) = false := by rw [hs]; decide
  have t39 : (s.toList == [106, 115, 45, 99, 111, 109, 109, 101, 110, 116, 45, 105, 110, 45, 99, 115, 115]) = false := by rw [hs]; decide
  have t40 : (s.toList == [117, 110, 100, 101, 102, 105, 110, 101, 100, 45, 99, 111, 109, 112, 111, 115, 101, 115, 45, 102, 114, 111, 109]) = false := by rw [hs]; decide
  have t41 : (s.toList == [117, 110, 115, 117, 112, 112, 111, 114, 116, 101, 100, 45, 64, 99, 104, 97, 114, 115, 101, 116]) = false := by rw [hs]; decide
  have t42 : (s.toList == [117, 110, 115, 117, 112, 112, 111, 114, 116, 101, 100, 45, 64, 110, 97, 109, 101, 115, 112, 97, 99, 101]) = false := by rw [hs]; decide
  have t43 : (s.toList == [117, 110, 115, 117, 112, 112, 111, 114, 116, 101, 100, 45, 99, 115, 115, 45, 112, 114, 111, 112, 101, 114, 116, 121]) = false := by rw [hs]; decide
  have t44 : (s.toList == [117, 110, 115, 117, 112, 112, 111, 114, 116, 101, 100, 45, 99, 115, 115, 45, 110, 101, 115, 116, 105, 110, 103]) = false := by rw [hs]; decide
  have t45 : (s.toList == [97, 109, 98, 105, 103, 117, 111, 117, 115, 45, 114, 101, 101, 120, 112, 111, 114, 116]) = false := by rw [hs]; decide
  have t46 : (s.toList == [100, 105, 102, 102, 101, 114, 101, 110, 116, 45, 112, 97, 116, 104, 45, 99, 97, 115, 101]) = false := by rw [hs]; decide
  have t47 : (s.toList == [101, 109, 112, 116, 121, 45, 103, 108, 111, 98]) = true := by rw [hs]; exact beq_self_eq_true _
  clear hs
  go_enter Try.func20, Try.ntmps20
  go_wp2_with (first
    | (at_mapUpdate; refine wpList_mapUpdate_own _ rfl _ _ _ 69 rfl 5 72 lawM Try.underlying69 RE b 0 _ rfl HO.out (by decide) _ _ _ rfl rfl (keyOf_int_mk Try.underlying5 (by decide)) _ [] (plainElem_int Try.underlying72 (by decide)) ?_; intro w1 ho1 hg1; go_frame)
    | fail)
  go_end0
  exact ⟨rfl, 1, _, by decide, ho1, fun c => (one_key 47 c _).trans (HK.out c).symm, hg1⟩
set_option maxRecDepth 1000000 in
set_option maxHeartbeats 40000000 in
theorem arm48 (s : ByteArray) (b : Nat) (w : World) (ho : Om w b 0 (.map [])) (hs : s.toList = [105, 103, 110, 111, 114, 101, 100, 45, 98, 97, 114, 101, 45, 105, 109, 112, 111, 114, 116]) : Calls Try.prog 20 #[.string s, .int .i8 3, .map (some b)] w (Ids s b w) := by
  have HK := Lib.hid (Ks_arm (lo := 48) (hi := 48) hs (by decide) (by decide))
  have HO := Lib.hid ho
  clear ho
  have t1 : (s.toList == [97, 115, 115, 101, 114, 116, 45, 116, 111, 45, 119, 105, 116, 104]) = false := by rw [hs]; decide
  have t2 : (s.toList == [97, 115, 115, 101, 114, 116, 45, 116, 121, 112, 101, 45, 106, 115, 111, 110]) = false := by rw [hs]; decide
  have t3 : (s.toList == [97, 115, 115, 105, 103, 110, 45, 116, 111, 45, 99, 111, 110, 115, 116, 97, 110, 116]) = false := by rw [hs]; decide
  have t4 : (s.toList == [97, 115, 115, 105, 103, 110, 45, 116, 111, 45, 100, 101, 102, 105, 110, 101]) = false := by rw [hs]; decide
  have t5 : (s.toList == [97, 115, 115, 105, 103, 110, 45, 116, 111, 45, 105, 109, 112, 111, 114, 116]) = false := by rw [hs]; decide
  have t6 : (s.toList == [98, 105, 103, 105, 110, 116]) = false := by rw [hs]; decide
  have t7 : (s.toList == [99, 97, 108, 108, 45, 105, 109, 112, 111, 114, 116, 45, 110, 97, 109, 101, 115, 112, 97, 99, 101]) = false := by rw [hs]; decide
  have t8 : (s.toList == [99, 108, 97, 115, 115, 45, 110, 97, 109, 101, 45, 119, 105, 108, 108, 45, 116, 104, 114, 111, 119]) = false := by rw [hs]; decide
  have t9 : (s.toList == [99, 111, 109, 109, 111, 110, 106, 115, 45, 118, 97, 114, 105, 97, 98, 108, 101, 45, 105, 110, 45, 101, 115, 109]) = false := by rw [hs]; decide
  have t10 : (s.toList == [99, 111, 110, 102, 117, 115, 105, 110, 103, 45, 116, 121, 112, 101, 115, 99, 114, 105, 112, 116, 45, 99, 97, 115, 116]) = false := by rw [hs]; decide
  have t11 : (s.toList == [100, 101, 108, 101, 116, 101, 45, 115, 117, 112, 101, 114, 45, 112, 114, 111, 112, 101, 114, 116, 121]) = false := by rw [hs]; decide
  have t12 : (s.toList == [100, 105, 114, 101, 99, 116, 45, 101, 118, 97, 108]) = false := by rw [hs]; decide
  have t13 : (s.toList == [100, 117, 112, 108, 105, 99, 97, 116, 101, 45, 99, 97, 115, 101]) = false := by rw [hs]; decide
  have t14 : (s.toList == [100, 117, 112, 108, 105, 99, 97, 116, 101, 45, 99, 108, 97, 115, 115, 45, 109, 101, 109, 98, 101, 114]) = false := by rw [hs]; decide
  have t15 : (s.toList == [100, 117, 112, 108, 105, 99, 97, 116, 101, 45, 111, 98, 106, 101, 99, 116, 45, 107, 101, 121]) = false := by rw [hs]; decide
  have t16 : (s.toList == [101, 109, 112, 116, 121, 45, 105, 109, 112, 111, 114, 116, 45, 109, 101, 116, 97]) = false := by rw [hs]; decide
  have t17 : (s.toList == [101, 113, 117, 97, 108, 115, 45, 110, 97, 110]) = false := by rw [hs]; decide
  have t18 : (s.toList == [101, 113, 117, 97, 108, 115, 45, 110, 101, 103, 97, 116, 105, 118, 101, 45, 122, 101, 114, 111]) = false := by rw [hs]; decide
  have t19 : (s.toList == [101, 113, 117, 97, 108, 115, 45, 110, 101, 119, 45, 111, 98, 106, 101, 99, 116]) = false := by rw [hs]; decide
  have t20 : (s.toList == [104, 116, 109, 108, 45, 99, 111, 109, 109, 101, 110, 116, 45, 105, 110, 45, 106, 115]) = false := by rw [hs]; decide
  have t21 : (s.toList == [105, 109, 112, 111, 115, 115, 105, 98, 108, 101, 45, 116, 121, 112, 101, 111, 102]) = false := by rw [hs]; decide
  have t22 : (s.toList == [105, 110, 100, 105, 114, 101, 99, 116, 45, 114, 101, 113, 117, 105, 114, 101]) = false := by rw [hs]; decide
  have t23 : (s.toList == [112, 114, 105, 118, 97, 116, 101, 45, 110, 97, 109, 101, 45, 119, 105, 108, 108, 45, 116, 104, 114, 111, 119]) = false := by rw [hs]; decide
  have t24 : (s.toList == [115, 101, 109, 105, 99, 111, 108, 111, 110, 45, 97, 102, 116, 101, 114, 45, 114, 101, 116, 117, 114, 110]) = false := by rw [hs]; decide
  have t25 : (s.toList == [115, 117, 115, 112, 105, 99, 105, 111, 117, 115, 45, 98, 111, 111, 108, 101, 97, 110, 45, 110, 111, 116]) = false := by rw [hs]; decide
  have t26 : (s.toList == [115, 117, 115, 112, 105, 99, 105, 111, 117, 115, 45, 100, 101, 102, 105, 110, 101]) = false := by rw [hs]; decide
  have t27 : (s.toList == [115, 117, 115, 112, 105, 99, 105, 111, 117, 115, 45, 108, 111, 103, 105, 99, 97, 108, 45, 111, 112, 101, 114, 97, 116, 111, 114]) = false := by rw [hs]; decide
  have t28 : (s.toList == [115, 117, 115, 112, 105, 99, 105, 111, 117, 115, 45, 110, 117, 108, 108, 105, 115, 104, 45, 99, 111, 97, 108, 101, 115, 99, 105, 110, 103]) = false := by rw [hs]; decide
  have t29 : (s.toList == [116, 104, 105, 115, 45, 105, 115, 45, 117, 110, 100, 101, 102, 105, 110, 101, 100, 45, 105, 110, 45, 101, 115, 109]) = false := by rw [hs]; decide
  have t30 : (s.toList == [117, 110, 115, 117, 112, 112, 111, 114, 116, 101, 100, 45, 100, 121, 110, 97, 109, 105, 99, 45, 105, 109, 112, 111, 114, 116]) = false := by rw [hs]; decide
  have t31 : (s.toList == [117, 110, 115, 117, 112, 112, 111, 114, 116, 101, 100, 45, 106, 115, 120, 45, 99, 111, 109, 109, 101, 110, 116]) = false := by rw [hs]; decide
  have t32 : (s.toList == [117, 110, 115, 117, 112, 112, 111, 114, 116, 101, 100, 45, 114, 101, 103, 101, 120, 112]) = false := by rw [hs]; decide
  have t33 : (s.toList == [117, 110, 115, 117, 112, 112, 111, 114, 116, 101, 100, 45, 114, 101, 113, 117, 105, 114, 101, 45, 99, 97, 108, 108]) = false := by rw [hs]; decide
  have t34 : (s.toList == [99, 115, 115, 45, 115, 121, 110, 116, 97, 120, 45, 101, 114, 114, 111, 114]) = false := by rw [hs]; decide
  have t35 : (s.toList == [105, 110, 118, 97, 108, 105, 100, 45, 64, 99, 104, 97, 114, 115, 101, 116]) = false := by rw [hs]; decide
  have t36 : (s.toList == [105, 110, 118, 97, 108, 105, 100, 45, 64, 105, 109, 112, 111, 114, 116]) = false := by rw [hs]; decide
  have t37 : (s.toList == [105, 110, 118, 97, 108, 105, 100, 45, 64, 108, 97, 121, 101, 114]) = false := by rw [hs]; decide
  have t38 : (s.toList == [105, 110, 118, 97, 108, 105, 100, 45, 99, 97, 108, 99]) = false := by rw [hs]; decide
  have t39 : (s.toList == [106, 115, 45, 99, 111, 109, 109, 101, 110, 116, 45, 105, 110, 45, 99, 115, 115]) = false := by rw [hs]; decide
  have t40 : (s.toList == [117, 110, 100, 101, 102, 105, 110, 101, 100, 45, 99, 111, 109, 112, 111, 115, 101, 115, 45, 102, 114, 111, 109]) = false := by rw [hs]; decide
  have t41 : (s.toList == [117, 110, 115, 117, 112, 112, 111, 114, 116, 101, 100, 45, 64, 99, 104, 97, 114, 115, 101, 116]) = false := by rw [hs]; decide
  have t42 : (s.toList == [117, 110, 115, 117, 112, 112, 111, 114, 116, 101, 100, 45, 64, 110, 97, 109, 101, 115, 112, 97, 99, 101]) = false := by rw [hs]; decide
  have t43 : (s.toList == [117, 110, 115, 117, 112, 112, 111, 114, 116, 101, 100, 45, 99, 115, 115, 45, 112, 114, 111, 112, 101, 114, 116, 121]) = false := by rw [hs]; decide
  have t44 : (s.toList == [117, 110, 115, 117, 112, 112, 111, 114, 116, 101, 100, 45, 99, 115, 115, 45, 110, 101, 115, 116, 105, 110, 103]) = false := by rw [hs]; decide
  have t45 : (s.toList == [97, 109, 98, 105, 103, 117, 111, 117, 115, 45, 114, 101, 101, 120, 112, 111, 114, 116]) = false := by rw [hs]; decide
  have t46 : (s.toList == [100, 105, 102, 102, 101, 114, 101, 110, 116, 45, 112, 97, 116, 104, 45, 99, 97, 115, 101]) = false := by rw [hs]; decide
  have t47 : (s.toList == [101, 109, 112, 116, 121, 45, 103, 108, 111, 98]) = false := by rw [hs]; decide
  have t48 : (s.toList == [105, 103, 110, 111, 114, 101, 100, 45, 98, 97, 114, 101, 45, 105, 109, 112, 111, 114, 116]) = true := by rw [hs]; exact beq_self_eq_true _
  clear hs
  go_enter Try.func20, Try.ntmps20
  go_wp2_with (first
    | (at_mapUpdate; refine wpList_mapUpdate_own _ rfl _ _ _ 69 rfl 5 72 lawM Try.underlying69 RE b 0 _ rfl HO.out (by decide) _ _ _ rfl rfl (keyOf_int_mk Try.underlying5 (by decide)) _ [] (plainElem_int Try.underlying72 (by decide)) ?_; intro w1 ho1 hg1; go_frame)
    | fail)
  go_end0
  exact ⟨rfl, 1, _, by decide, ho1, fun c => (one_key 48 c _).trans (HK.out c).symm, hg1⟩
set_option maxRecDepth 1000000 in
set_option maxHeartbeats 40000000 in
theorem arm49 (s : ByteArray) (b : Nat) (w : World) (ho : Om w b 0 (.map [])) (hs : s.toList = [105, 103, 110, 111, 114, 101, 100, 45, 100, 121, 110, 97, 109, 105, 99, 45, 105, 109, 112, 111, 114, 116]) : Calls Try.prog 20 #[.string s, .int .i8 3, .map (some b)] w (Ids s b w) := by
  have HK := Lib.hid (Ks_arm (lo := 49) (hi := 49) hs (by decide) (by decide))
  have HO := Lib.hid ho
  clear ho
  have t1 : (s.toList == [97, 115, 115, 101, 114, 116, 45, 116, 111, 45, 119, 105, 116, 104]) = false := by rw [hs]; decide
  have t2 : (s.toList == [97, 115, 115, 101, 114, 116, 45, 116, 121, 112, 101, 45, 106, 115, 111, 110]) = false := by rw [hs]; decide
  have t3 : (s.toList == [97, 115, 115, 105, 103, 110, 45, 116, 111, 45, 99, 111, 110, 115, 116, 97, 110, 116]) = false := by rw [hs]; decide
  have t4 : (s.toList == [97, 115, 115, 105, 103, 110, 45, 116, 111, 45, 100, 101, 102, 105, 110, 101]) = false := by rw [hs]; decide
  have t5 : (s.toList == [97, 115, 115, 105, 103, 110, 45, 116, 111, 45, 105, 109, 112, 111, 114, 116]) = false := by rw [hs]; decide
  have t6 : (s.toList == [98, 105, 103, 105, 110, 116]) = false := by rw [hs]; decide
  have t7 : (s.toList == [99, 97, 108, 108, 45, 105, 109, 112, 111, 114, 116, 45, 110, 97, 109, 101, 115, 112, 97, 99, 101]) = false := by rw [hs]; decide
  have t8 : (s.toList == [99, 108, 97, 115, 115, 45, 110, 97, 109, 101, 45, 119, 105, 108, 108, 45, 116, 104, 114, 111, 119]) = false := by rw [hs]; decide
  have t9 : (s.toList == [99, 111, 109, 109, 111, 110, 106, 115, 45, 118, 97, 114, 105, 97, 98, 108, 101, 45, 105, 110, 45, 101, 115, 109]) = false := by rw [hs]; decide
  have t10 : (s.toList == [99, 111, 110, 102, 117, 115, 105, 110, 103, 45, 116, 121, 112, 101, 115, 99, 114, 105, 112, 116, 45, 99, 97, 115, 116]) = false := by rw [hs]; decide
  have t11 : (s.toList == [100, 101, 108, 101, 116, 101, 45, 115, 117, 112, 101, 114, 45, 112, 114, 111, 112, 101, 114, 116, 121]) = false := by rw [hs]; decide
  have t12 : (s.toList == [100, 105, 114, 101, 99, 116, 45, 101, 118, 97, 108]) = false := by rw [hs]; decide
  have t13 : (s.toList == [100, 117, 112, 108, 105, 99, 97, 116, 101, 45, 99, 97, 115, 101]) = false := by rw [hs]; decide
  have t14 : (s.toList == [100, 117, 112, 108, 105, 99, 97, 116, 101, 45, 99, 108, 97, 115, 115, 45, 109, 101, 109, 98, 101, 114]) = false := by rw [hs]; decide
  have t15 : (s.toList == [100, 117, 112, 108, 105, 99, 97, 116, 101, 45, 111, 98, 106, 101, 99, 116, 45, 107, 101, 121]) = false := by rw [hs]; decide
  have t16 : (s.toList == [101, 109, 112, 116, 121, 45, 105, 109, 112, 111, 114, 116, 45, 109, 101, 116, 97]) = false := by rw [hs]; decide
  have t17 : (s.toList == [101, 113, 117, 97, 108, 115, 45, 110, 97, 110]) = false := by rw [hs]; decide
  have t18 : (s.toList == [101, 113, 117, 97, 108, 115, 45, 110, 101, 103, 97, 116, 105, 118, 101, 45, 122, 101, 114, 111]) = false := by rw [hs]; decide
  have t19 : (s.toList == [101, 113, 117, 97, 108, 115, 45, 110, 101, 119, 45, 111, 98, 106, 101, 99, 116]) = false := by rw [hs]; decide
  have t20 : (s.toList == [104, 116, 109, 108, 45, 99, 111, 109, 109, 101, 110, 116, 45, 105, 110, 45, 106, 115]) = false := by rw [hs]; decide
  have t21 : (s.toList == [105, 109, 112, 111, 115, 115, 105, 98, 108, 101, 45, 116, 121, 112, 101, 111, 102]) = false := by rw [hs]; decide
  have t22 : (s.toList == [105, 110, 100, 105, 114, 101, 99, 116, 45, 114, 101, 113, 117, 105, 114, 101]) = false := by rw [hs]; decide
  have t23 : (s.toList == [112, 114, 105, 118, 97, 116, 101, 45, 110, 97, 109, 101, 45, 119, 105, 108, 108, 45, 116, 104, 114, 111, 119]) = false := by rw [hs]; decide
  have t24 : (s.toList == [115, 101, 109, 105, 99, 111, 108, 111, 110, 45, 97, 102, 116, 101, 114, 45, 114, 101, 116, 117, 114, 110]) = false := by rw [hs]; decide
  have t25 : (s.toList == [115, 117, 115, 112, 105, 99, 105, 111, 117, 115, 45, 98, 111, 111, 108, 101, 97, 110, 45, 110, 111, 116]) = false := by rw [hs]; decide
  have t26 : (s.toList == [115, 117, 115, 112, 105, 99, 105, 111, 117, 115, 45, 100, 101, 102, 105, 110, 101]) = false := by rw [hs]; decide
  have t27 : (s.toList == [115, 117, 115, 112, 105, 99, 105, 111, 117, 115, 45, 108, 111, 103, 105, 99, 97, 108, 45, 111, 112, 101, 114, 97, 116, 111, 114]) = false := by rw [hs]; decide
  have t28 : (s.toList == [115, 117, 115, 112, 105, 99, 105, 111, 117, 115, 45, 110, 117, 108, 108, 105, 115, 104, 45, 99, 111, 97, 108, 101, 115, 99, 105, 110, 103]) = false := by rw [hs]; decide
  have t29 : (s.toList == [116, 104, 105, 115, 45, 105, 115, 45, 117, 110, 100, 101, 102, 105, 110, 101, 100, 45, 105, 110, 45, 101, 115, 109]) = false := by rw [hs]; decide
  have t30 : (s.toList == [117, 110, 115, 117, 112, 112, 111, 114, 116, 101, 100, 45, 100, 121, 110, 97, 109, 105, 99, 45, 105, 109, 112, 111, 114, 116]) = false := by rw [hs]; decide
  have t31 : (s.toList == [117, 110, 115, 117, 112, 112, 111, 114, 116, 101, 100, 45, 106, 115, 120, 45, 99, 111, 109, 109, 101, 110, 116]) = false := by rw [hs]; decide
  have t32 : (s.toList == [117, 110, 115, 117, 112, 112, 111, 114, 116, 101, 100, 45, 114, 101, 103, 101, 120, 112]) = false := by rw [hs]; decide
  have t33 : (s.toList == [117, 110, 115, 117, 112, 112, 111, 114, 116, 101, 100, 45, 114, 101, 113, 117, 105, 114, 101, 45, 99, 97, 108, 108]) = false := by rw [hs]; decide
  have t34 : (s.toList == [99, 115, 115, 45, 115, 121, 110, 116, 97, 120, 45, 101, 114, 114, 111, 114]) = false := by rw [hs]; decide
  have t35 : (s.toList == [105, 110, 118, 97, 108, 105, 100, 45, 64, 99, 104, 97, 114, 115, 101, 116]) = false := by rw [hs]; decide
  have t36 : (s.toList == [105, 110, 118, 97, 108, 105, 100, 45, 64, 105, 109, 112, 111, 114, 116]) = false := by rw [hs]; decide
  have t37 : (s.toList == [105, 110, 118, 97, 108, 105, 100, 45, 64, 108, 97, 121, 101, 114]) = false := by rw [hs]; decide
  have t38 : (s.toList == [105, 110, 118, 97, 108, 105, 100, 45, 99, 97, 108, 99]) = false := by rw [hs]; decide
  have t39 : (s.toList == [106, 115, 45, 99, 111, 109, 109, 101, 110, 116, 45, 105, 110, 45, 99, 115, 115]) = false := by rw [hs]; decide
  have t40 : (s.toList == [117, 110, 100, 101, 102, 105, 110, 101, 100, 45, 99, 111, 109, 112, 111, 115, 101, 115, 45, 102, 114, 111, 109]) = false := by rw [hs]; decide
  have t41 : (s.toList == [117, 110, 115, 117, 112, 112, 111, 114, 116, 101, 100, 45, 64, 99, 104, 97, 114, 115, 101, 116]) = false := by rw [hs]; decide
  have t42 : (s.toList == [117, 110, 115, 117, 112, 112, 111, 114, 116, 101, 100, 45, 64, 110, 97, 109, 101, 115, 112, 97, 99, 101]) = false := by rw [hs]; decide
  have t43 : (s.toList == [117, 110, 115, 117, 112, 112, 111, 114, 116, 101, 100, 45, 99, 115, 115, 45, 112, 114, 111, 112, 101, 114, 116, 121]) = false := by rw [hs]; decide
  have t44 : (s.toList == [117, 110, 115, 117, 112, 112, 111, 114, 116, 101, 100, 45, 99, 115, 115, 45, 110, 101, 115, 116, 105, 110, 103]) = false := by rw [hs]; decide
  have t45 : (s.toList == [97, 109, 98, 105, 103, 117, 111, 117, 115, 45, 114, 101, 101, 120, 112, 111, 114, 116]) = false := by rw [hs]; decide
  have t46 : (s.toList == [100, 105, 102, 102, 101, 114, 101, 110, 116, 45, 112, 97, 116, 104, 45, 99, 97, 115, 101]) = false := by rw [hs]; decide
  have t47 : (s.toList == [101, 109, 112, 116, 121, 45, 103, 108, 111, 98]) = false := by rw [hs]; decide
  have t48 : (s.toList == [105, 103, 110, 111, 114, 101, 100, 45, 98, 97, 114, 101, 45, 105, 109, 112, 111, 114, 116]) = false := by rw [hs]; decide
  have t49 : (s.toList == [105, 103, 110, 111, 114, 101, 100, 45, 100, 121, 110, 97, 109, 105, 99, 45, 105, 109, 112, 111, 114, 116]) = true := by rw [hs]; exact beq_self_eq_true _
  clear hs
  go_enter Try.func20, Try.ntmps20
  go_wp2_with (first
    | (at_mapUpdate; refine wpList_mapUpdate_own _ rfl _ _ _ 69 rfl 5 72 lawM Try.underlying69 RE b 0 _ rfl HO.out (by decide) _ _ _ rfl rfl (keyOf_int_mk Try.underlying5 (by decide)) _ [] (plainElem_int Try.underlying72 (by decide)) ?_; intro w1 ho1 hg1; go_frame)
    | fail)
  go_end0
  exact ⟨rfl, 1, _, by decide, ho1, fun c => (one_key 49 c _).trans (HK.out c).symm, hg1⟩
set_option maxRecDepth 1000000 in
set_option maxHeartbeats 40000000 in
theorem arm50 (s : ByteArray) (b : Nat) (w : World) (ho : Om w b 0 (.map [])) (hs : s.toList = [105, 109, 112, 111, 114, 116, 45, 105, 115, 45, 117, 110, 100, 101, 102, 105, 110, 101, 100]) : Calls Try.prog 20 #[.string s, .int .i8 3, .map (some b)] w (Ids s b w) := by
  have HK := Lib.hid (Ks_arm (lo := 50) (hi := 50) hs (by decide) (by decide))
  have HO := Lib.hid ho
  clear ho
  have t1 : (s.toList == [97, 115, 115, 101, 114, 116, 45, 116, 111, 45, 119, 105, 116, 104]) = false := by rw [hs]; decide
  have t2 : (s.toList == [97, 115, 115, 101, 114, 116, 45, 116, 121, 112, 101, 45, 106, 115, 111, 110]) = false := by rw [hs]; decide
  have t3 : (s.toList == [97, 115, 115, 105, 103, 110, 45, 116, 111, 45, 99, 111, 110, 115, 116, 97, 110, 116]) = false := by rw [hs]; decide
  have t4 : (s.toList == [97, 115, 115, 105, 103, 110, 45, 116, 111, 45, 100, 101, 102, 105, 110, 101]) = false := by rw [hs]; decide
  have t5 : (s.toList == [97, 115, 115, 105, 103, 110, 45, 116, 111, 45, 105, 109, 112, 111, 114, 116]) = false := by rw [hs]; decide
  have t6 : (s.toList == [98, 105, 103, 105, 110, 116]) = false := by rw [hs]; decide
  have t7 : (s.toList == [99, 97, 108, 108, 45, 105, 109, 112, 111, 114, 116, 45, 110, 97, 109, 101, 115, 112, 97, 99, 101]) = false := by rw [hs]; decide
  have t8 : (s.toList == [99, 108, 97, 115, 115, 45, 110, 97, 109, 101, 45, 119, 105, 108, 108, 45, 116, 104, 114, 111, 119]) = false := by rw [hs]; decide
  have t9 : (s.toList == [99, 111, 109, 109, 111, 110, 106, 115, 45, 118, 97, 114, 105, 97, 98, 108, 101, 45, 105, 110, 45, 101, 115, 109]) = false := by rw [hs]; decide
  have t10 : (s.toList == [99, 111, 110, 102, 117, 115, 105, 110, 103, 45, 116, 121, 112, 101, 115, 99, 114, 105, 112, 116, 45, 99, 97, 115, 116]) = false := by rw [hs]; decide
  have t11 : (s.toList == [100, 101, 108, 101, 116, 101, 45, 115, 117, 112, 101, 114, 45, 112, 114, 111, 112, 101, 114, 116, 121]) = false := by rw [hs]; decide
  have t12 : (s.toList == [100, 105, 114, 101, 99, 116, 45, 101, 118, 97, 108]) = false := by rw [hs]; decide
  have t13 : (s.toList == [100, 117, 112, 108, 105, 99, 97, 116, 101, 45, 99, 97, 115, 101]) = false := by rw [hs]; decide
  have t14 : (s.toList == [100, 117, 112, 108, 105, 99, 97, 116, 101, 45, 99, 108, 97, 115, 115, 45, 109, 101, 109, 98, 101, 114]) = false := by rw [hs]; decide
  have t15 : (s.toList == [100, 117, 112, 108, 105, 99, 97, 116, 101, 45, 111, 98, 106, 101, 99, 116, 45, 107, 101, 121]) = false := by rw [hs]; decide
  have t16 : (s.toList == [101, 109, 112, 116, 121, 45, 105, 109, 112, 111, 114, 116, 45, 109, 101, 116, 97]) = false := by rw [hs]; decide
  have t17 : (s.toList == [101, 113, 117, 97, 108, 115, 45, 110, 97, 110]) = false := by rw [hs]; decide
  have t18 : (s.toList == [101, 113, 117, 97, 108, 115, 45, 110, 101, 103, 97, 116, 105, 118, 101, 45, 122, 101, 114, 111]) = false := by rw [hs]; decide
  have t19 : (s.toList == [101, 113, 117, 97, 108, 115, 45, 110, 101, 119, 45, 111, 98, 106, 101, 99, 116]) = false := by rw [hs]; decide
  have t20 : (s.toList == [104, 116, 109, 108, 45, 99, 111, 109, 109, 101, 110, 116, 45, 105, 110, 45, 106, 115]) = false := by rw [hs]; decide
  have t21 : (s.toList == [105, 109, 112, 111, 115, 115, 105, 98, 108, 101, 45, 116, 121, 112, 101, 111, 102]) = false := by rw [hs]; decide
  have t22 : (s.toList == [105, 110, 100, 105, 114, 101, 99, 116, 45, 114, 101, 113, 117, 105, 114, 101]) = false := by rw [hs]; decide
  have t23 : (s.toList == [112, 114, 105, 118, 97, 116, 101, 45, 110, 97, 109, 101, 45, 119, 105, 108, 108, 45, 116, 104, 114, 111, 119]) = false := by rw [hs]; decide
  have t24 : (s.toList == [115, 101, 109, 105, 99, 111, 108, 111, 110, 45, 97, 102, 116, 101, 114, 45, 114, 101, 116, 117, 114, 110]) = false := by rw [hs]; decide
  have t25 : (s.toList == [115, 117, 115, 112, 105, 99, 105, 111, 117, 115, 45, 98, 111, 111, 108, 101, 97, 110, 45, 110, 111, 116]) = false := by rw [hs]; decide
  have t26 : (s.toList == [115, 117, 115, 112, 105, 99, 105, 111, 117, 115, 45, 100, 101, 102, 105, 110, 101]) = false := by rw [hs]; decide
  have t27 : (s.toList == [115, 117, 115, 112, 105, 99, 105, 111, 117, 115, 45, 108, 111, 103, 105, 99, 97, 108, 45, 111, 112, 101, 114, 97, 116, 111, 114]) = false := by rw [hs]; decide
  have t28 : (s.toList == [115, 117, 115, 112, 105, 99, 105, 111, 117, 115, 45, 110, 117, 108, 108, 105, 115, 104, 45, 99, 111, 97, 108, 101, 115, 99, 105, 110, 103]) = false := by rw [hs]; decide
  have t29 : (s.toList == [116, 104, 105, 115, 45, 105, 115, 45, 117, 110, 100, 101, 102, 105, 110, 101, 100, 45, 105, 110, 45, 101, 115, 109]) = false := by rw [hs]; decide
  have t30 : (s.toList == [117, 110, 115, 117, 112, 112, 111, 114, 116, 101, 100, 45, 100, 121, 110, 97, 109, 105, 99, 45, 105, 109, 112, 111, 114, 116]) = false := by rw [hs]; decide
  have t31 : (s.toList == [117, 110, 115, 117, 112, 112, 111, 114, 116, 101, 100, 45, 106, 115, 120, 45, 99, 111, 109, 109, 101, 110, 116]) = false := by rw [hs]; decide
  have t32 : (s.toList == [117, 110, 115, 117, 112, 112, 111, 114, 116, 101, 100, 45, 114, 101, 103, 101, 120, 112]) = false := by rw [hs]; decide
  have t33 : (s.toList == [117, 110, 115, 117, 112, 112, 111, 114, 116, 101, 100, 45, 114, 101, 113, 117, 105, 114, 101, 45, 99, 97, 108, 108]) = false := by rw [hs]; decide
  have t34 : (s.toList == [99, 115, 115, 45, 115, 121, 110, 116, 97, 120, 45, 101, 114, 114, 111, 114]) = false := by rw [hs]; decide
  have t35 : (s.toList == [105, 110, 118, 97, 108, 105, 100, 45, 64, 99, 104, 97, 114, 115, 101, 116]) = false := by rw [hs]; decide
  have t36 : (s.toList == [105, 110, 118, 97, 108, 105, 100, 45, 64, 105, 109, 112, 111, 114, 116]) = false := by rw [hs]; decide
  have t37 : (s.toList == [105, 110, 118, 97, 108, 105, 100, 45, 64, 108, 97, 121, 101, 114]) = false := by rw [hs]; decide
  have t38 : (s.toList == [105, 110, 118, 97, 108, 105, 100, 45, 99, 97, 108, 99]) = false := by rw [hs]; decide
  have t39 : (s.toList == [106, 115, 45, 99, 111, 109, 109, 101, 110, 116, 45, 105, 110, 45, 99, 115, 115]) = false := by rw [hs]; decide
  have t40 : (s.toList == [117, 110, 100, 101, 102, 105, 110, 101, 100, 45, 99, 111, 109, 112, 111, 115, 101, 115, 45, 102, 114, 111, 109]) = false := by rw [hs]; decide
  have t41 : (s.toList == [117, 110, 115, 117, 112, 112, 111, 114, 116, 101, 100, 45, 64, 99, 104, 97, 114, 115, 101, 116]) = false := by rw [hs]; decide
  have t42 : (s.toList == [117, 110, 115, 117, 112, 112, 111, 114, 116, 101, 100, 45, 64, 110, 97, 109, 101, 115, 112, 97, 99, 101]) = false := by rw [hs]; decide
  have t43 : (s.toList == [117, 110, 115, 117, 112, 112, 111, 114, 116, 101, 100, 45, 99, 115, 115, 45, 112, 114, 111, 112, 101, 114, 116, 121]) = false := by rw [hs]; decide
  have t44 : (s.toList == [117, 110, 115, 117, 112, 112, 111, 114, 116, 101, 100, 45, 99, 115, 115, 45, 110, 101, 115, 116, 105, 110, 103]) = false := by rw [hs]; decide
  have t45 : (s.toList == [97, 109, 98, 105, 103, 117, 111, 117, 115, 45, 114, 101, 101, 120, 112, 111, 114, 116]) = false := by rw [hs]; decide
  have t46 : (s.toList == [100, 105, 102, 102, 101, 114, 101, 110, 116, 45, 112, 97, 116, 104, 45, 99, 97, 115, 101]) = false := by rw [hs]; decide
  have t47 : (s.toList == [101, 109, 112, 116, 121, 45, 103, 108, 111, 98]) = false := by rw [hs]; decide
  have t48 : (s.toList == [105, 103, 110, 111, 114, 101, 100, 45, 98, 97, 114, 101, 45, 105, 109, 112, 111, 114, 116]) = false := by rw [hs]; decide
  have t49 : (s.toList == [105, 103, 110, 111, 114, 101, 100, 45, 100, 121, 110, 97, 109, 105, 99, 45, 105, 109, 112, 111, 114, 116]) = false := by rw [hs]; decide
  have t50 : (s.toList == [105, 109, 112, 111, 114, 116, 45, 105, 115, 45, 117, 110, 100, 101, 102, 105, 110, 101, 100]) = true := by rw [hs]; exact beq_self_eq_true _
  clear hs
  go_enter Try.func20, Try.ntmps20
  go_wp2_with (first
    | (at_mapUpdate; refine wpList_mapUpdate_own _ rfl _ _ _ 69 rfl 5 72 lawM Try.underlying69 RE b 0 _ rfl HO.out (by decide) _ _ _ rfl rfl (keyOf_int_mk Try.underlying5 (by decide)) _ [] (plainElem_int Try.underlying72 (by decide)) ?_; intro w1 ho1 hg1; go_frame)
    | fail)
  go_end0
  exact ⟨rfl, 1, _, by decide, ho1, fun c => (one_key 50 c _).trans (HK.out c).symm, hg1⟩
end Go.Proofs.Ytmjfdhgfpgeboad.Idp
