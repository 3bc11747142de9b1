/-
  Proved: the first 24 arms of the switch in StringToMsgIDs: at its name an arm sets just its numbers in the map. Conditions: those that each theorem
  names as its hypotheses, and no others.
-/
import Derived.Test.YtmjfdhgfpgeboadIdp
import Derived.Test.YtmjfdhgfpgeboadIdk
namespace Go.Proofs.Ytmjfdhgfpgeboad.Idp
open Go.RowKit Go.Maps Go.WideMaps
set_option linter.unusedVariables false
set_option linter.unusedSimpArgs false
set_option maxRecDepth 1000000 in
set_option maxHeartbeats 40000000 in
theorem arm1 (s : ByteArray) (b : Nat) (w : World) (ho : Om w b 0 (.map [])) (hs : s.toList = [97, 115, 115, 101, 114, 116, 45, 116, 111, 45, 119, 105, 116, 104]) : Calls Try.prog 20 #[.string s, .int .i8 3, .map (some b)] w (Ids s b w) := by
  have HK := Lib.hid (Ks_arm (lo := 1) (hi := 1) hs (by decide) (by decide))
  have HO := Lib.hid ho
  clear ho
  have t1 : (s.toList == [97, 115, 115, 101, 114, 116, 45, 116, 111, 45, 119, 105, 116, 104]) = true := by rw [hs]; exact beq_self_eq_true _
  clear hs
  go_enter Try.func20, Try.ntmps20
  go_wp2_with (first
    | (at_mapUpdate; refine wpList_mapUpdate_own _ rfl _ _ _ 69 rfl 5 72 lawM Try.underlying69 RE b 0 _ rfl HO.out (by decide) _ _ _ rfl rfl (keyOf_int_mk Try.underlying5 (by decide)) _ [] (plainElem_int Try.underlying72 (by decide)) ?_; intro w1 ho1 hg1; go_frame)
    | fail)
  go_end0
  exact ⟨rfl, 1, _, by decide, ho1, fun c => (one_key 1 c _).trans (HK.out c).symm, hg1⟩
set_option maxRecDepth 1000000 in
set_option maxHeartbeats 40000000 in
theorem arm2 (s : ByteArray) (b : Nat) (w : World) (ho : Om w b 0 (.map [])) (hs : s.toList = [97, 115, 115, 101, 114, 116, 45, 116, 121, 112, 101, 45, 106, 115, 111, 110]) : Calls Try.prog 20 #[.string s, .int .i8 3, .map (some b)] w (Ids s b w) := by
  have HK := Lib.hid (Ks_arm (lo := 2) (hi := 2) hs (by decide) (by decide))
  have HO := Lib.hid ho
  clear ho
  have t1 : (s.toList == [97, 115, 115, 101, 114, 116, 45, 116, 111, 45, 119, 105, 116, 104]) = false := by rw [hs]; decide
  have t2 : (s.toList == [97, 115, 115, 101, 114, 116, 45, 116, 121, 112, 101, 45, 106, 115, 111, 110]) = true := by rw [hs]; exact beq_self_eq_true _
  clear hs
  go_enter Try.func20, Try.ntmps20
  go_wp2_with (first
    | (at_mapUpdate; refine wpList_mapUpdate_own _ rfl _ _ _ 69 rfl 5 72 lawM Try.underlying69 RE b 0 _ rfl HO.out (by decide) _ _ _ rfl rfl (keyOf_int_mk Try.underlying5 (by decide)) _ [] (plainElem_int Try.underlying72 (by decide)) ?_; intro w1 ho1 hg1; go_frame)
    | fail)
  go_end0
  exact ⟨rfl, 1, _, by decide, ho1, fun c => (one_key 2 c _).trans (HK.out c).symm, hg1⟩
set_option maxRecDepth 1000000 in
set_option maxHeartbeats 40000000 in
theorem arm3 (s : ByteArray) (b : Nat) (w : World) (ho : Om w b 0 (.map [])) (hs : s.toList = [97, 115, 115, 105, 103, 110, 45, 116, 111, 45, 99, 111, 110, 115, 116, 97, 110, 116]) : Calls Try.prog 20 #[.string s, .int .i8 3, .map (some b)] w (Ids s b w) := by
  have HK := Lib.hid (Ks_arm (lo := 3) (hi := 3) hs (by decide) (by decide))
  have HO := Lib.hid ho
  clear ho
  have t1 : (s.toList == [97, 115, 115, 101, 114, 116, 45, 116, 111, 45, 119, 105, 116, 104]) = false := by rw [hs]; decide
  have t2 : (s.toList == [97, 115, 115, 101, 114, 116, 45, 116, 121, 112, 101, 45, 106, 115, 111, 110]) = false := by rw [hs]; decide
  have t3 : (s.toList == [97, 115, 115, 105, 103, 110, 45, 116, 111, 45, 99, 111, 110, 115, 116, 97, 110, 116]) = true := by rw [hs]; exact beq_self_eq_true _
  clear hs
  go_enter Try.func20, Try.ntmps20
  go_wp2_with (first
    | (at_mapUpdate; refine wpList_mapUpdate_own _ rfl _ _ _ 69 rfl 5 72 lawM Try.underlying69 RE b 0 _ rfl HO.out (by decide) _ _ _ rfl rfl (keyOf_int_mk Try.underlying5 (by decide)) _ [] (plainElem_int Try.underlying72 (by decide)) ?_; intro w1 ho1 hg1; go_frame)
    | fail)
  go_end0
  exact ⟨rfl, 1, _, by decide, ho1, fun c => (one_key 3 c _).trans (HK.out c).symm, hg1⟩
set_option maxRecDepth 1000000 in
set_option maxHeartbeats 40000000 in
theorem arm4 (s : ByteArray) (b : Nat) (w : World) (ho : Om w b 0 (.map [])) (hs : s.toList = [97, 115, 115, 105, 103, 110, 45, 116, 111, 45, 100, 101, 102, 105, 110, 101]) : Calls Try.prog 20 #[.string s, .int .i8 3, .map (some b)] w (Ids s b w) := by
  have HK := Lib.hid (Ks_arm (lo := 4) (hi := 4) hs (by decide) (by decide))
  have HO := Lib.hid ho
  clear ho
  have t1 : (s.toList == [97, 115, 115, 101, 114, 116, 45, 116, 111, 45, 119, 105, 116, 104]) = false := by rw [hs]; decide
  have t2 : (s.toList == [97, 115, 115, 101, 114, 116, 45, 116, 121, 112, 101, 45, 106, 115, 111, 110]) = false := by rw [hs]; decide
  have t3 : (s.toList == [97, 115, 115, 105, 103, 110, 45, 116, 111, 45, 99, 111, 110, 115, 116, 97, 110, 116]) = false := by rw [hs]; decide
  have t4 : (s.toList == [97, 115, 115, 105, 103, 110, 45, 116, 111, 45, 100, 101, 102, 105, 110, 101]) = true := by rw [hs]; exact beq_self_eq_true _
  clear hs
  go_enter Try.func20, Try.ntmps20
  go_wp2_with (first
    | (at_mapUpdate; refine wpList_mapUpdate_own _ rfl _ _ _ 69 rfl 5 72 lawM Try.underlying69 RE b 0 _ rfl HO.out (by decide) _ _ _ rfl rfl (keyOf_int_mk Try.underlying5 (by decide)) _ [] (plainElem_int Try.underlying72 (by decide)) ?_; intro w1 ho1 hg1; go_frame)
    | fail)
  go_end0
  exact ⟨rfl, 1, _, by decide, ho1, fun c => (one_key 4 c _).trans (HK.out c).symm, hg1⟩
set_option maxRecDepth 1000000 in
set_option maxHeartbeats 40000000 in
theorem arm5 (s : ByteArray) (b : Nat) (w : World) (ho : Om w b 0 (.map [])) (hs : s.toList = [97, 115, 115, 105, 103, 110, 45, 116, 111, 45, 105, 109, 112, 111, 114, 116]) : Calls Try.prog 20 #[.string s, .int .i8 3, .map (some b)] w (Ids s b w) := by
  have HK := Lib.hid (Ks_arm (lo := 5) (hi := 5) hs (by decide) (by decide))
  have HO := Lib.hid ho
  clear ho
  have t1 : (s.toList == [97, 115, 115, 101, 114, 116, 45, 116, 111, 45, 119, 105, 116, 104]) = false := by rw [hs]; decide
  have t2 : (s.toList == [97, 115, 115, 101, 114, 116, 45, 116, 121, 112, 101, 45, 106, 115, 111, 110]) = false := by rw [hs]; decide
  have t3 : (s.toList == [97, 115, 115, 105, 103, 110, 45, 116, 111, 45, 99, 111, 110, 115, 116, 97, 110, 116]) = false := by rw [hs]; decide
  have t4 : (s.toList == [97, 115, 115, 105, 103, 110, 45, 116, 111, 45, 100, 101, 102, 105, 110, 101]) = false := by rw [hs]; decide
  have t5 : (s.toList == [97, 115, 115, 105, 103, 110, 45, 116, 111, 45, 105, 109, 112, 111, 114, 116]) = true := by rw [hs]; exact beq_self_eq_true _
  clear hs
  go_enter Try.func20, Try.ntmps20
  go_wp2_with (first
    | (at_mapUpdate; refine wpList_mapUpdate_own _ rfl _ _ _ 69 rfl 5 72 lawM Try.underlying69 RE b 0 _ rfl HO.out (by decide) _ _ _ rfl rfl (keyOf_int_mk Try.underlying5 (by decide)) _ [] (plainElem_int Try.underlying72 (by decide)) ?_; intro w1 ho1 hg1; go_frame)
    | fail)
  go_end0
  exact ⟨rfl, 1, _, by decide, ho1, fun c => (one_key 5 c _).trans (HK.out c).symm, hg1⟩
set_option maxRecDepth 1000000 in
set_option maxHeartbeats 40000000 in
theorem arm6 (s : ByteArray) (b : Nat) (w : World) (ho : Om w b 0 (.map [])) (hs : s.toList = [98, 105, 103, 105, 110, 116]) : Calls Try.prog 20 #[.string s, .int .i8 3, .map (some b)] w (Ids s b w) := by
  have HK := Lib.hid (Ks_arm (lo := 6) (hi := 6) hs (by decide) (by decide))
  have HO := Lib.hid ho
  clear ho
  have t1 : (s.toList == [97, 115, 115, 101, 114, 116, 45, 116, 111, 45, 119, 105, 116, 104]) = false := by rw [hs]; decide
  have t2 : (s.toList == [97, 115, 115, 101, 114, 116, 45, 116, 121, 112, 101, 45, 106, 115, 111, 110]) = false := by rw [hs]; decide
  have t3 : (s.toList == [97, 115, 115, 105, 103, 110, 45, 116, 111, 45, 99, 111, 110, 115, 116, 97, 110, 116]) = false := by rw [hs]; decide
  have t4 : (s.toList == [97, 115, 115, 105, 103, 110, 45, 116, 111, 45, 100, 101, 102, 105, 110, 101]) = false := by rw [hs]; decide
  have t5 : (s.toList == [97, 115, 115, 105, 103, 110, 45, 116, 111, 45, 105, 109, 112, 111, 114, 116]) = false := by rw [hs]; decide
  have t6 : (s.toList == [98, 105, 103, 105, 110, 116]) = true := by rw [hs]; exact beq_self_eq_true _
  clear hs
  go_enter Try.func20, Try.ntmps20
  go_wp2_with (first
    | (at_mapUpdate; refine wpList_mapUpdate_own _ rfl _ _ _ 69 rfl 5 72 lawM Try.underlying69 RE b 0 _ rfl HO.out (by decide) _ _ _ rfl rfl (keyOf_int_mk Try.underlying5 (by decide)) _ [] (plainElem_int Try.underlying72 (by decide)) ?_; intro w1 ho1 hg1; go_frame)
    | fail)
  go_end0
  exact ⟨rfl, 1, _, by decide, ho1, fun c => (one_key 6 c _).trans (HK.out c).symm, hg1⟩
set_option maxRecDepth 1000000 in
set_option maxHeartbeats 40000000 in
theorem arm7 (s : ByteArray) (b : Nat) (w : World) (ho : Om w b 0 (.map [])) (hs : s.toList = [99, 97, 108, 108, 45, 105, 109, 112, 111, 114, 116, 45, 110, 97, 109, 101, 115, 112, 97, 99, 101]) : Calls Try.prog 20 #[.string s, .int .i8 3, .map (some b)] w (Ids s b w) := by
  have HK := Lib.hid (Ks_arm (lo := 7) (hi := 7) hs (by decide) (by decide))
  have HO := Lib.hid ho
  clear ho
  have t1 : (s.toList == [97, 115, 115, 101, 114, 116, 45, 116, 111, 45, 119, 105, 116, 104]) = false := by rw [hs]; decide
  have t2 : (s.toList == [97, 115, 115, 101, 114, 116, 45, 116, 121, 112, 101, 45, 106, 115, 111, 110]) = false := by rw [hs]; decide
  have t3 : (s.toList == [97, 115, 115, 105, 103, 110, 45, 116, 111, 45, 99, 111, 110, 115, 116, 97, 110, 116]) = false := by rw [hs]; decide
  have t4 : (s.toList == [97, 115, 115, 105, 103, 110, 45, 116, 111, 45, 100, 101, 102, 105, 110, 101]) = false := by rw [hs]; decide
  have t5 : (s.toList == [97, 115, 115, 105, 103, 110, 45, 116, 111, 45, 105, 109, 112, 111, 114, 116]) = false := by rw [hs]; decide
  have t6 : (s.toList == [98, 105, 103, 105, 110, 116]) = false := by rw [hs]; decide
  have t7 : (s.toList == [99, 97, 108, 108, 45, 105, 109, 112, 111, 114, 116, 45, 110, 97, 109, 101, 115, 112, 97, 99, 101]) = true := by rw [hs]; exact beq_self_eq_true _
  clear hs
  go_enter Try.func20, Try.ntmps20
  go_wp2_with (first
    | (at_mapUpdate; refine wpList_mapUpdate_own _ rfl _ _ _ 69 rfl 5 72 lawM Try.underlying69 RE b 0 _ rfl HO.out (by decide) _ _ _ rfl rfl (keyOf_int_mk Try.underlying5 (by decide)) _ [] (plainElem_int Try.underlying72 (by decide)) ?_; intro w1 ho1 hg1; go_frame)
    | fail)
  go_end0
  exact ⟨rfl, 1, _, by decide, ho1, fun c => (one_key 7 c _).trans (HK.out c).symm, hg1⟩
set_option maxRecDepth 1000000 in
set_option maxHeartbeats 40000000 in
theorem arm8 (s : ByteArray) (b : Nat) (w : World) (ho : Om w b 0 (.map [])) (hs : s.toList = [99, 108, 97, 115, 115, 45, 110, 97, 109, 101, 45, 119, 105, 108, 108, 45, 116, 104, 114, 111, 119]) : Calls Try.prog 20 #[.string s, .int .i8 3, .map (some b)] w (Ids s b w) := by
  have HK := Lib.hid (Ks_arm (lo := 8) (hi := 8) hs (by decide) (by decide))
  have HO := Lib.hid ho
  clear ho
  have t1 : (s.toList == [97, 115, 115, 101, 114, 116, 45, 116, 111, 45, 119, 105, 116, 104]) = false := by rw [hs]; decide
  have t2 : (s.toList == [97, 115, 115, 101, 114, 116, 45, 116, 121, 112, 101, 45, 106, 115, 111, 110]) = false := by rw [hs]; decide
  have t3 : (s.toList == [97, 115, 115, 105, 103, 110, 45, 116, 111, 45, 99, 111, 110, 115, 116, 97, 110, 116]) = false := by rw [hs]; decide
  have t4 : (s.toList == [97, 115, 115, 105, 103, 110, 45, 116, 111, 45, 100, 101, 102, 105, 110, 101]) = false := by rw [hs]; decide
  have t5 : (s.toList == [97, 115, 115, 105, 103, 110, 45, 116, 111, 45, 105, 109, 112, 111, 114, 116]) = false := by rw [hs]; decide
  have t6 : (s.toList == [98, 105, 103, 105, 110, 116]) = false := by rw [hs]; decide
  have t7 : (s.toList == [99, 97, 108, 108, 45, 105, 109, 112, 111, 114, 116, 45, 110, 97, 109, 101, 115, 112, 97, 99, 101]) = false := by rw [hs]; decide
  have t8 : (s.toList == [99, 108, 97, 115, 115, 45, 110, 97, 109, 101, 45, 119, 105, 108, 108, 45, 116, 104, 114, 111, 119]) = true := by rw [hs]; exact beq_self_eq_true _
  clear hs
  go_enter Try.func20, Try.ntmps20
  go_wp2_with (first
    | (at_mapUpdate; refine wpList_mapUpdate_own _ rfl _ _ _ 69 rfl 5 72 lawM Try.underlying69 RE b 0 _ rfl HO.out (by decide) _ _ _ rfl rfl (keyOf_int_mk Try.underlying5 (by decide)) _ [] (plainElem_int Try.underlying72 (by decide)) ?_; intro w1 ho1 hg1; go_frame)
    | fail)
  go_end0
  exact ⟨rfl, 1, _, by decide, ho1, fun c => (one_key 8 c _).trans (HK.out c).symm, hg1⟩
set_option maxRecDepth 1000000 in
set_option maxHeartbeats 40000000 in
theorem arm9 (s : ByteArray) (b : Nat) (w : World) (ho : Om w b 0 (.map [])) (hs : s.toList = [99, 111, 109, 109, 111, 110, 106, 115, 45, 118, 97, 114, 105, 97, 98, 108, 101, 45, 105, 110, 45, 101, 115, 109]) : Calls Try.prog 20 #[.string s, .int .i8 3, .map (some b)] w (Ids s b w) := by
  have HK := Lib.hid (Ks_arm (lo := 9) (hi := 9) hs (by decide) (by decide))
  have HO := Lib.hid ho
  clear ho
  have t1 : (s.toList == [97, 115, 115, 101, 114, 116, 45, 116, 111, 45, 119, 105, 116, 104]) = false := by rw [hs]; decide
  have t2 : (s.toList == [97, 115, 115, 101, 114, 116, 45, 116, 121, 112, 101, 45, 106, 115, 111, 110]) = false := by rw [hs]; decide
  have t3 : (s.toList == [97, 115, 115, 105, 103, 110, 45, 116, 111, 45, 99, 111, 110, 115, 116, 97, 110, 116]) = false := by rw [hs]; decide
  have t4 : (s.toList == [97, 115, 115, 105, 103, 110, 45, 116, 111, 45, 100, 101, 102, 105, 110, 101]) = false := by rw [hs]; decide
  have t5 : (s.toList == [97, 115, 115, 105, 103, 110, 45, 116, 111, 45, 105, 109, 112, 111, 114, 116]) = false := by rw [hs]; decide
  have t6 : (s.toList == [98, 105, 103, 105, 110, 116]) = false := by rw [hs]; decide
  have t7 : (s.toList == [99, 97, 108, 108, 45, 105, 109, 112, 111, 114, 116, 45, 110, 97, 109, 101, 115, 112, 97, 99, 101]) = false := by rw [hs]; decide
  have t8 : (s.toList == [99, 108, 97, 115, 115, 45, 110, 97, 109, 101, 45, 119, 105, 108, 108, 45, 116, 104, 114, 111, 119]) = false := by rw [hs]; decide
  have t9 : (s.toList == [99, 111, 109, 109, 111, 110, 106, 115, 45, 118, 97, 114, 105, 97, 98, 108, 101, 45, 105, 110, 45, 101, 115, 109]) = true := by rw [hs]; exact beq_self_eq_true _
  clear hs
  go_enter Try.func20, Try.ntmps20
  go_wp2_with (first
    | (at_mapUpdate; refine wpList_mapUpdate_own _ rfl _ _ _ 69 rfl 5 72 lawM Try.underlying69 RE b 0 _ rfl HO.out (by decide) _ _ _ rfl rfl (keyOf_int_mk Try.underlying5 (by decide)) _ [] (plainElem_int Try.underlying72 (by decide)) ?_; intro w1 ho1 hg1; go_frame)
    | fail)
  go_end0
  exact ⟨rfl, 1, _, by decide, ho1, fun c => (one_key 9 c _).trans (HK.out c).symm, hg1⟩
set_option maxRecDepth 1000000 in
set_option maxHeartbeats 40000000 in
theorem arm10 (s : ByteArray) (b : Nat) (w : World) (ho : Om w b 0 (.map [])) (hs : s.toList = [99, 111, 110, 102, 117, 115, 105, 110, 103, 45, 116, 121, 112, 101, 115, 99, 114, 105, 112, 116, 45, 99, 97, 115, 116]) : Calls Try.prog 20 #[.string s, .int .i8 3, .map (some b)] w (Ids s b w) := by
  have HK := Lib.hid (Ks_arm (lo := 10) (hi := 10) hs (by decide) (by decide))
  have HO := Lib.hid ho
  clear ho
  have t1 : (s.toList == [97, 115, 115, 101, 114, 116, 45, 116, 111, 45, 119, 105, 116, 104]) = false := by rw [hs]; decide
  have t2 : (s.toList == [97, 115, 115, 101, 114, 116, 45, 116, 121, 112, 101, 45, 106, 115, 111, 110]) = false := by rw [hs]; decide
  have t3 : (s.toList == [97, 115, 115, 105, 103, 110, 45, 116, 111, 45, 99, 111, 110, 115, 116, 97, 110, 116]) = false := by rw [hs]; decide
  have t4 : (s.toList == [97, 115, 115, 105, 103, 110, 45, 116, 111, 45, 100, 101, 102, 105, 110, 101]) = false := by rw [hs]; decide
  have t5 : (s.toList == [97, 115, 115, 105, 103, 110, 45, 116, 111, 45, 105, 109, 112, 111, 114, 116]) = false := by rw [hs]; decide
  have t6 : (s.toList == [98, 105, 103, 105, 110, 116]) = false := by rw [hs]; decide
  have t7 : (s.toList == [99, 97, 108, 108, 45, 105, 109, 112, 111, 114, 116, 45, 110, 97, 109, 101, 115, 112, 97, 99, 101]) = false := by rw [hs]; decide
  have t8 : (s.toList == [99, 108, 97, 115, 115, 45, 110, 97, 109, 101, 45, 119, 105, 108, 108, 45, 116, 104, 114, 111, 119]) = false := by rw [hs]; decide
  have t9 : (s.toList == [99, 111, 109, 109, 111, 110, 106, 115, 45, 118, 97, 114, 105, 97, 98, 108, 101, 45, 105, 110, 45, 101, 115, 109]) = false := by rw [hs]; decide
  have t10 : (s.toList == [99, 111, 110, 102, 117, 115, 105, 110, 103, 45, 116, 121, 112, 101, 115, 99, 114, 105, 112, 116, 45, 99, 97, 115, 116]) = true := by rw [hs]; exact beq_self_eq_true _
  clear hs
  go_enter Try.func20, Try.ntmps20
  go_wp2_with (first
    | (at_mapUpdate; refine wpList_mapUpdate_own _ rfl _ _ _ 69 rfl 5 72 lawM Try.underlying69 RE b 0 _ rfl HO.out (by decide) _ _ _ rfl rfl (keyOf_int_mk Try.underlying5 (by decide)) _ [] (plainElem_int Try.underlying72 (by decide)) ?_; intro w1 ho1 hg1; go_frame)
    | fail)
  go_end0
  exact ⟨rfl, 1, _, by decide, ho1, fun c => (one_key 10 c _).trans (HK.out c).symm, hg1⟩
set_option maxRecDepth 1000000 in
set_option maxHeartbeats 40000000 in
theorem arm11 (s : ByteArray) (b : Nat) (w : World) (ho : Om w b 0 (.map [])) (hs : s.toList = [100, 101, 108, 101, 116, 101, 45, 115, 117, 112, 101, 114, 45, 112, 114, 111, 112, 101, 114, 116, 121]) : Calls Try.prog 20 #[.string s, .int .i8 3, .map (some b)] w (Ids s b w) := by
  have HK := Lib.hid (Ks_arm (lo := 11) (hi := 11) hs (by decide) (by decide))
  have HO := Lib.hid ho
  clear ho
  have t1 : (s.toList == [97, 115, 115, 101, 114, 116, 45, 116, 111, 45, 119, 105, 116, 104]) = false := by rw [hs]; decide
  have t2 : (s.toList == [97, 115, 115, 101, 114, 116, 45, 116, 121, 112, 101, 45, 106, 115, 111, 110]) = false := by rw [hs]; decide
  have t3 : (s.toList == [97, 115, 115, 105, 103, 110, 45, 116, 111, 45, 99, 111, 110, 115, 116, 97, 110, 116]) = false := by rw [hs]; decide
  have t4 : (s.toList == [97, 115, 115, 105, 103, 110, 45, 116, 111, 45, 100, 101, 102, 105, 110, 101]) = false := by rw [hs]; decide
  have t5 : (s.toList == [97, 115, 115, 105, 103, 110, 45, 116, 111, 45, 105, 109, 112, 111, 114, 116]) = false := by rw [hs]; decide
  have t6 : (s.toList == [98, 105, 103, 105, 110, 116]) = false := by rw [hs]; decide
  have t7 : (s.toList == [99, 97, 108, 108, 45, 105, 109, 112, 111, 114, 116, 45, 110, 97, 109, 101, 115, 112, 97, 99, 101]) = false := by rw [hs]; decide
  have t8 : (s.toList == [99, 108, 97, 115, 115, 45, 110, 97, 109, 101, 45, 119, 105, 108, 108, 45, 116, 104, 114, 111, 119]) = false := by rw [hs]; decide
  have t9 : (s.toList == [99, 111, 109, 109, 111, 110, 106, 115, 45, 118, 97, 114, 105, 97, 98, 108, 101, 45, 105, 110, 45, 101, 115, 109]) = false := by rw [hs]; decide
  have t10 : (s.toList == [99, 111, 110, 102, 117, 115, 105, 110, 103, 45, 116, 121, 112, 101, 115, 99, 114, 105, 112, 116, 45, 99, 97, 115, 116]) = false := by rw [hs]; decide
  have t11 : (s.toList == [100, 101, 108, 101, 116, 101, 45, 115, 117, 112, 101, 114, 45, 112, 114, 111, 112, 101, 114, 116, 121]) = true := by rw [hs]; exact beq_self_eq_true _
  clear hs
  go_enter Try.func20, Try.ntmps20
  go_wp2_with (first
    | (at_mapUpdate; refine wpList_mapUpdate_own _ rfl _ _ _ 69 rfl 5 72 lawM Try.underlying69 RE b 0 _ rfl HO.out (by decide) _ _ _ rfl rfl (keyOf_int_mk Try.underlying5 (by decide)) _ [] (plainElem_int Try.underlying72 (by decide)) ?_; intro w1 ho1 hg1; go_frame)
    | fail)
  go_end0
  exact ⟨rfl, 1, _, by decide, ho1, fun c => (one_key 11 c _).trans (HK.out c).symm, hg1⟩
set_option maxRecDepth 1000000 in
set_option maxHeartbeats 40000000 in
theorem arm12 (s : ByteArray) (b : Nat) (w : World) (ho : Om w b 0 (.map [])) (hs : s.toList = [100, 105, 114, 101, 99, 116, 45, 101, 118, 97, 108]) : Calls Try.prog 20 #[.string s, .int .i8 3, .map (some b)] w (Ids s b w) := by
  have HK := Lib.hid (Ks_arm (lo := 12) (hi := 12) hs (by decide) (by decide))
  have HO := Lib.hid ho
  clear ho
  have t1 : (s.toList == [97, 115, 115, 101, 114, 116, 45, 116, 111, 45, 119, 105, 116, 104]) = false := by rw [hs]; decide
  have t2 : (s.toList == [97, 115, 115, 101, 114, 116, 45, 116, 121, 112, 101, 45, 106, 115, 111, 110]) = false := by rw [hs]; decide
  have t3 : (s.toList == [97, 115, 115, 105, 103, 110, 45, 116, 111, 45, 99, 111, 110, 115, 116, 97, 110, 116]) = false := by rw [hs]; decide
  have t4 : (s.toList == [97, 115, 115, 105, 103, 110, 45, 116, 111, 45, 100, 101, 102, 105, 110, 101]) = false := by rw [hs]; decide
  have t5 : (s.toList == [97, 115, 115, 105, 103, 110, 45, 116, 111, 45, 105, 109, 112, 111, 114, 116]) = false := by rw [hs]; decide
  have t6 : (s.toList == [98, 105, 103, 105, 110, 116]) = false := by rw [hs]; decide
  have t7 : (s.toList == [99, 97, 108, 108, 45, 105, 109, 112, 111, 114, 116, 45, 110, 97, 109, 101, 115, 112, 97, 99, 101]) = false := by rw [hs]; decide
  have t8 : (s.toList == [99, 108, 97, 115, 115, 45, 110, 97, 109, 101, 45, 119, 105, 108, 108, 45, 116, 104, 114, 111, 119]) = false := by rw [hs]; decide
  have t9 : (s.toList == [99, 111, 109, 109, 111, 110, 106, 115, 45, 118, 97, 114, 105, 97, 98, 108, 101, 45, 105, 110, 45, 101, 115, 109]) = false := by rw [hs]; decide
  have t10 : (s.toList == [99, 111, 110, 102, 117, 115, 105, 110, 103, 45, 116, 121, 112, 101, 115, 99, 114, 105, 112, 116, 45, 99, 97, 115, 116]) = false := by rw [hs]; decide
  have t11 : (s.toList == [100, 101, 108, 101, 116, 101, 45, 115, 117, 112, 101, 114, 45, 112, 114, 111, 112, 101, 114, 116, 121]) = false := by rw [hs]; decide
  have t12 : (s.toList == [100, 105, 114, 101, 99, 116, 45, 101, 118, 97, 108]) = true := by rw [hs]; exact beq_self_eq_true _
  clear hs
  go_enter Try.func20, Try.ntmps20
  go_wp2_with (first
    | (at_mapUpdate; refine wpList_mapUpdate_own _ rfl _ _ _ 69 rfl 5 72 lawM Try.underlying69 RE b 0 _ rfl HO.out (by decide) _ _ _ rfl rfl (keyOf_int_mk Try.underlying5 (by decide)) _ [] (plainElem_int Try.underlying72 (by decide)) ?_; intro w1 ho1 hg1; go_frame)
    | fail)
  go_end0
  exact ⟨rfl, 1, _, by decide, ho1, fun c => (one_key 12 c _).trans (HK.out c).symm, hg1⟩
set_option maxRecDepth 1000000 in
set_option maxHeartbeats 40000000 in
theorem arm13 (s : ByteArray) (b : Nat) (w : World) (ho : Om w b 0 (.map [])) (hs : s.toList = [100, 117, 112, 108, 105, 99, 97, 116, 101, 45, 99, 97, 115, 101]) : Calls Try.prog 20 #[.string s, .int .i8 3, .map (some b)] w (Ids s b w) := by
  have HK := Lib.hid (Ks_arm (lo := 13) (hi := 13) hs (by decide) (by decide))
  have HO := Lib.hid ho
  clear ho
  have t1 : (s.toList == [97, 115, 115, 101, 114, 116, 45, 116, 111, 45, 119, 105, 116, 104]) = false := by rw [hs]; decide
  have t2 : (s.toList == [97, 115, 115, 101, 114, 116, 45, 116, 121, 112, 101, 45, 106, 115, 111, 110]) = false := by rw [hs]; decide
  have t3 : (s.toList == [97, 115, 115, 105, 103, 110, 45, 116, 111, 45, 99, 111, 110, 115, 116, 97, 110, 116]) = false := by rw [hs]; decide
  have t4 : (s.toList == [97, 115, 115, 105, 103, 110, 45, 116, 111, 45, 100, 101, 102, 105, 110, 101]) = false := by rw [hs]; decide
  have t5 : (s.toList == [97, 115, 115, 105, 103, 110, 45, 116, 111, 45, 105, 109, 112, 111, 114, 116]) = false := by rw [hs]; decide
  have t6 : (s.toList == [98, 105, 103, 105, 110, 116]) = false := by rw [hs]; decide
  have t7 : (s.toList == [99, 97, 108, 108, 45, 105, 109, 112, 111, 114, 116, 45, 110, 97, 109, 101, 115, 112, 97, 99, 101]) = false := by rw [hs]; decide
  have t8 : (s.toList == [99, 108, 97, 115, 115, 45, 110, 97, 109, 101, 45, 119, 105, 108, 108, 45, 116, 104, 114, 111, 119]) = false := by rw [hs]; decide
  have t9 : (s.toList == [99, 111, 109, 109, 111, 110, 106, 115, 45, 118, 97, 114, 105, 97, 98, 108, 101, 45, 105, 110, 45, 101, 115, 109]) = false := by rw [hs]; decide
  have t10 : (s.toList == [99, 111, 110, 102, 117, 115, 105, 110, 103, 45, 116, 121, 112, 101, 115, 99, 114, 105, 112, 116, 45, 99, 97, 115, 116]) = false := by rw [hs]; decide
  have t11 : (s.toList == [100, 101, 108, 101, 116, 101, 45, 115, 117, 112, 101, 114, 45, 112, 114, 111, 112, 101, 114, 116, 121]) = false := by rw [hs]; decide
  have t12 : (s.toList == [100, 105, 114, 101, 99, 116, 45, 101, 118, 97, 108]) = false := by rw [hs]; decide
  have t13 : (s.toList == [100, 117, 112, 108, 105, 99, 97, 116, 101, 45, 99, 97, 115, 101]) = true := by rw [hs]; exact beq_self_eq_true _
  clear hs
  go_enter Try.func20, Try.ntmps20
  go_wp2_with (first
    | (at_mapUpdate; refine wpList_mapUpdate_own _ rfl _ _ _ 69 rfl 5 72 lawM Try.underlying69 RE b 0 _ rfl HO.out (by decide) _ _ _ rfl rfl (keyOf_int_mk Try.underlying5 (by decide)) _ [] (plainElem_int Try.underlying72 (by decide)) ?_; intro w1 ho1 hg1; go_frame)
    | fail)
  go_end0
  exact ⟨rfl, 1, _, by decide, ho1, fun c => (one_key 13 c _).trans (HK.out c).symm, hg1⟩
set_option maxRecDepth 1000000 in
set_option maxHeartbeats 40000000 in
theorem arm14 (s : ByteArray) (b : Nat) (w : World) (ho : Om w b 0 (.map [])) (hs : s.toList = [100, 117, 112, 108, 105, 99, 97, 116, 101, 45, 99, 108, 97, 115, 115, 45, 109, 101, 109, 98, 101, 114]) : Calls Try.prog 20 #[.string s, .int .i8 3, .map (some b)] w (Ids s b w) := by
  have HK := Lib.hid (Ks_arm (lo := 14) (hi := 14) hs (by decide) (by decide))
  have HO := Lib.hid ho
  clear ho
  have t1 : (s.toList == [97, 115, 115, 101, 114, 116, 45, 116, 111, 45, 119, 105, 116, 104]) = false := by rw [hs]; decide
  have t2 : (s.toList == [97, 115, 115, 101, 114, 116, 45, 116, 121, 112, 101, 45, 106, 115, 111, 110]) = false := by rw [hs]; decide
  have t3 : (s.toList == [97, 115, 115, 105, 103, 110, 45, 116, 111, 45, 99, 111, 110, 115, 116, 97, 110, 116]) = false := by rw [hs]; decide
  have t4 : (s.toList == [97, 115, 115, 105, 103, 110, 45, 116, 111, 45, 100, 101, 102, 105, 110, 101]) = false := by rw [hs]; decide
  have t5 : (s.toList == [97, 115, 115, 105, 103, 110, 45, 116, 111, 45, 105, 109, 112, 111, 114, 116]) = false := by rw [hs]; decide
  have t6 : (s.toList == [98, 105, 103, 105, 110, 116]) = false := by rw [hs]; decide
  have t7 : (s.toList == [99, 97, 108, 108, 45, 105, 109, 112, 111, 114, 116, 45, 110, 97, 109, 101, 115, 112, 97, 99, 101]) = false := by rw [hs]; decide
  have t8 : (s.toList == [99, 108, 97, 115, 115, 45, 110, 97, 109, 101, 45, 119, 105, 108, 108, 45, 116, 104, 114, 111, 119]) = false := by rw [hs]; decide
  have t9 : (s.toList == [99, 111, 109, 109, 111, 110, 106, 115, 45, 118, 97, 114, 105, 97, 98, 108, 101, 45, 105, 110, 45, 101, 115, 109]) = false := by rw [hs]; decide
  have t10 : (s.toList == [99, 111, 110, 102, 117, 115, 105, 110, 103, 45, 116, 121, 112, 101, 115, 99, 114, 105, 112, 116, 45, 99, 97, 115, 116]) = false := by rw [hs]; decide
  have t11 : (s.toList == [100, 101, 108, 101, 116, 101, 45, 115, 117, 112, 101, 114, 45, 112, 114, 111, 112, 101, 114, 116, 121]) = false := by rw [hs]; decide
  have t12 : (s.toList == [100, 105, 114, 101, 99, 116, 45, 101, 118, 97, 108]) = false := by rw [hs]; decide
  have t13 : (s.toList == [100, 117, 112, 108, 105, 99, 97, 116, 101, 45, 99, 97, 115, 101]) = false := by rw [hs]; decide
  have t14 : (s.toList == [100, 117, 112, 108, 105, 99, 97, 116, 101, 45, 99, 108, 97, 115, 115, 45, 109, 101, 109, 98, 101, 114]) = true := by rw [hs]; exact beq_self_eq_true _
  clear hs
  go_enter Try.func20, Try.ntmps20
  go_wp2_with (first
    | (at_mapUpdate; refine wpList_mapUpdate_own _ rfl _ _ _ 69 rfl 5 72 lawM Try.underlying69 RE b 0 _ rfl HO.out (by decide) _ _ _ rfl rfl (keyOf_int_mk Try.underlying5 (by decide)) _ [] (plainElem_int Try.underlying72 (by decide)) ?_; intro w1 ho1 hg1; go_frame)
    | fail)
  go_end0
  exact ⟨rfl, 1, _, by decide, ho1, fun c => (one_key 14 c _).trans (HK.out c).symm, hg1⟩
set_option maxRecDepth 1000000 in
set_option maxHeartbeats 40000000 in
theorem arm15 (s : ByteArray) (b : Nat) (w : World) (ho : Om w b 0 (.map [])) (hs : s.toList = [100, 117, 112, 108, 105, 99, 97, 116, 101, 45, 111, 98, 106, 101, 99, 116, 45, 107, 101, 121]) : Calls Try.prog 20 #[.string s, .int .i8 3, .map (some b)] w (Ids s b w) := by
  have HK := Lib.hid (Ks_arm (lo := 15) (hi := 15) hs (by decide) (by decide))
  have HO := Lib.hid ho
  clear ho
  have t1 : (s.toList == [97, 115, 115, 101, 114, 116, 45, 116, 111, 45, 119, 105, 116, 104]) = false := by rw [hs]; decide
  have t2 : (s.toList == [97, 115, 115, 101, 114, 116, 45, 116, 121, 112, 101, 45, 106, 115, 111, 110]) = false := by rw [hs]; decide
  have t3 : (s.toList == [97, 115, 115, 105, 103, 110, 45, 116, 111, 45, 99, 111, 110, 115, 116, 97, 110, 116]) = false := by rw [hs]; decide
  have t4 : (s.toList == [97, 115, 115, 105, 103, 110, 45, 116, 111, 45, 100, 101, 102, 105, 110, 101]) = false := by rw [hs]; decide
  have t5 : (s.toList == [97, 115, 115, 105, 103, 110, 45, 116, 111, 45, 105, 109, 112, 111, 114, 116]) = false := by rw [hs]; decide
  have t6 : (s.toList == [98, 105, 103, 105, 110, 116]) = false := by rw [hs]; decide
  have t7 : (s.toList == [99, 97, 108, 108, 45, 105, 109, 112, 111, 114, 116, 45, 110, 97, 109, 101, 115, 112, 97, 99, 101]) = false := by rw [hs]; decide
  have t8 : (s.toList == [99, 108, 97, 115, 115, 45, 110, 97, 109, 101, 45, 119, 105, 108, 108, 45, 116, 104, 114, 111, 119]) = false := by rw [hs]; decide
  have t9 : (s.toList == [99, 111, 109, 109, 111, 110, 106, 115, 45, 118, 97, 114, 105, 97, 98, 108, 101, 45, 105, 110, 45, 101, 115, 109]) = false := by rw [hs]; decide
  have t10 : (s.toList == [99, 111, 110, 102, 117, 115, 105, 110, 103, 45, 116, 121, 112, 101, 115, 99, 114, 105, 112, 116, 45, 99, 97, 115, 116]) = false := by rw [hs]; decide
  have t11 : (s.toList == [100, 101, 108, 101, 116, 101, 45, 115, 117, 112, 101, 114, 45, 112, 114, 111, 112, 101, 114, 116, 121]) = false := by rw [hs]; decide
  have t12 : (s.toList == [100, 105, 114, 101, 99, 116, 45, 101, 118, 97, 108]) = false := by rw [hs]; decide
  have t13 : (s.toList == [100, 117, 112, 108, 105, 99, 97, 116, 101, 45, 99, 97, 115, 101]) = false := by rw [hs]; decide
  have t14 : (s.toList == [100, 117, 112, 108, 105, 99, 97, 116, 101, 45, 99, 108, 97, 115, 115, 45, 109, 101, 109, 98, 101, 114]) = false := by rw [hs]; decide
  have t15 : (s.toList == [100, 117, 112, 108, 105, 99, 97, 116, 101, 45, 111, 98, 106, 101, 99, 116, 45, 107, 101, 121]) = true := by rw [hs]; exact beq_self_eq_true _
  clear hs
  go_enter Try.func20, Try.ntmps20
  go_wp2_with (first
    | (at_mapUpdate; refine wpList_mapUpdate_own _ rfl _ _ _ 69 rfl 5 72 lawM Try.underlying69 RE b 0 _ rfl HO.out (by decide) _ _ _ rfl rfl (keyOf_int_mk Try.underlying5 (by decide)) _ [] (plainElem_int Try.underlying72 (by decide)) ?_; intro w1 ho1 hg1; go_frame)
    | fail)
  go_end0
  exact ⟨rfl, 1, _, by decide, ho1, fun c => (one_key 15 c _).trans (HK.out c).symm, hg1⟩
set_option maxRecDepth 1000000 in
set_option maxHeartbeats 40000000 in
theorem arm16 (s : ByteArray) (b : Nat) (w : World) (ho : Om w b 0 (.map [])) (hs : s.toList = [101, 109, 112, 116, 121, 45, 105, 109, 112, 111, 114, 116, 45, 109, 101, 116, 97]) : Calls Try.prog 20 #[.string s, .int .i8 3, .map (some b)] w (Ids s b w) := by
  have HK := Lib.hid (Ks_arm (lo := 16) (hi := 16) hs (by decide) (by decide))
  have HO := Lib.hid ho
  clear ho
  have t1 : (s.toList == [97, 115, 115, 101, 114, 116, 45, 116, 111, 45, 119, 105, 116, 104]) = false := by rw [hs]; decide
  have t2 : (s.toList == [97, 115, 115, 101, 114, 116, 45, 116, 121, 112, 101, 45, 106, 115, 111, 110]) = false := by rw [hs]; decide
  have t3 : (s.toList == [97, 115, 115, 105, 103, 110, 45, 116, 111, 45, 99, 111, 110, 115, 116, 97, 110, 116]) = false := by rw [hs]; decide
  have t4 : (s.toList == [97, 115, 115, 105, 103, 110, 45, 116, 111, 45, 100, 101, 102, 105, 110, 101]) = false := by rw [hs]; decide
  have t5 : (s.toList == [97, 115, 115, 105, 103, 110, 45, 116, 111, 45, 105, 109, 112, 111, 114, 116]) = false := by rw [hs]; decide
  have t6 : (s.toList == [98, 105, 103, 105, 110, 116]) = false := by rw [hs]; decide
  have t7 : (s.toList == [99, 97, 108, 108, 45, 105, 109, 112, 111, 114, 116, 45, 110, 97, 109, 101, 115, 112, 97, 99, 101]) = false := by rw [hs]; decide
  have t8 : (s.toList == [99, 108, 97, 115, 115, 45, 110, 97, 109, 101, 45, 119, 105, 108, 108, 45, 116, 104, 114, 111, 119]) = false := by rw [hs]; decide
  have t9 : (s.toList == [99, 111, 109, 109, 111, 110, 106, 115, 45, 118, 97, 114, 105, 97, 98, 108, 101, 45, 105, 110, 45, 101, 115, 109]) = false := by rw [hs]; decide
  have t10 : (s.toList == [99, 111, 110, 102, 117, 115, 105, 110, 103, 45, 116, 121, 112, 101, 115, 99, 114, 105, 112, 116, 45, 99, 97, 115, 116]) = false := by rw [hs]; decide
  have t11 : (s.toList == [100, 101, 108, 101, 116, 101, 45, 115, 117, 112, 101, 114, 45, 112, 114, 111, 112, 101, 114, 116, 121]) = false := by rw [hs]; decide
  have t12 : (s.toList == [100, 105, 114, 101, 99, 116, 45, 101, 118, 97, 108]) = false := by rw [hs]; decide
  have t13 : (s.toList == [100, 117, 112, 108, 105, 99, 97, 116, 101, 45, 99, 97, 115, 101]) = false := by rw [hs]; decide
  have t14 : (s.toList == [100, 117, 112, 108, 105, 99, 97, 116, 101, 45, 99, 108, 97, 115, 115, 45, 109, 101, 109, 98, 101, 114]) = false := by rw [hs]; decide
  have t15 : (s.toList == [100, 117, 112, 108, 105, 99, 97, 116, 101, 45, 111, 98, 106, 101, 99, 116, 45, 107, 101, 121]) = false := by rw [hs]; decide
  have t16 : (s.toList == [101, 109, 112, 116, 121, 45, 105, 109, 112, 111, 114, 116, 45, 109, 101, 116, 97]) = true := by rw [hs]; exact beq_self_eq_true _
  clear hs
  go_enter Try.func20, Try.ntmps20
  go_wp2_with (first
    | (at_mapUpdate; refine wpList_mapUpdate_own _ rfl _ _ _ 69 rfl 5 72 lawM Try.underlying69 RE b 0 _ rfl HO.out (by decide) _ _ _ rfl rfl (keyOf_int_mk Try.underlying5 (by decide)) _ [] (plainElem_int Try.underlying72 (by decide)) ?_; intro w1 ho1 hg1; go_frame)
    | fail)
  go_end0
  exact ⟨rfl, 1, _, by decide, ho1, fun c => (one_key 16 c _).trans (HK.out c).symm, hg1⟩
set_option maxRecDepth 1000000 in
set_option maxHeartbeats 40000000 in
theorem arm17 (s : ByteArray) (b : Nat) (w : World) (ho : Om w b 0 (.map [])) (hs : s.toList = [101, 113, 117, 97, 108, 115, 45, 110, 97, 110]) : Calls Try.prog 20 #[.string s, .int .i8 3, .map (some b)] w (Ids s b w) := by
  have HK := Lib.hid (Ks_arm (lo := 17) (hi := 17) hs (by decide) (by decide))
  have HO := Lib.hid ho
  clear ho
  have t1 : (s.toList == [97, 115, 115, 101, 114, 116, 45, 116, 111, 45, 119, 105, 116, 104]) = false := by rw [hs]; decide
  have t2 : (s.toList == [97, 115, 115, 101, 114, 116, 45, 116, 121, 112, 101, 45, 106, 115, 111, 110]) = false := by rw [hs]; decide
  have t3 : (s.toList == [97, 115, 115, 105, 103, 110, 45, 116, 111, 45, 99, 111, 110, 115, 116, 97, 110, 116]) = false := by rw [hs]; decide
  have t4 : (s.toList == [97, 115, 115, 105, 103, 110, 45, 116, 111, 45, 100, 101, 102, 105, 110, 101]) = false := by rw [hs]; decide
  have t5 : (s.toList == [97, 115, 115, 105, 103, 110, 45, 116, 111, 45, 105, 109, 112, 111, 114, 116]) = false := by rw [hs]; decide
  have t6 : (s.toList == [98, 105, 103, 105, 110, 116]) = false := by rw [hs]; decide
  have t7 : (s.toList == [99, 97, 108, 108, 45, 105, 109, 112, 111, 114, 116, 45, 110, 97, 109, 101, 115, 112, 97, 99, 101]) = false := by rw [hs]; decide
  have t8 : (s.toList == [99, 108, 97, 115, 115, 45, 110, 97, 109, 101, 45, 119, 105, 108, 108, 45, 116, 104, 114, 111, 119]) = false := by rw [hs]; decide
  have t9 : (s.toList == [99, 111, 109, 109, 111, 110, 106, 115, 45, 118, 97, 114, 105, 97, 98, 108, 101, 45, 105, 110, 45, 101, 115, 109]) = false := by rw [hs]; decide
  have t10 : (s.toList == [99, 111, 110, 102, 117, 115, 105, 110, 103, 45, 116, 121, 112, 101, 115, 99, 114, 105, 112, 116, 45, 99, 97, 115, 116]) = false := by rw [hs]; decide
  have t11 : (s.toList == [100, 101, 108, 101, 116, 101, 45, 115, 117, 112, 101, 114, 45, 112, 114, 111, 112, 101, 114, 116, 121]) = false := by rw [hs]; decide
  have t12 : (s.toList == [100, 105, 114, 101, 99, 116, 45, 101, 118, 97, 108]) = false := by rw [hs]; decide
  have t13 : (s.toList == [100, 117, 112, 108, 105, 99, 97, 116, 101, 45, 99, 97, 115, 101]) = false := by rw [hs]; decide
  have t14 : (s.toList == [100, 117, 112, 108, 105, 99, 97, 116, 101, 45, 99, 108, 97, 115, 115, 45, 109, 101, 109, 98, 101, 114]) = false := by rw [hs]; decide
  have t15 : (s.toList == [100, 117, 112, 108, 105, 99, 97, 116, 101, 45, 111, 98, 106, 101, 99, 116, 45, 107, 101, 121]) = false := by rw [hs]; decide
  have t16 : (s.toList == [101, 109, 112, 116, 121, 45, 105, 109, 112, 111, 114, 116, 45, 109, 101, 116, 97]) = false := by rw [hs]; decide
  have t17 : (s.toList == [101, 113, 117, 97, 108, 115, 45, 110, 97, 110]) = true := by rw [hs]; exact beq_self_eq_true _
  clear hs
  go_enter Try.func20, Try.ntmps20
  go_wp2_with (first
    | (at_mapUpdate; refine wpList_mapUpdate_own _ rfl _ _ _ 69 rfl 5 72 lawM Try.underlying69 RE b 0 _ rfl HO.out (by decide) _ _ _ rfl rfl (keyOf_int_mk Try.underlying5 (by decide)) _ [] (plainElem_int Try.underlying72 (by decide)) ?_; intro w1 ho1 hg1; go_frame)
    | fail)
  go_end0
  exact ⟨rfl, 1, _, by decide, ho1, fun c => (one_key 17 c _).trans (HK.out c).symm, hg1⟩
set_option maxRecDepth 1000000 in
set_option maxHeartbeats 40000000 in
theorem arm18 (s : ByteArray) (b : Nat) (w : World) (ho : Om w b 0 (.map [])) (hs : s.toList = [101, 113, 117, 97, 108, 115, 45, 110, 101, 103, 97, 116, 105, 118, 101, 45, 122, 101, 114, 111]) : Calls Try.prog 20 #[.string s, .int .i8 3, .map (some b)] w (Ids s b w) := by
  have HK := Lib.hid (Ks_arm (lo := 18) (hi := 18) hs (by decide) (by decide))
  have HO := Lib.hid ho
  clear ho
  have t1 : (s.toList == [97, 115, 115, 101, 114, 116, 45, 116, 111, 45, 119, 105, 116, 104]) = false := by rw [hs]; decide
  have t2 : (s.toList == [97, 115, 115, 101, 114, 116, 45, 116, 121, 112, 101, 45, 106, 115, 111, 110]) = false := by rw [hs]; decide
  have t3 : (s.toList == [97, 115, 115, 105, 103, 110, 45, 116, 111, 45, 99, 111, 110, 115, 116, 97, 110, 116]) = false := by rw [hs]; decide
  have t4 : (s.toList == [97, 115, 115, 105, 103, 110, 45, 116, 111, 45, 100, 101, 102, 105, 110, 101]) = false := by rw [hs]; decide
  have t5 : (s.toList == [97, 115, 115, 105, 103, 110, 45, 116, 111, 45, 105, 109, 112, 111, 114, 116]) = false := by rw [hs]; decide
  have t6 : (s.toList == [98, 105, 103, 105, 110, 116]) = false := by rw [hs]; decide
  have t7 : (s.toList == [99, 97, 108, 108, 45, 105, 109, 112, 111, 114, 116, 45, 110, 97, 109, 101, 115, 112, 97, 99, 101]) = false := by rw [hs]; decide
  have t8 : (s.toList == [99, 108, 97, 115, 115, 45, 110, 97, 109, 101, 45, 119, 105, 108, 108, 45, 116, 104, 114, 111, 119]) = false := by rw [hs]; decide
  have t9 : (s.toList == [99, 111, 109, 109, 111, 110, 106, 115, 45, 118, 97, 114, 105, 97, 98, 108, 101, 45, 105, 110, 45, 101, 115, 109]) = false := by rw [hs]; decide
  have t10 : (s.toList == [99, 111, 110, 102, 117, 115, 105, 110, 103, 45, 116, 121, 112, 101, 115, 99, 114, 105, 112, 116, 45, 99, 97, 115, 116]) = false := by rw [hs]; decide
  have t11 : (s.toList == [100, 101, 108, 101, 116, 101, 45, 115, 117, 112, 101, 114, 45, 112, 114, 111, 112, 101, 114, 116, 121]) = false := by rw [hs]; decide
  have t12 : (s.toList == [100, 105, 114, 101, 99, 116, 45, 101, 118, 97, 108]) = false := by rw [hs]; decide
  have t13 : (s.toList == [100, 117, 112, 108, 105, 99, 97, 116, 101, 45, 99, 97, 115, 101]) = false := by rw [hs]; decide
  have t14 : (s.toList == [100, 117, 112, 108, 105, 99, 97, 116, 101, 45, 99, 108, 97, 115, 115, 45, 109, 101, 109, 98, 101, 114]) = false := by rw [hs]; decide
  have t15 : (s.toList == [100, 117, 112, 108, 105, 99, 97, 116, 101, 45, 111, 98, 106, 101, 99, 116, 45, 107, 101, 121]) = false := by rw [hs]; decide
  have t16 : (s.toList == [101, 109, 112, 116, 121, 45, 105, 109, 112, 111, 114, 116, 45, 109, 101, 116, 97]) = false := by rw [hs]; decide
  have t17 : (s.toList == [101, 113, 117, 97, 108, 115, 45, 110, 97, 110]) = false := by rw [hs]; decide
  have t18 : (s.toList == [101, 113, 117, 97, 108, 115, 45, 110, 101, 103, 97, 116, 105, 118, 101, 45, 122, 101, 114, 111]) = true := by rw [hs]; exact beq_self_eq_true _
  clear hs
  go_enter Try.func20, Try.ntmps20
  go_wp2_with (first
    | (at_mapUpdate; refine wpList_mapUpdate_own _ rfl _ _ _ 69 rfl 5 72 lawM Try.underlying69 RE b 0 _ rfl HO.out (by decide) _ _ _ rfl rfl (keyOf_int_mk Try.underlying5 (by decide)) _ [] (plainElem_int Try.underlying72 (by decide)) ?_; intro w1 ho1 hg1; go_frame)
    | fail)
  go_end0
  exact ⟨rfl, 1, _, by decide, ho1, fun c => (one_key 18 c _).trans (HK.out c).symm, hg1⟩
set_option maxRecDepth 1000000 in
set_option maxHeartbeats 40000000 in
theorem arm19 (s : ByteArray) (b : Nat) (w : World) (ho : Om w b 0 (.map [])) (hs : s.toList = [101, 113, 117, 97, 108, 115, 45, 110, 101, 119, 45, 111, 98, 106, 101, 99, 116]) : Calls Try.prog 20 #[.string s, .int .i8 3, .map (some b)] w (Ids s b w) := by
  have HK := Lib.hid (Ks_arm (lo := 19) (hi := 19) hs (by decide) (by decide))
  have HO := Lib.hid ho
  clear ho
  have t1 : (s.toList == [97, 115, 115, 101, 114, 116, 45, 116, 111, 45, 119, 105, 116, 104]) = false := by rw [hs]; decide
  have t2 : (s.toList == [97, 115, 115, 101, 114, 116, 45, 116, 121, 112, 101, 45, 106, 115, 111, 110]) = false := by rw [hs]; decide
  have t3 : (s.toList == [97, 115, 115, 105, 103, 110, 45, 116, 111, 45, 99, 111, 110, 115, 116, 97, 110, 116]) = false := by rw [hs]; decide
  have t4 : (s.toList == [97, 115, 115, 105, 103, 110, 45, 116, 111, 45, 100, 101, 102, 105, 110, 101]) = false := by rw [hs]; decide
  have t5 : (s.toList == [97, 115, 115, 105, 103, 110, 45, 116, 111, 45, 105, 109, 112, 111, 114, 116]) = false := by rw [hs]; decide
  have t6 : (s.toList == [98, 105, 103, 105, 110, 116]) = false := by rw [hs]; decide
  have t7 : (s.toList == [99, 97, 108, 108, 45, 105, 109, 112, 111, 114, 116, 45, 110, 97, 109, 101, 115, 112, 97, 99, 101]) = false := by rw [hs]; decide
  have t8 : (s.toList == [99, 108, 97, 115, 115, 45, 110, 97, 109, 101, 45, 119, 105, 108, 108, 45, 116, 104, 114, 111, 119]) = false := by rw [hs]; decide
  have t9 : (s.toList == [99, 111, 109, 109, 111, 110, 106, 115, 45, 118, 97, 114, 105, 97, 98, 108, 101, 45, 105, 110, 45, 101, 115, 109]) = false := by rw [hs]; decide
  have t10 : (s.toList == [99, 111, 110, 102, 117, 115, 105, 110, 103, 45, 116, 121, 112, 101, 115, 99, 114, 105, 112, 116, 45, 99, 97, 115, 116]) = false := by rw [hs]; decide
  have t11 : (s.toList == [100, 101, 108, 101, 116, 101, 45, 115, 117, 112, 101, 114, 45, 112, 114, 111, 112, 101, 114, 116, 121]) = false := by rw [hs]; decide
  have t12 : (s.toList == [100, 105, 114, 101, 99, 116, 45, 101, 118, 97, 108]) = false := by rw [hs]; decide
  have t13 : (s.toList == [100, 117, 112, 108, 105, 99, 97, 116, 101, 45, 99, 97, 115, 101]) = false := by rw [hs]; decide
  have t14 : (s.toList == [100, 117, 112, 108, 105, 99, 97, 116, 101, 45, 99, 108, 97, 115, 115, 45, 109, 101, 109, 98, 101, 114]) = false := by rw [hs]; decide
  have t15 : (s.toList == [100, 117, 112, 108, 105, 99, 97, 116, 101, 45, 111, 98, 106, 101, 99, 116, 45, 107, 101, 121]) = false := by rw [hs]; decide
  have t16 : (s.toList == [101, 109, 112, 116, 121, 45, 105, 109, 112, 111, 114, 116, 45, 109, 101, 116, 97]) = false := by rw [hs]; decide
  have t17 : (s.toList == [101, 113, 117, 97, 108, 115, 45, 110, 97, 110]) = false := by rw [hs]; decide
  have t18 : (s.toList == [101, 113, 117, 97, 108, 115, 45, 110, 101, 103, 97, 116, 105, 118, 101, 45, 122, 101, 114, 111]) = false := by rw [hs]; decide
  have t19 : (s.toList == [101, 113, 117, 97, 108, 115, 45, 110, 101, 119, 45, 111, 98, 106, 101, 99, 116]) = true := by rw [hs]; exact beq_self_eq_true _
  clear hs
  go_enter Try.func20, Try.ntmps20
  go_wp2_with (first
    | (at_mapUpdate; refine wpList_mapUpdate_own _ rfl _ _ _ 69 rfl 5 72 lawM Try.underlying69 RE b 0 _ rfl HO.out (by decide) _ _ _ rfl rfl (keyOf_int_mk Try.underlying5 (by decide)) _ [] (plainElem_int Try.underlying72 (by decide)) ?_; intro w1 ho1 hg1; go_frame)
    | fail)
  go_end0
  exact ⟨rfl, 1, _, by decide, ho1, fun c => (one_key 19 c _).trans (HK.out c).symm, hg1⟩
set_option maxRecDepth 1000000 in
set_option maxHeartbeats 40000000 in
theorem arm20 (s : ByteArray) (b : Nat) (w : World) (ho : Om w b 0 (.map [])) (hs : s.toList = [104, 116, 109, 108, 45, 99, 111, 109, 109, 101, 110, 116, 45, 105, 110, 45, 106, 115]) : Calls Try.prog 20 #[.string s, .int .i8 3, .map (some b)] w (Ids s b w) := by
  have HK := Lib.hid (Ks_arm (lo := 20) (hi := 20) hs (by decide) (by decide))
  have HO := Lib.hid ho
  clear ho
  have t1 : (s.toList == [97, 115, 115, 101, 114, 116, 45, 116, 111, 45, 119, 105, 116, 104]) = false := by rw [hs]; decide
  have t2 : (s.toList == [97, 115, 115, 101, 114, 116, 45, 116, 121, 112, 101, 45, 106, 115, 111, 110]) = false := by rw [hs]; decide
  have t3 : (s.toList == [97, 115, 115, 105, 103, 110, 45, 116, 111, 45, 99, 111, 110, 115, 116, 97, 110, 116]) = false := by rw [hs]; decide
  have t4 : (s.toList == [97, 115, 115, 105, 103, 110, 45, 116, 111, 45, 100, 101, 102, 105, 110, 101]) = false := by rw [hs]; decide
  have t5 : (s.toList == [97, 115, 115, 105, 103, 110, 45, 116, 111, 45, 105, 109, 112, 111, 114, 116]) = false := by rw [hs]; decide
  have t6 : (s.toList == [98, 105, 103, 105, 110, 116]) = false := by rw [hs]; decide
  have t7 : (s.toList == [99, 97, 108, 108, 45, 105, 109, 112, 111, 114, 116, 45, 110, 97, 109, 101, 115, 112, 97, 99, 101]) = false := by rw [hs]; decide
  have t8 : (s.toList == [99, 108, 97, 115, 115, 45, 110, 97, 109, 101, 45, 119, 105, 108, 108, 45, 116, 104, 114, 111, 119]) = false := by rw [hs]; decide
  have t9 : (s.toList == [99, 111, 109, 109, 111, 110, 106, 115, 45, 118, 97, 114, 105, 97, 98, 108, 101, 45, 105, 110, 45, 101, 115, 109]) = false := by rw [hs]; decide
  have t10 : (s.toList == [99, 111, 110, 102, 117, 115, 105, 110, 103, 45, 116, 121, 112, 101, 115, 99, 114, 105, 112, 116, 45, 99, 97, 115, 116]) = false := by rw [hs]; decide
  have t11 : (s.toList == [100, 101, 108, 101, 116, 101, 45, 115, 117, 112, 101, 114, 45, 112, 114, 111, 112, 101, 114, 116, 121]) = false := by rw [hs]; decide
  have t12 : (s.toList == [100, 105, 114, 101, 99, 116, 45, 101, 118, 97, 108]) = false := by rw [hs]; decide
  have t13 : (s.toList == [100, 117, 112, 108, 105, 99, 97, 116, 101, 45, 99, 97, 115, 101]) = false := by rw [hs]; decide
  have t14 : (s.toList == [100, 117, 112, 108, 105, 99, 97, 116, 101, 45, 99, 108, 97, 115, 115, 45, 109, 101, 109, 98, 101, 114]) = false := by rw [hs]; decide
  have t15 : (s.toList == [100, 117, 112, 108, 105, 99, 97, 116, 101, 45, 111, 98, 106, 101, 99, 116, 45, 107, 101, 121]) = false := by rw [hs]; decide
  have t16 : (s.toList == [101, 109, 112, 116, 121, 45, 105, 109, 112, 111, 114, 116, 45, 109, 101, 116, 97]) = false := by rw [hs]; decide
  have t17 : (s.toList == [101, 113, 117, 97, 108, 115, 45, 110, 97, 110]) = false := by rw [hs]; decide
  have t18 : (s.toList == [101, 113, 117, 97, 108, 115, 45, 110, 101, 103, 97, 116, 105, 118, 101, 45, 122, 101, 114, 111]) = false := by rw [hs]; decide
  have t19 : (s.toList == [101, 113, 117, 97, 108, 115, 45, 110, 101, 119, 45, 111, 98, 106, 101, 99, 116]) = false := by rw [hs]; decide
  have t20 : (s.toList == [104, 116, 109, 108, 45, 99, 111, 109, 109, 101, 110, 116, 45, 105, 110, 45, 106, 115]) = true := by rw [hs]; exact beq_self_eq_true _
  clear hs
  go_enter Try.func20, Try.ntmps20
  go_wp2_with (first
    | (at_mapUpdate; refine wpList_mapUpdate_own _ rfl _ _ _ 69 rfl 5 72 lawM Try.underlying69 RE b 0 _ rfl HO.out (by decide) _ _ _ rfl rfl (keyOf_int_mk Try.underlying5 (by decide)) _ [] (plainElem_int Try.underlying72 (by decide)) ?_; intro w1 ho1 hg1; go_frame)
    | fail)
  go_end0
  exact ⟨rfl, 1, _, by decide, ho1, fun c => (one_key 20 c _).trans (HK.out c).symm, hg1⟩
set_option maxRecDepth 1000000 in
set_option maxHeartbeats 40000000 in
theorem arm21 (s : ByteArray) (b : Nat) (w : World) (ho : Om w b 0 (.map [])) (hs : s.toList = [105, 109, 112, 111, 115, 115, 105, 98, 108, 101, 45, 116, 121, 112, 101, 111, 102]) : Calls Try.prog 20 #[.string s, .int .i8 3, .map (some b)] w (Ids s b w) := by
  have HK := Lib.hid (Ks_arm (lo := 21) (hi := 21) hs (by decide) (by decide))
  have HO := Lib.hid ho
  clear ho
  have t1 : (s.toList == [97, 115, 115, 101, 114, 116, 45, 116, 111, 45, 119, 105, 116, 104]) = false := by rw [hs]; decide
  have t2 : (s.toList == [97, 115, 115, 101, 114, 116, 45, 116, 121, 112, 101, 45, 106, 115, 111, 110]) = false := by rw [hs]; decide
  have t3 : (s.toList == [97, 115, 115, 105, 103, 110, 45, 116, 111, 45, 99, 111, 110, 115, 116, 97, 110, 116]) = false := by rw [hs]; decide
  have t4 : (s.toList == [97, 115, 115, 105, 103, 110, 45, 116, 111, 45, 100, 101, 102, 105, 110, 101]) = false := by rw [hs]; decide
  have t5 : (s.toList == [97, 115, 115, 105, 103, 110, 45, 116, 111, 45, 105, 109, 112, 111, 114, 116]) = false := by rw [hs]; decide
  have t6 : (s.toList == [98, 105, 103, 105, 110, 116]) = false := by rw [hs]; decide
  have t7 : (s.toList == [99, 97, 108, 108, 45, 105, 109, 112, 111, 114, 116, 45, 110, 97, 109, 101, 115, 112, 97, 99, 101]) = false := by rw [hs]; decide
  have t8 : (s.toList == [99, 108, 97, 115, 115, 45, 110, 97, 109, 101, 45, 119, 105, 108, 108, 45, 116, 104, 114, 111, 119]) = false := by rw [hs]; decide
  have t9 : (s.toList == [99, 111, 109, 109, 111, 110, 106, 115, 45, 118, 97, 114, 105, 97, 98, 108, 101, 45, 105, 110, 45, 101, 115, 109]) = false := by rw [hs]; decide
  have t10 : (s.toList == [99, 111, 110, 102, 117, 115, 105, 110, 103, 45, 116, 121, 112, 101, 115, 99, 114, 105, 112, 116, 45, 99, 97, 115, 116]) = false := by rw [hs]; decide
  have t11 : (s.toList == [100, 101, 108, 101, 116, 101, 45, 115, 117, 112, 101, 114, 45, 112, 114, 111, 112, 101, 114, 116, 121]) = false := by rw [hs]; decide
  have t12 : (s.toList == [100, 105, 114, 101, 99, 116, 45, 101, 118, 97, 108]) = false := by rw [hs]; decide
  have t13 : (s.toList == [100, 117, 112, 108, 105, 99, 97, 116, 101, 45, 99, 97, 115, 101]) = false := by rw [hs]; decide
  have t14 : (s.toList == [100, 117, 112, 108, 105, 99, 97, 116, 101, 45, 99, 108, 97, 115, 115, 45, 109, 101, 109, 98, 101, 114]) = false := by rw [hs]; decide
  have t15 : (s.toList == [100, 117, 112, 108, 105, 99, 97, 116, 101, 45, 111, 98, 106, 101, 99, 116, 45, 107, 101, 121]) = false := by rw [hs]; decide
  have t16 : (s.toList == [101, 109, 112, 116, 121, 45, 105, 109, 112, 111, 114, 116, 45, 109, 101, 116, 97]) = false := by rw [hs]; decide
  have t17 : (s.toList == [101, 113, 117, 97, 108, 115, 45, 110, 97, 110]) = false := by rw [hs]; decide
  have t18 : (s.toList == [101, 113, 117, 97, 108, 115, 45, 110, 101, 103, 97, 116, 105, 118, 101, 45, 122, 101, 114, 111]) = false := by rw [hs]; decide
  have t19 : (s.toList == [101, 113, 117, 97, 108, 115, 45, 110, 101, 119, 45, 111, 98, 106, 101, 99, 116]) = false := by rw [hs]; decide
  have t20 : (s.toList == [104, 116, 109, 108, 45, 99, 111, 109, 109, 101, 110, 116, 45, 105, 110, 45, 106, 115]) = false := by rw [hs]; decide
  have t21 : (s.toList == [105, 109, 112, 111, 115, 115, 105, 98, 108, 101, 45, 116, 121, 112, 101, 111, 102]) = true := by rw [hs]; exact beq_self_eq_true _
  clear hs
  go_enter Try.func20, Try.ntmps20
  go_wp2_with (first
    | (at_mapUpdate; refine wpList_mapUpdate_own _ rfl _ _ _ 69 rfl 5 72 lawM Try.underlying69 RE b 0 _ rfl HO.out (by decide) _ _ _ rfl rfl (keyOf_int_mk Try.underlying5 (by decide)) _ [] (plainElem_int Try.underlying72 (by decide)) ?_; intro w1 ho1 hg1; go_frame)
    | fail)
  go_end0
  exact ⟨rfl, 1, _, by decide, ho1, fun c => (one_key 21 c _).trans (HK.out c).symm, hg1⟩
set_option maxRecDepth 1000000 in
set_option maxHeartbeats 40000000 in
theorem arm22 (s : ByteArray) (b : Nat) (w : World) (ho : Om w b 0 (.map [])) (hs : s.toList = [105, 110, 100, 105, 114, 101, 99, 116, 45, 114, 101, 113, 117, 105, 114, 101]) : Calls Try.prog 20 #[.string s, .int .i8 3, .map (some b)] w (Ids s b w) := by
  have HK := Lib.hid (Ks_arm (lo := 22) (hi := 22) hs (by decide) (by decide))
  have HO := Lib.hid ho
  clear ho
  have t1 : (s.toList == [97, 115, 115, 101, 114, 116, 45, 116, 111, 45, 119, 105, 116, 104]) = false := by rw [hs]; decide
  have t2 : (s.toList == [97, 115, 115, 101, 114, 116, 45, 116, 121, 112, 101, 45, 106, 115, 111, 110]) = false := by rw [hs]; decide
  have t3 : (s.toList == [97, 115, 115, 105, 103, 110, 45, 116, 111, 45, 99, 111, 110, 115, 116, 97, 110, 116]) = false := by rw [hs]; decide
  have t4 : (s.toList == [97, 115, 115, 105, 103, 110, 45, 116, 111, 45, 100, 101, 102, 105, 110, 101]) = false := by rw [hs]; decide
  have t5 : (s.toList == [97, 115, 115, 105, 103, 110, 45, 116, 111, 45, 105, 109, 112, 111, 114, 116]) = false := by rw [hs]; decide
  have t6 : (s.toList == [98, 105, 103, 105, 110, 116]) = false := by rw [hs]; decide
  have t7 : (s.toList == [99, 97, 108, 108, 45, 105, 109, 112, 111, 114, 116, 45, 110, 97, 109, 101, 115, 112, 97, 99, 101]) = false := by rw [hs]; decide
  have t8 : (s.toList == [99, 108, 97, 115, 115, 45, 110, 97, 109, 101, 45, 119, 105, 108, 108, 45, 116, 104, 114, 111, 119]) = false := by rw [hs]; decide
  have t9 : (s.toList == [99, 111, 109, 109, 111, 110, 106, 115, 45, 118, 97, 114, 105, 97, 98, 108, 101, 45, 105, 110, 45, 101, 115, 109]) = false := by rw [hs]; decide
  have t10 : (s.toList == [99, 111, 110, 102, 117, 115, 105, 110, 103, 45, 116, 121, 112, 101, 115, 99, 114, 105, 112, 116, 45, 99, 97, 115, 116]) = false := by rw [hs]; decide
  have t11 : (s.toList == [100, 101, 108, 101, 116, 101, 45, 115, 117, 112, 101, 114, 45, 112, 114, 111, 112, 101, 114, 116, 121]) = false := by rw [hs]; decide
  have t12 : (s.toList == [100, 105, 114, 101, 99, 116, 45, 101, 118, 97, 108]) = false := by rw [hs]; decide
  have t13 : (s.toList == [100, 117, 112, 108, 105, 99, 97, 116, 101, 45, 99, 97, 115, 101]) = false := by rw [hs]; decide
  have t14 : (s.toList == [100, 117, 112, 108, 105, 99, 97, 116, 101, 45, 99, 108, 97, 115, 115, 45, 109, 101, 109, 98, 101, 114]) = false := by rw [hs]; decide
  have t15 : (s.toList == [100, 117, 112, 108, 105, 99, 97, 116, 101, 45, 111, 98, 106, 101, 99, 116, 45, 107, 101, 121]) = false := by rw [hs]; decide
  have t16 : (s.toList == [101, 109, 112, 116, 121, 45, 105, 109, 112, 111, 114, 116, 45, 109, 101, 116, 97]) = false := by rw [hs]; decide
  have t17 : (s.toList == [101, 113, 117, 97, 108, 115, 45, 110, 97, 110]) = false := by rw [hs]; decide
  have t18 : (s.toList == [101, 113, 117, 97, 108, 115, 45, 110, 101, 103, 97, 116, 105, 118, 101, 45, 122, 101, 114, 111]) = false := by rw [hs]; decide
  have t19 : (s.toList == [101, 113, 117, 97, 108, 115, 45, 110, 101, 119, 45, 111, 98, 106, 101, 99, 116]) = false := by rw [hs]; decide
  have t20 : (s.toList == [104, 116, 109, 108, 45, 99, 111, 109, 109, 101, 110, 116, 45, 105, 110, 45, 106, 115]) = false := by rw [hs]; decide
  have t21 : (s.toList == [105, 109, 112, 111, 115, 115, 105, 98, 108, 101, 45, 116, 121, 112, 101, 111, 102]) = false := by rw [hs]; decide
  have t22 : (s.toList == [105, 110, 100, 105, 114, 101, 99, 116, 45, 114, 101, 113, 117, 105, 114, 101]) = true := by rw [hs]; exact beq_self_eq_true _
  clear hs
  go_enter Try.func20, Try.ntmps20
  go_wp2_with (first
    | (at_mapUpdate; refine wpList_mapUpdate_own _ rfl _ _ _ 69 rfl 5 72 lawM Try.underlying69 RE b 0 _ rfl HO.out (by decide) _ _ _ rfl rfl (keyOf_int_mk Try.underlying5 (by decide)) _ [] (plainElem_int Try.underlying72 (by decide)) ?_; intro w1 ho1 hg1; go_frame)
    | fail)
  go_end0
  exact ⟨rfl, 1, _, by decide, ho1, fun c => (one_key 22 c _).trans (HK.out c).symm, hg1⟩
set_option maxRecDepth 1000000 in
set_option maxHeartbeats 40000000 in
theorem arm23 (s : ByteArray) (b : Nat) (w : World) (ho : Om w b 0 (.map [])) (hs : s.toList = [112, 114, 105, 118, 97, 116, 101, 45, 110, 97, 109, 101, 45, 119, 105, 108, 108, 45, 116, 104, 114, 111, 119]) : Calls Try.prog 20 #[.string s, .int .i8 3, .map (some b)] w (Ids s b w) := by
  have HK := Lib.hid (Ks_arm (lo := 23) (hi := 23) hs (by decide) (by decide))
  have HO := Lib.hid ho
  clear ho
  have t1 : (s.toList == [97, 115, 115, 101, 114, 116, 45, 116, 111, 45, 119, 105, 116, 104]) = false := by rw [hs]; decide
  have t2 : (s.toList == [97, 115, 115, 101, 114, 116, 45, 116, 121, 112, 101, 45, 106, 115, 111, 110]) = false := by rw [hs]; decide
  have t3 : (s.toList == [97, 115, 115, 105, 103, 110, 45, 116, 111, 45, 99, 111, 110, 115, 116, 97, 110, 116]) = false := by rw [hs]; decide
  have t4 : (s.toList == [97, 115, 115, 105, 103, 110, 45, 116, 111, 45, 100, 101, 102, 105, 110, 101]) = false := by rw [hs]; decide
  have t5 : (s.toList == [97, 115, 115, 105, 103, 110, 45, 116, 111, 45, 105, 109, 112, 111, 114, 116]) = false := by rw [hs]; decide
  have t6 : (s.toList == [98, 105, 103, 105, 110, 116]) = false := by rw [hs]; decide
  have t7 : (s.toList == [99, 97, 108, 108, 45, 105, 109, 112, 111, 114, 116, 45, 110, 97, 109, 101, 115, 112, 97, 99, 101]) = false := by rw [hs]; decide
  have t8 : (s.toList == [99, 108, 97, 115, 115, 45, 110, 97, 109, 101, 45, 119, 105, 108, 108, 45, 116, 104, 114, 111, 119]) = false := by rw [hs]; decide
  have t9 : (s.toList == [99, 111, 109, 109, 111, 110, 106, 115, 45, 118, 97, 114, 105, 97, 98, 108, 101, 45, 105, 110, 45, 101, 115, 109]) = false := by rw [hs]; decide
  have t10 : (s.toList == [99, 111, 110, 102, 117, 115, 105, 110, 103, 45, 116, 121, 112, 101, 115, 99, 114, 105, 112, 116, 45, 99, 97, 115, 116]) = false := by rw [hs]; decide
  have t11 : (s.toList == [100, 101, 108, 101, 116, 101, 45, 115, 117, 112, 101, 114, 45, 112, 114, 111, 112, 101, 114, 116, 121]) = false := by rw [hs]; decide
  have t12 : (s.toList == [100, 105, 114, 101, 99, 116, 45, 101, 118, 97, 108]) = false := by rw [hs]; decide
  have t13 : (s.toList == [100, 117, 112, 108, 105, 99, 97, 116, 101, 45, 99, 97, 115, 101]) = false := by rw [hs]; decide
  have t14 : (s.toList == [100, 117, 112, 108, 105, 99, 97, 116, 101, 45, 99, 108, 97, 115, 115, 45, 109, 101, 109, 98, 101, 114]) = false := by rw [hs]; decide
  have t15 : (s.toList == [100, 117, 112, 108, 105, 99, 97, 116, 101, 45, 111, 98, 106, 101, 99, 116, 45, 107, 101, 121]) = false := by rw [hs]; decide
  have t16 : (s.toList == [101, 109, 112, 116, 121, 45, 105, 109, 112, 111, 114, 116, 45, 109, 101, 116, 97]) = false := by rw [hs]; decide
  have t17 : (s.toList == [101, 113, 117, 97, 108, 115, 45, 110, 97, 110]) = false := by rw [hs]; decide
  have t18 : (s.toList == [101, 113, 117, 97, 108, 115, 45, 110, 101, 103, 97, 116, 105, 118, 101, 45, 122, 101, 114, 111]) = false := by rw [hs]; decide
  have t19 : (s.toList == [101, 113, 117, 97, 108, 115, 45, 110, 101, 119, 45, 111, 98, 106, 101, 99, 116]) = false := by rw [hs]; decide
  have t20 : (s.toList == [104, 116, 109, 108, 45, 99, 111, 109, 109, 101, 110, 116, 45, 105, 110, 45, 106, 115]) = false := by rw [hs]; decide
  have t21 : (s.toList == [105, 109, 112, 111, 115, 115, 105, 98, 108, 101, 45, 116, 121, 112, 101, 111, 102]) = false := by rw [hs]; decide
  have t22 : (s.toList == [105, 110, 100, 105, 114, 101, 99, 116, 45, 114, 101, 113, 117, 105, 114, 101]) = false := by rw [hs]; decide
  have t23 : (s.toList == [112, 114, 105, 118, 97, 116, 101, 45, 110, 97, 109, 101, 45, 119, 105, 108, 108, 45, 116, 104, 114, 111, 119]) = true := by rw [hs]; exact beq_self_eq_true _
  clear hs
  go_enter Try.func20, Try.ntmps20
  go_wp2_with (first
    | (at_mapUpdate; refine wpList_mapUpdate_own _ rfl _ _ _ 69 rfl 5 72 lawM Try.underlying69 RE b 0 _ rfl HO.out (by decide) _ _ _ rfl rfl (keyOf_int_mk Try.underlying5 (by decide)) _ [] (plainElem_int Try.underlying72 (by decide)) ?_; intro w1 ho1 hg1; go_frame)
    | fail)
  go_end0
  exact ⟨rfl, 1, _, by decide, ho1, fun c => (one_key 23 c _).trans (HK.out c).symm, hg1⟩
set_option maxRecDepth 1000000 in
set_option maxHeartbeats 40000000 in
theorem arm24 (s : ByteArray) (b : Nat) (w : World) (ho : Om w b 0 (.map [])) (hs : s.toList = [115, 101, 109, 105, 99, 111, 108, 111, 110, 45, 97, 102, 116, 101, 114, 45, 114, 101, 116, 117, 114, 110]) : Calls Try.prog 20 #[.string s, .int .i8 3, .map (some b)] w (Ids s b w) := by
  have HK := Lib.hid (Ks_arm (lo := 24) (hi := 24) hs (by decide) (by decide))
  have HO := Lib.hid ho
  clear ho
  have t1 : (s.toList == [97, 115, 115, 101, 114, 116, 45, 116, 111, 45, 119, 105, 116, 104]) = false := by rw [hs]; decide
  have t2 : (s.toList == [97, 115, 115, 101, 114, 116, 45, 116, 121, 112, 101, 45, 106, 115, 111, 110]) = false := by rw [hs]; decide
  have t3 : (s.toList == [97, 115, 115, 105, 103, 110, 45, 116, 111, 45, 99, 111, 110, 115, 116, 97, 110, 116]) = false := by rw [hs]; decide
  have t4 : (s.toList == [97, 115, 115, 105, 103, 110, 45, 116, 111, 45, 100, 101, 102, 105, 110, 101]) = false := by rw [hs]; decide
  have t5 : (s.toList == [97, 115, 115, 105, 103, 110, 45, 116, 111, 45, 105, 109, 112, 111, 114, 116]) = false := by rw [hs]; decide
  have t6 : (s.toList == [98, 105, 103, 105, 110, 116]) = false := by rw [hs]; decide
  have t7 : (s.toList == [99, 97, 108, 108, 45, 105, 109, 112, 111, 114, 116, 45, 110, 97, 109, 101, 115, 112, 97, 99, 101]) = false := by rw [hs]; decide
  have t8 : (s.toList == [99, 108, 97, 115, 115, 45, 110, 97, 109, 101, 45, 119, 105, 108, 108, 45, 116, 104, 114, 111, 119]) = false := by rw [hs]; decide
  have t9 : (s.toList == [99, 111, 109, 109, 111, 110, 106, 115, 45, 118, 97, 114, 105, 97, 98, 108, 101, 45, 105, 110, 45, 101, 115, 109]) = false := by rw [hs]; decide
  have t10 : (s.toList == [99, 111, 110, 102, 117, 115, 105, 110, 103, 45, 116, 121, 112, 101, 115, 99, 114, 105, 112, 116, 45, 99, 97, 115, 116]) = false := by rw [hs]; decide
  have t11 : (s.toList == [100, 101, 108, 101, 116, 101, 45, 115, 117, 112, 101, 114, 45, 112, 114, 111, 112, 101, 114, 116, 121]) = false := by rw [hs]; decide
  have t12 : (s.toList == [100, 105, 114, 101, 99, 116, 45, 101, 118, 97, 108]) = false := by rw [hs]; decide
  have t13 : (s.toList == [100, 117, 112, 108, 105, 99, 97, 116, 101, 45, 99, 97, 115, 101]) = false := by rw [hs]; decide
  have t14 : (s.toList == [100, 117, 112, 108, 105, 99, 97, 116, 101, 45, 99, 108, 97, 115, 115, 45, 109, 101, 109, 98, 101, 114]) = false := by rw [hs]; decide
  have t15 : (s.toList == [100, 117, 112, 108, 105, 99, 97, 116, 101, 45, 111, 98, 106, 101, 99, 116, 45, 107, 101, 121]) = false := by rw [hs]; decide
  have t16 : (s.toList == [101, 109, 112, 116, 121, 45, 105, 109, 112, 111, 114, 116, 45, 109, 101, 116, 97]) = false := by rw [hs]; decide
  have t17 : (s.toList == [101, 113, 117, 97, 108, 115, 45, 110, 97, 110]) = false := by rw [hs]; decide
  have t18 : (s.toList == [101, 113, 117, 97, 108, 115, 45, 110, 101, 103, 97, 116, 105, 118, 101, 45, 122, 101, 114, 111]) = false := by rw [hs]; decide
  have t19 : (s.toList == [101, 113, 117, 97, 108, 115, 45, 110, 101, 119, 45, 111, 98, 106, 101, 99, 116]) = false := by rw [hs]; decide
  have t20 : (s.toList == [104, 116, 109, 108, 45, 99, 111, 109, 109, 101, 110, 116, 45, 105, 110, 45, 106, 115]) = false := by rw [hs]; decide
  have t21 : (s.toList == [105, 109, 112, 111, 115, 115, 105, 98, 108, 101, 45, 116, 121, 112, 101, 111, 102]) = false := by rw [hs]; decide
  have t22 : (s.toList == [105, 110, 100, 105, 114, 101, 99, 116, 45, 114, 101, 113, 117, 105, 114, 101]) = false := by rw [hs]; decide
  have t23 : (s.toList == [112, 114, 105, 118, 97, 116, 101, 45, 110, 97, 109, 101, 45, 119, 105, 108, 108, 45, 116, 104, 114, 111, 119]) = false := by rw [hs]; decide
  have t24 : (s.toList == [115, 101, 109, 105, 99, 111, 108, 111, 110, 45, 97, 102, 116, 101, 114, 45, 114, 101, 116, 117, 114, 110]) = true := by rw [hs]; exact beq_self_eq_true _
  clear hs
  go_enter Try.func20, Try.ntmps20
  go_wp2_with (first
    | (at_mapUpdate; refine wpList_mapUpdate_own _ rfl _ _ _ 69 rfl 5 72 lawM Try.underlying69 RE b 0 _ rfl HO.out (by decide) _ _ _ rfl rfl (keyOf_int_mk Try.underlying5 (by decide)) _ [] (plainElem_int Try.underlying72 (by decide)) ?_; intro w1 ho1 hg1; go_frame)
    | fail)
  go_end0
  exact ⟨rfl, 1, _, by decide, ho1, fun c => (one_key 24 c _).trans (HK.out c).symm, hg1⟩
end Go.Proofs.Ytmjfdhgfpgeboad.Idp
