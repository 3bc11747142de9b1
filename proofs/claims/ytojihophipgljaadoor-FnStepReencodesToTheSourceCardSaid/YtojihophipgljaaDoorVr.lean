/-
  Contracts for the law on WouldStartIdentifierWithoutEscapes: the model's length of a rune. Conditions: sizes.
-/
import Derived.Test.YtojihophipgljaaDoorRows
import Derived.Test.YtojihophipgljaaDoorMem
import Derived.Test.YtojihophipgljaaDoorStr
import Derived.WalkKit
import Derived.WalkSpells
import Derived.Handy
import Derived.Lib.Hide
import Derived.Lib.QuoteLoop
import Derived.Laws.RangeAny
namespace Go.Proofs.YtojihophipgljaaDoor.Vr
open Go.RowKit Go.PlainAid Str Mem
set_option linter.unusedVariables false
def dN (s : ByteArray) (i : Nat) : Nat × Nat := Lib.decodeN (s.size - i) (bt s i).toNat (bt s (i + 1)).toNat (bt s (i + 2)).toNat (bt s (i + 3)).toNat
theorem get_bang (s : ByteArray) (i : Nat) : (s.get! i).toNat = (bt s i).toNat := by
  by_cases h : i < s.size
  · rw [bt_get s i h]
    have : s.get! i = s[i]'h := by
      show s.data[i]! = _
      rw [getElem!_pos s.data i (by simpa using h)]
      rfl
    rw [this]; omega
  · rw [bt_end s (by omega)]
    have : s.get! i = 0 := by
      show s.data[i]! = _
      rw [getElem!_neg s.data i (by simpa using h)]
      rfl
    rw [this]; rfl
theorem decode_dN (s : ByteArray) (i : Nat) : Utf8.decode s i = dN s i := by
  rw [Lib.decode_at, get_bang, get_bang, get_bang, get_bang]; rfl
/-- A rune is decoded at i. -/
def okD (s : ByteArray) (i : Nat) : Bool := !decide (Utf8.decode s i = (65533, 1))
/-- What the bytes at i must be, in the class (sz, lo, hi). -/
def CL (s : ByteArray) (i sz : Nat) (lo hi : Int) : Prop := i + sz ≤ s.size ∧ lo ≤ bt s (i + 1) ∧ bt s (i + 1) ≤ hi ∧ (3 ≤ sz → 128 ≤ bt s (i + 2) ∧ bt s (i + 2) ≤ 191) ∧ (4 ≤ sz → 128 ≤ bt s (i + 3) ∧ bt s (i + 3) ≤ 191)
set_option maxHeartbeats 4000000 in
theorem slow_bad (n b0 b1 b2 b3 sz lo hi : Nat) (h2 : 2 ≤ sz) (h4 : sz ≤ 4) : Lib.slowN n b0 b1 b2 b3 sz lo hi = (65533, 1) ↔ ¬ (sz ≤ n ∧ lo ≤ b1 ∧ b1 ≤ hi ∧ (3 ≤ sz → 128 ≤ b2 ∧ b2 ≤ 191) ∧ (4 ≤ sz → 128 ≤ b3 ∧ b3 ≤ 191)) := by
  unfold Lib.slowN
  repeat' split
  all_goals first | (simp only [Prod.mk.injEq]; omega) | (refine ⟨fun _ => by omega, fun _ => rfl⟩)
theorem cls {s : ByteArray} {i sz lo hi : Nat} (h2 : 2 ≤ sz) (h4 : sz ≤ 4) (hi' : i < s.size) (h : Lib.slowN (s.size - i) (bt s i).toNat (bt s (i + 1)).toNat (bt s (i + 2)).toNat (bt s (i + 3)).toNat sz lo hi = dN s i) : okD s i = true ↔ CL s i sz lo hi := by
  have g1 := bt_nonneg s (i + 1)
  have g2 := bt_nonneg s (i + 2)
  have g3 := bt_nonneg s (i + 3)
  unfold okD
  rw [Bool.not_eq_true', decide_eq_false_iff_not, decode_dN, ← h, slow_bad _ _ _ _ _ _ _ _ h2 h4, Classical.not_not]
  unfold CL
  refine ⟨fun ⟨a, b, c, d, e⟩ => ⟨by omega, by omega, by omega, fun h => ?_, fun h => ?_⟩, fun ⟨a, b, c, d, e⟩ => ⟨by omega, by omega, by omega, fun h => ?_, fun h => ?_⟩⟩
  · have := d h; omega
  · have := e h; omega
  · have := d h; omega
  · have := e h; omega
theorem cls_bad {s : ByteArray} {i : Nat} (h0 : 128 ≤ bt s i) (h : bt s i ≤ 193 ∨ 245 ≤ bt s i) : okD s i = false := by
  have l0 := bt_le s i
  have e : dN s i = (65533, 1) := by
    unfold dN Lib.decodeN
    repeat' split
    all_goals first | rfl | (exfalso; omega)
  unfold okD
  rw [decode_dN, e]; rfl
def Len (s : ByteArray) (i : Nat) (w : World) (e : Ending) (w' : World) : Prop := ∃ n : Int, e = .returned (.int .i64 n) ∧ (n != 0) = okD s i ∧ 0 ≤ n ∧ n ≤ 4 ∧ w = w'
theorem len_no {s : ByteArray} {i sz : Nat} {lo hi : Int} {w : World} (hc : okD s i = true ↔ CL s i sz lo hi) (h : ¬ CL s i sz lo hi) : Len s i w (.returned (.int .i64 0)) w :=
  ⟨0, rfl, by
    have : okD s i = false := by rw [← Bool.not_eq_true, hc]; exact h
    rw [this]; rfl, by omega, by omega, rfl⟩
theorem len_yes {s : ByteArray} {i sz : Nat} {lo hi : Int} {w : World} (n : Int) (hn : 2 ≤ n) (h4 : n ≤ 4) (hc : okD s i = true ↔ CL s i sz lo hi) (h : CL s i sz lo hi) : Len s i w (.returned (.int .i64 n)) w :=
  ⟨n, rfl, by rw [hc.2 h]; simp; omega, by omega, by omega, rfl⟩
set_option maxRecDepth 100000 in
set_option maxHeartbeats 4000000 in
theorem len_C2 (s : ByteArray) (i : Nat) (hs : s.size ≤ 1048576) (hi : i < s.size) (hh : 194 ≤ bt s i ∧ bt s i ≤ 223) (w : World) : Calls Tryd.prog 23 #[.string s, .int .i64 (i : Int)] w (Len s i w) := by
  have hb := get_bt s
  have i0 : (0 : Int) ≤ (i : Int) := by omega
  have z0 : decide ((i : Int) < 0) = false := decide_eq_false (by omega)
  have z1 : decide ((s.size : Int) ≤ (i : Int)) = false := by simp; omega
  have z2 : decide (s.size ≤ i) = false := by simp; omega
  have t128 : decide (bt s i < 128) = false := by simp; omega
  have t194 : decide (194 ≤ bt s i) = true := by simp; omega
  have t223 : decide (bt s i ≤ 223) = true := by simp; omega
  have t224 : (bt s i == 224) = false := by simp; omega
  have t225 : decide (225 ≤ bt s i) = false := by simp; omega
  have t236 : decide (bt s i ≤ 236) = true := by simp; omega
  have t237 : (bt s i == 237) = false := by simp; omega
  have t238 : (bt s i == 238) = false := by simp; omega
  have t239 : (bt s i == 239) = false := by simp; omega
  have t240 : (bt s i == 240) = false := by simp; omega
  have t241 : decide (241 ≤ bt s i) = false := by simp; omega
  have t243 : decide (bt s i ≤ 243) = true := by simp; omega
  have t244 : (bt s i == 244) = false := by simp; omega
  have HC : Hid (okD s i = true ↔ CL s i 2 (128 : Nat) (191 : Nat)) := by
    have l0 := bt_le s i
    have l1 := bt_le s (i + 1)
    have l2 := bt_le s (i + 2)
    have l3 := bt_le s (i + 3)
    exact Lib.hid (cls (by omega) (by omega) hi (Lib.slow_C2 _ _ _ _ _ (by omega) (by omega) (by omega) (by omega) (by omega)))
  clear hh
  go_enter Tryd.func23, Tryd.ntmps23
  go_wp2
  all_goals try (refine wp_loop_rounds 3 ?_; repeat any_goals (rw [rounds_succ]; go_wp2))
  all_goals go_ret
  all_goals first
    | exact len_no HC.out (by unfold CL; omega)
    | exact len_yes _ (by omega) (by omega) HC.out (by unfold CL; omega)
set_option maxRecDepth 100000 in
set_option maxHeartbeats 4000000 in
theorem len_E0 (s : ByteArray) (i : Nat) (hs : s.size ≤ 1048576) (hi : i < s.size) (hh : bt s i = 224) (w : World) : Calls Tryd.prog 23 #[.string s, .int .i64 (i : Int)] w (Len s i w) := by
  have hb := get_bt s
  have i0 : (0 : Int) ≤ (i : Int) := by omega
  have z0 : decide ((i : Int) < 0) = false := decide_eq_false (by omega)
  have z1 : decide ((s.size : Int) ≤ (i : Int)) = false := by simp; omega
  have z2 : decide (s.size ≤ i) = false := by simp; omega
  have t128 : decide (bt s i < 128) = false := by simp; omega
  have t194 : decide (194 ≤ bt s i) = true := by simp; omega
  have t223 : decide (bt s i ≤ 223) = false := by simp; omega
  have t224 : (bt s i == 224) = true := by simp; omega
  have t225 : decide (225 ≤ bt s i) = false := by simp; omega
  have t236 : decide (bt s i ≤ 236) = true := by simp; omega
  have t237 : (bt s i == 237) = false := by simp; omega
  have t238 : (bt s i == 238) = false := by simp; omega
  have t239 : (bt s i == 239) = false := by simp; omega
  have t240 : (bt s i == 240) = false := by simp; omega
  have t241 : decide (241 ≤ bt s i) = false := by simp; omega
  have t243 : decide (bt s i ≤ 243) = true := by simp; omega
  have t244 : (bt s i == 244) = false := by simp; omega
  have HC : Hid (okD s i = true ↔ CL s i 3 (160 : Nat) (191 : Nat)) := by
    have l0 := bt_le s i
    have l1 := bt_le s (i + 1)
    have l2 := bt_le s (i + 2)
    have l3 := bt_le s (i + 3)
    exact Lib.hid (cls (by omega) (by omega) hi (Lib.slow_E0 _ _ _ _ _ (by omega) (by omega) (by omega) (by omega) (by omega)))
  clear hh
  go_enter Tryd.func23, Tryd.ntmps23
  go_wp2
  all_goals try (refine wp_loop_rounds 3 ?_; repeat any_goals (rw [rounds_succ]; go_wp2))
  all_goals go_ret
  all_goals first
    | exact len_no HC.out (by unfold CL; omega)
    | exact len_yes _ (by omega) (by omega) HC.out (by unfold CL; omega)
set_option maxRecDepth 100000 in
set_option maxHeartbeats 4000000 in
theorem len_E1 (s : ByteArray) (i : Nat) (hs : s.size ≤ 1048576) (hi : i < s.size) (hh : 225 ≤ bt s i ∧ bt s i ≤ 236) (w : World) : Calls Tryd.prog 23 #[.string s, .int .i64 (i : Int)] w (Len s i w) := by
  have hb := get_bt s
  have i0 : (0 : Int) ≤ (i : Int) := by omega
  have z0 : decide ((i : Int) < 0) = false := decide_eq_false (by omega)
  have z1 : decide ((s.size : Int) ≤ (i : Int)) = false := by simp; omega
  have z2 : decide (s.size ≤ i) = false := by simp; omega
  have t128 : decide (bt s i < 128) = false := by simp; omega
  have t194 : decide (194 ≤ bt s i) = true := by simp; omega
  have t223 : decide (bt s i ≤ 223) = false := by simp; omega
  have t224 : (bt s i == 224) = false := by simp; omega
  have t225 : decide (225 ≤ bt s i) = true := by simp; omega
  have t236 : decide (bt s i ≤ 236) = true := by simp; omega
  have t237 : (bt s i == 237) = false := by simp; omega
  have t238 : (bt s i == 238) = false := by simp; omega
  have t239 : (bt s i == 239) = false := by simp; omega
  have t240 : (bt s i == 240) = false := by simp; omega
  have t241 : decide (241 ≤ bt s i) = false := by simp; omega
  have t243 : decide (bt s i ≤ 243) = true := by simp; omega
  have t244 : (bt s i == 244) = false := by simp; omega
  have HC : Hid (okD s i = true ↔ CL s i 3 (128 : Nat) (191 : Nat)) := by
    have l0 := bt_le s i
    have l1 := bt_le s (i + 1)
    have l2 := bt_le s (i + 2)
    have l3 := bt_le s (i + 3)
    exact Lib.hid (cls (by omega) (by omega) hi (Lib.slow_E1 _ _ _ _ _ (by omega) (by omega) (by omega) (by omega) (by omega)))
  clear hh
  go_enter Tryd.func23, Tryd.ntmps23
  go_wp2
  all_goals try (refine wp_loop_rounds 3 ?_; repeat any_goals (rw [rounds_succ]; go_wp2))
  all_goals go_ret
  all_goals first
    | exact len_no HC.out (by unfold CL; omega)
    | exact len_yes _ (by omega) (by omega) HC.out (by unfold CL; omega)
set_option maxRecDepth 100000 in
set_option maxHeartbeats 4000000 in
theorem len_ED (s : ByteArray) (i : Nat) (hs : s.size ≤ 1048576) (hi : i < s.size) (hh : bt s i = 237) (w : World) : Calls Tryd.prog 23 #[.string s, .int .i64 (i : Int)] w (Len s i w) := by
  have hb := get_bt s
  have i0 : (0 : Int) ≤ (i : Int) := by omega
  have z0 : decide ((i : Int) < 0) = false := decide_eq_false (by omega)
  have z1 : decide ((s.size : Int) ≤ (i : Int)) = false := by simp; omega
  have z2 : decide (s.size ≤ i) = false := by simp; omega
  have t128 : decide (bt s i < 128) = false := by simp; omega
  have t194 : decide (194 ≤ bt s i) = true := by simp; omega
  have t223 : decide (bt s i ≤ 223) = false := by simp; omega
  have t224 : (bt s i == 224) = false := by simp; omega
  have t225 : decide (225 ≤ bt s i) = true := by simp; omega
  have t236 : decide (bt s i ≤ 236) = false := by simp; omega
  have t237 : (bt s i == 237) = true := by simp; omega
  have t238 : (bt s i == 238) = false := by simp; omega
  have t239 : (bt s i == 239) = false := by simp; omega
  have t240 : (bt s i == 240) = false := by simp; omega
  have t241 : decide (241 ≤ bt s i) = false := by simp; omega
  have t243 : decide (bt s i ≤ 243) = true := by simp; omega
  have t244 : (bt s i == 244) = false := by simp; omega
  have HC : Hid (okD s i = true ↔ CL s i 3 (128 : Nat) (159 : Nat)) := by
    have l0 := bt_le s i
    have l1 := bt_le s (i + 1)
    have l2 := bt_le s (i + 2)
    have l3 := bt_le s (i + 3)
    exact Lib.hid (cls (by omega) (by omega) hi (Lib.slow_ED _ _ _ _ _ (by omega) (by omega) (by omega) (by omega) (by omega)))
  clear hh
  go_enter Tryd.func23, Tryd.ntmps23
  go_wp2
  all_goals try (refine wp_loop_rounds 3 ?_; repeat any_goals (rw [rounds_succ]; go_wp2))
  all_goals go_ret
  all_goals first
    | exact len_no HC.out (by unfold CL; omega)
    | exact len_yes _ (by omega) (by omega) HC.out (by unfold CL; omega)
set_option maxRecDepth 100000 in
set_option maxHeartbeats 4000000 in
theorem len_EE (s : ByteArray) (i : Nat) (hs : s.size ≤ 1048576) (hi : i < s.size) (hh : bt s i = 238) (w : World) : Calls Tryd.prog 23 #[.string s, .int .i64 (i : Int)] w (Len s i w) := by
  have hb := get_bt s
  have i0 : (0 : Int) ≤ (i : Int) := by omega
  have z0 : decide ((i : Int) < 0) = false := decide_eq_false (by omega)
  have z1 : decide ((s.size : Int) ≤ (i : Int)) = false := by simp; omega
  have z2 : decide (s.size ≤ i) = false := by simp; omega
  have t128 : decide (bt s i < 128) = false := by simp; omega
  have t194 : decide (194 ≤ bt s i) = true := by simp; omega
  have t223 : decide (bt s i ≤ 223) = false := by simp; omega
  have t224 : (bt s i == 224) = false := by simp; omega
  have t225 : decide (225 ≤ bt s i) = true := by simp; omega
  have t236 : decide (bt s i ≤ 236) = false := by simp; omega
  have t237 : (bt s i == 237) = false := by simp; omega
  have t238 : (bt s i == 238) = true := by simp; omega
  have t239 : (bt s i == 239) = false := by simp; omega
  have t240 : (bt s i == 240) = false := by simp; omega
  have t241 : decide (241 ≤ bt s i) = false := by simp; omega
  have t243 : decide (bt s i ≤ 243) = true := by simp; omega
  have t244 : (bt s i == 244) = false := by simp; omega
  have HC : Hid (okD s i = true ↔ CL s i 3 (128 : Nat) (191 : Nat)) := by
    have l0 := bt_le s i
    have l1 := bt_le s (i + 1)
    have l2 := bt_le s (i + 2)
    have l3 := bt_le s (i + 3)
    exact Lib.hid (cls (by omega) (by omega) hi (Lib.slow_E1 _ _ _ _ _ (by omega) (by omega) (by omega) (by omega) (by omega)))
  clear hh
  go_enter Tryd.func23, Tryd.ntmps23
  go_wp2
  all_goals try (refine wp_loop_rounds 3 ?_; repeat any_goals (rw [rounds_succ]; go_wp2))
  all_goals go_ret
  all_goals first
    | exact len_no HC.out (by unfold CL; omega)
    | exact len_yes _ (by omega) (by omega) HC.out (by unfold CL; omega)
set_option maxRecDepth 100000 in
set_option maxHeartbeats 4000000 in
theorem len_EF (s : ByteArray) (i : Nat) (hs : s.size ≤ 1048576) (hi : i < s.size) (hh : bt s i = 239) (w : World) : Calls Tryd.prog 23 #[.string s, .int .i64 (i : Int)] w (Len s i w) := by
  have hb := get_bt s
  have i0 : (0 : Int) ≤ (i : Int) := by omega
  have z0 : decide ((i : Int) < 0) = false := decide_eq_false (by omega)
  have z1 : decide ((s.size : Int) ≤ (i : Int)) = false := by simp; omega
  have z2 : decide (s.size ≤ i) = false := by simp; omega
  have t128 : decide (bt s i < 128) = false := by simp; omega
  have t194 : decide (194 ≤ bt s i) = true := by simp; omega
  have t223 : decide (bt s i ≤ 223) = false := by simp; omega
  have t224 : (bt s i == 224) = false := by simp; omega
  have t225 : decide (225 ≤ bt s i) = true := by simp; omega
  have t236 : decide (bt s i ≤ 236) = false := by simp; omega
  have t237 : (bt s i == 237) = false := by simp; omega
  have t238 : (bt s i == 238) = false := by simp; omega
  have t239 : (bt s i == 239) = true := by simp; omega
  have t240 : (bt s i == 240) = false := by simp; omega
  have t241 : decide (241 ≤ bt s i) = false := by simp; omega
  have t243 : decide (bt s i ≤ 243) = true := by simp; omega
  have t244 : (bt s i == 244) = false := by simp; omega
  have HC : Hid (okD s i = true ↔ CL s i 3 (128 : Nat) (191 : Nat)) := by
    have l0 := bt_le s i
    have l1 := bt_le s (i + 1)
    have l2 := bt_le s (i + 2)
    have l3 := bt_le s (i + 3)
    exact Lib.hid (cls (by omega) (by omega) hi (Lib.slow_E1 _ _ _ _ _ (by omega) (by omega) (by omega) (by omega) (by omega)))
  clear hh
  go_enter Tryd.func23, Tryd.ntmps23
  go_wp2
  all_goals try (refine wp_loop_rounds 3 ?_; repeat any_goals (rw [rounds_succ]; go_wp2))
  all_goals go_ret
  all_goals first
    | exact len_no HC.out (by unfold CL; omega)
    | exact len_yes _ (by omega) (by omega) HC.out (by unfold CL; omega)
set_option maxRecDepth 100000 in
set_option maxHeartbeats 4000000 in
theorem len_F0 (s : ByteArray) (i : Nat) (hs : s.size ≤ 1048576) (hi : i < s.size) (hh : bt s i = 240) (w : World) : Calls Tryd.prog 23 #[.string s, .int .i64 (i : Int)] w (Len s i w) := by
  have hb := get_bt s
  have i0 : (0 : Int) ≤ (i : Int) := by omega
  have z0 : decide ((i : Int) < 0) = false := decide_eq_false (by omega)
  have z1 : decide ((s.size : Int) ≤ (i : Int)) = false := by simp; omega
  have z2 : decide (s.size ≤ i) = false := by simp; omega
  have t128 : decide (bt s i < 128) = false := by simp; omega
  have t194 : decide (194 ≤ bt s i) = true := by simp; omega
  have t223 : decide (bt s i ≤ 223) = false := by simp; omega
  have t224 : (bt s i == 224) = false := by simp; omega
  have t225 : decide (225 ≤ bt s i) = true := by simp; omega
  have t236 : decide (bt s i ≤ 236) = false := by simp; omega
  have t237 : (bt s i == 237) = false := by simp; omega
  have t238 : (bt s i == 238) = false := by simp; omega
  have t239 : (bt s i == 239) = false := by simp; omega
  have t240 : (bt s i == 240) = true := by simp; omega
  have t241 : decide (241 ≤ bt s i) = false := by simp; omega
  have t243 : decide (bt s i ≤ 243) = true := by simp; omega
  have t244 : (bt s i == 244) = false := by simp; omega
  have HC : Hid (okD s i = true ↔ CL s i 4 (144 : Nat) (191 : Nat)) := by
    have l0 := bt_le s i
    have l1 := bt_le s (i + 1)
    have l2 := bt_le s (i + 2)
    have l3 := bt_le s (i + 3)
    exact Lib.hid (cls (by omega) (by omega) hi (Lib.slow_F0 _ _ _ _ _ (by omega) (by omega) (by omega) (by omega) (by omega)))
  clear hh
  go_enter Tryd.func23, Tryd.ntmps23
  go_wp2
  all_goals try (refine wp_loop_rounds 3 ?_; repeat any_goals (rw [rounds_succ]; go_wp2))
  all_goals go_ret
  all_goals first
    | exact len_no HC.out (by unfold CL; omega)
    | exact len_yes _ (by omega) (by omega) HC.out (by unfold CL; omega)
set_option maxRecDepth 100000 in
set_option maxHeartbeats 4000000 in
theorem len_F1 (s : ByteArray) (i : Nat) (hs : s.size ≤ 1048576) (hi : i < s.size) (hh : 241 ≤ bt s i ∧ bt s i ≤ 243) (w : World) : Calls Tryd.prog 23 #[.string s, .int .i64 (i : Int)] w (Len s i w) := by
  have hb := get_bt s
  have i0 : (0 : Int) ≤ (i : Int) := by omega
  have z0 : decide ((i : Int) < 0) = false := decide_eq_false (by omega)
  have z1 : decide ((s.size : Int) ≤ (i : Int)) = false := by simp; omega
  have z2 : decide (s.size ≤ i) = false := by simp; omega
  have t128 : decide (bt s i < 128) = false := by simp; omega
  have t194 : decide (194 ≤ bt s i) = true := by simp; omega
  have t223 : decide (bt s i ≤ 223) = false := by simp; omega
  have t224 : (bt s i == 224) = false := by simp; omega
  have t225 : decide (225 ≤ bt s i) = true := by simp; omega
  have t236 : decide (bt s i ≤ 236) = false := by simp; omega
  have t237 : (bt s i == 237) = false := by simp; omega
  have t238 : (bt s i == 238) = false := by simp; omega
  have t239 : (bt s i == 239) = false := by simp; omega
  have t240 : (bt s i == 240) = false := by simp; omega
  have t241 : decide (241 ≤ bt s i) = true := by simp; omega
  have t243 : decide (bt s i ≤ 243) = true := by simp; omega
  have t244 : (bt s i == 244) = false := by simp; omega
  have HC : Hid (okD s i = true ↔ CL s i 4 (128 : Nat) (191 : Nat)) := by
    have l0 := bt_le s i
    have l1 := bt_le s (i + 1)
    have l2 := bt_le s (i + 2)
    have l3 := bt_le s (i + 3)
    exact Lib.hid (cls (by omega) (by omega) hi (Lib.slow_F1 _ _ _ _ _ (by omega) (by omega) (by omega) (by omega) (by omega)))
  clear hh
  go_enter Tryd.func23, Tryd.ntmps23
  go_wp2
  all_goals try (refine wp_loop_rounds 3 ?_; repeat any_goals (rw [rounds_succ]; go_wp2))
  all_goals go_ret
  all_goals first
    | exact len_no HC.out (by unfold CL; omega)
    | exact len_yes _ (by omega) (by omega) HC.out (by unfold CL; omega)
set_option maxRecDepth 100000 in
set_option maxHeartbeats 4000000 in
theorem len_F4 (s : ByteArray) (i : Nat) (hs : s.size ≤ 1048576) (hi : i < s.size) (hh : bt s i = 244) (w : World) : Calls Tryd.prog 23 #[.string s, .int .i64 (i : Int)] w (Len s i w) := by
  have hb := get_bt s
  have i0 : (0 : Int) ≤ (i : Int) := by omega
  have z0 : decide ((i : Int) < 0) = false := decide_eq_false (by omega)
  have z1 : decide ((s.size : Int) ≤ (i : Int)) = false := by simp; omega
  have z2 : decide (s.size ≤ i) = false := by simp; omega
  have t128 : decide (bt s i < 128) = false := by simp; omega
  have t194 : decide (194 ≤ bt s i) = true := by simp; omega
  have t223 : decide (bt s i ≤ 223) = false := by simp; omega
  have t224 : (bt s i == 224) = false := by simp; omega
  have t225 : decide (225 ≤ bt s i) = true := by simp; omega
  have t236 : decide (bt s i ≤ 236) = false := by simp; omega
  have t237 : (bt s i == 237) = false := by simp; omega
  have t238 : (bt s i == 238) = false := by simp; omega
  have t239 : (bt s i == 239) = false := by simp; omega
  have t240 : (bt s i == 240) = false := by simp; omega
  have t241 : decide (241 ≤ bt s i) = true := by simp; omega
  have t243 : decide (bt s i ≤ 243) = false := by simp; omega
  have t244 : (bt s i == 244) = true := by simp; omega
  have HC : Hid (okD s i = true ↔ CL s i 4 (128 : Nat) (143 : Nat)) := by
    have l0 := bt_le s i
    have l1 := bt_le s (i + 1)
    have l2 := bt_le s (i + 2)
    have l3 := bt_le s (i + 3)
    exact Lib.hid (cls (by omega) (by omega) hi (Lib.slow_F4 _ _ _ _ _ (by omega) (by omega) (by omega) (by omega) (by omega)))
  clear hh
  go_enter Tryd.func23, Tryd.ntmps23
  go_wp2
  all_goals try (refine wp_loop_rounds 3 ?_; repeat any_goals (rw [rounds_succ]; go_wp2))
  all_goals go_ret
  all_goals first
    | exact len_no HC.out (by unfold CL; omega)
    | exact len_yes _ (by omega) (by omega) HC.out (by unfold CL; omega)
set_option maxRecDepth 100000 in
set_option maxHeartbeats 4000000 in
theorem len_lo (s : ByteArray) (i : Nat) (hs : s.size ≤ 1048576) (hi : i < s.size) (hh : 128 ≤ bt s i ∧ bt s i ≤ 193) (w : World) : Calls Tryd.prog 23 #[.string s, .int .i64 (i : Int)] w (Len s i w) := by
  have hb := get_bt s
  have i0 : (0 : Int) ≤ (i : Int) := by omega
  have z0 : decide ((i : Int) < 0) = false := decide_eq_false (by omega)
  have z1 : decide ((s.size : Int) ≤ (i : Int)) = false := by simp; omega
  have z2 : decide (s.size ≤ i) = false := by simp; omega
  have t128 : decide (bt s i < 128) = false := by simp; omega
  have t194 : decide (194 ≤ bt s i) = false := by simp; omega
  have t223 : decide (bt s i ≤ 223) = true := by simp; omega
  have t224 : (bt s i == 224) = false := by simp; omega
  have t225 : decide (225 ≤ bt s i) = false := by simp; omega
  have t236 : decide (bt s i ≤ 236) = true := by simp; omega
  have t237 : (bt s i == 237) = false := by simp; omega
  have t238 : (bt s i == 238) = false := by simp; omega
  have t239 : (bt s i == 239) = false := by simp; omega
  have t240 : (bt s i == 240) = false := by simp; omega
  have t241 : decide (241 ≤ bt s i) = false := by simp; omega
  have t243 : decide (bt s i ≤ 243) = true := by simp; omega
  have t244 : (bt s i == 244) = false := by simp; omega
  have HB := Lib.hid (cls_bad (s := s) (i := i) (by omega) (by omega))
  clear hh
  go_enter Tryd.func23, Tryd.ntmps23
  go_wp2
  go_ret
  exact ⟨0, rfl, by rw [HB.out]; rfl, by omega, by omega, rfl⟩
set_option maxRecDepth 100000 in
set_option maxHeartbeats 4000000 in
theorem len_hi (s : ByteArray) (i : Nat) (hs : s.size ≤ 1048576) (hi : i < s.size) (hh : 245 ≤ bt s i ∧ bt s i ≤ 255) (w : World) : Calls Tryd.prog 23 #[.string s, .int .i64 (i : Int)] w (Len s i w) := by
  have hb := get_bt s
  have i0 : (0 : Int) ≤ (i : Int) := by omega
  have z0 : decide ((i : Int) < 0) = false := decide_eq_false (by omega)
  have z1 : decide ((s.size : Int) ≤ (i : Int)) = false := by simp; omega
  have z2 : decide (s.size ≤ i) = false := by simp; omega
  have t128 : decide (bt s i < 128) = false := by simp; omega
  have t194 : decide (194 ≤ bt s i) = true := by simp; omega
  have t223 : decide (bt s i ≤ 223) = false := by simp; omega
  have t224 : (bt s i == 224) = false := by simp; omega
  have t225 : decide (225 ≤ bt s i) = true := by simp; omega
  have t236 : decide (bt s i ≤ 236) = false := by simp; omega
  have t237 : (bt s i == 237) = false := by simp; omega
  have t238 : (bt s i == 238) = false := by simp; omega
  have t239 : (bt s i == 239) = false := by simp; omega
  have t240 : (bt s i == 240) = false := by simp; omega
  have t241 : decide (241 ≤ bt s i) = true := by simp; omega
  have t243 : decide (bt s i ≤ 243) = false := by simp; omega
  have t244 : (bt s i == 244) = false := by simp; omega
  have HB := Lib.hid (cls_bad (s := s) (i := i) (by omega) (by omega))
  clear hh
  go_enter Tryd.func23, Tryd.ntmps23
  go_wp2
  go_ret
  exact ⟨0, rfl, by rw [HB.out]; rfl, by omega, by omega, rfl⟩
theorem len23 (s : ByteArray) (i : Nat) (hs : s.size ≤ 1048576) (hi : i < s.size) (h0 : 128 ≤ bt s i) (w : World) : Calls Tryd.prog 23 #[.string s, .int .i64 (i : Int)] w (Len s i w) := by
  have l0 := bt_le s i
  by_cases cC2 : 194 ≤ bt s i ∧ bt s i ≤ 223
  · exact len_C2 s i hs hi cC2 w
  by_cases cE0 : bt s i = 224
  · exact len_E0 s i hs hi cE0 w
  by_cases cE1 : 225 ≤ bt s i ∧ bt s i ≤ 236
  · exact len_E1 s i hs hi cE1 w
  by_cases cED : bt s i = 237
  · exact len_ED s i hs hi cED w
  by_cases cEE : bt s i = 238
  · exact len_EE s i hs hi cEE w
  by_cases cEF : bt s i = 239
  · exact len_EF s i hs hi cEF w
  by_cases cF0 : bt s i = 240
  · exact len_F0 s i hs hi cF0 w
  by_cases cF1 : 241 ≤ bt s i ∧ bt s i ≤ 243
  · exact len_F1 s i hs hi cF1 w
  by_cases cF4 : bt s i = 244
  · exact len_F4 s i hs hi cF4 w
  by_cases clo : 128 ≤ bt s i ∧ bt s i ≤ 193
  · exact len_lo s i hs hi clo w
  by_cases chi : 245 ≤ bt s i ∧ bt s i ≤ 255
  · exact len_hi s i hs hi chi w
  exfalso
  omega
end Go.Proofs.YtojihophipgljaaDoor.Vr
