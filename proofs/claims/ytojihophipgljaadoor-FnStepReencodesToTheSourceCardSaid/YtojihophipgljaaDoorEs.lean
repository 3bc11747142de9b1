/-
  Contracts for the law on step: no scalar value is encoded where the decoder answers U+FFFD of width one. Conditions: sizes.
-/
import Derived.Test.YtojihophipgljaaDoorEn
import Derived.Deep.QuietTactic
import Derived.BigQuiet
namespace Go.Proofs.YtojihophipgljaaDoor.Es
open Go.RowKit Go.PlainAid Str Mem Rws Lx Wn Vr En
set_option linter.unusedVariables false
set_option maxRecDepth 100000 in
set_option maxHeartbeats 4000000 in
theorem some19 (s : ByteArray) (k : Nat) (hs : s.size ≤ 1048576) (hk : k < s.size) (h0 : 128 ≤ bt s k) (hv : Utf8.decode s k = (65533, 1)) (w : World) : Calls Tryd.prog 19 #[.string s, .int .i64 (k : Int)] w fun e w' => e = .returned (.bool false) ∧ ∃ n, w' = w.drewN n := by
  have hb := get_bt s
  obtain ⟨n2, n3, n4⟩ := bad s k h0 hv
  clear hv
  have l0 := bt_le s k
  have l1 := bt_le s (k + 1)
  have l2 := bt_le s (k + 2)
  have l3 := bt_le s (k + 3)
  have g1 := bt_nonneg s (k + 1)
  have g2 := bt_nonneg s (k + 2)
  have g3 := bt_nonneg s (k + 3)
  have i0 : (0 : Int) ≤ (k : Int) := by omega
  have i1 : (k : Int) < (s.size : Int) := by omega
  have E2 : Hid (k + 2 ≤ s.size → ∀ W : World, Calls Tryd.prog 20 #[.int .i32 (bt s k % 32 * 64 + bt s (k + 1) % 64), .string s, .int .i64 (k : Int), .int .i64 2] W fun e w' => e = .returned (.bool false) ∧ W = w') := Lib.hid fun h W => by
    have e := enc20 s k 2 (bt s k % 32 * 64 + bt s (k + 1) % 64) hs (by omega) (by omega) h (by omega) (by omega) W
    rw [encB_no (n2 h)] at e
    exact e
  have E3 : Hid (k + 3 ≤ s.size → ∀ W : World, Calls Tryd.prog 20 #[.int .i32 (bt s k % 16 * 4096 + bt s (k + 1) % 64 * 64 + bt s (k + 2) % 64), .string s, .int .i64 (k : Int), .int .i64 3] W fun e w' => e = .returned (.bool false) ∧ W = w') := Lib.hid fun h W => by
    have e := enc20 s k 3 (bt s k % 16 * 4096 + bt s (k + 1) % 64 * 64 + bt s (k + 2) % 64) hs (by omega) (by omega) h (by omega) (by omega) W
    rw [encB_no (n3 h)] at e
    exact e
  have E4 : Hid (k + 4 ≤ s.size → ∀ W : World, Calls Tryd.prog 20 #[.int .i32 (bt s k % 8 * 262144 + bt s (k + 1) % 64 * 4096 + bt s (k + 2) % 64 * 64 + bt s (k + 3) % 64), .string s, .int .i64 (k : Int), .int .i64 4] W fun e w' => e = .returned (.bool false) ∧ W = w') := Lib.hid fun h W => by
    have e := enc20 s k 4 (bt s k % 8 * 262144 + bt s (k + 1) % 64 * 4096 + bt s (k + 2) % 64 * 64 + bt s (k + 3) % 64) hs (by omega) (by omega) h (by omega) (by omega) W
    rw [encB_no (n4 h)] at e
    exact e
  clear n2 n3 n4
  have o2 : bits .or .i32 (bt s k % 32 * 64) (bt s (k + 1) % 64) = bt s k % 32 * 64 + bt s (k + 1) % 64 := Bit.or_6 _ _ (by omega) (by omega) (by omega) (by omega) (by omega)
  have o3 : bits .or .i32 (bt s k % 16 * 4096) (bt s (k + 1) % 64 * 64) = bt s k % 16 * 4096 + bt s (k + 1) % 64 * 64 := Bit.or_12 _ _ (by omega) (by omega) (by omega) (by omega) (by omega)
  have o3' : bits .or .i32 (bt s k % 16 * 4096 + bt s (k + 1) % 64 * 64) (bt s (k + 2) % 64) = bt s k % 16 * 4096 + bt s (k + 1) % 64 * 64 + bt s (k + 2) % 64 := Bit.or_6 _ _ (by omega) (by omega) (by omega) (by omega) (by omega)
  have o4 : bits .or .i32 (bt s k % 8 * 262144) (bt s (k + 1) % 64 * 4096) = bt s k % 8 * 262144 + bt s (k + 1) % 64 * 4096 := Bit.or_18 _ _ (by omega) (by omega) (by omega) (by omega) (by omega)
  have o4' : bits .or .i32 (bt s k % 8 * 262144 + bt s (k + 1) % 64 * 4096) (bt s (k + 2) % 64 * 64) = bt s k % 8 * 262144 + bt s (k + 1) % 64 * 4096 + bt s (k + 2) % 64 * 64 := Bit.or_12 _ _ (by omega) (by omega) (by omega) (by omega) (by omega)
  have o4'' : bits .or .i32 (bt s k % 8 * 262144 + bt s (k + 1) % 64 * 4096 + bt s (k + 2) % 64 * 64) (bt s (k + 3) % 64) = bt s k % 8 * 262144 + bt s (k + 1) % 64 * 4096 + bt s (k + 2) % 64 * 64 + bt s (k + 3) % 64 := Bit.or_6 _ _ (by omega) (by omega) (by omega) (by omega) (by omega)
  obtain c | c | c | c : s.size ≤ k + 1 ∨ (s.size ≤ k + 2 ∧ k + 2 ≤ s.size) ∨ (s.size ≤ k + 3 ∧ k + 3 ≤ s.size) ∨ k + 4 ≤ s.size := by omega
  · go_enter Tryd.func19, Tryd.ntmps19
    go_wp2_with fail
    go_ret
    exact ⟨rfl, 0, rfl⟩
  · go_enter Tryd.func19, Tryd.ntmps19
    go_wp2_with fail
    go_quiet (fail)
    go_wp2_with fail
    refine (E2.out (by omega) _).mono ?_
    rintro e w1 ⟨rfl, rfl⟩
    go_wp2_with fail
    go_ret
    exact ⟨rfl, _, rfl⟩
  · go_enter Tryd.func19, Tryd.ntmps19
    go_wp2_with fail
    go_quiet (fail)
    go_wp2_with fail
    refine (E2.out (by omega) _).mono ?_
    rintro e w1 ⟨rfl, rfl⟩
    go_wp2_with fail
    go_quiet (fail)
    go_wp2_with fail
    refine (E3.out (by omega) _).mono ?_
    rintro e w1 ⟨rfl, rfl⟩
    go_wp2_with fail
    go_ret
    exact ⟨rfl, _, rfl⟩
  · go_enter Tryd.func19, Tryd.ntmps19
    go_wp2_with fail
    go_quiet (fail)
    go_wp2_with fail
    refine (E2.out (by omega) _).mono ?_
    rintro e w1 ⟨rfl, rfl⟩
    go_wp2_with fail
    go_quiet (fail)
    go_wp2_with fail
    refine (E3.out (by omega) _).mono ?_
    rintro e w1 ⟨rfl, rfl⟩
    go_wp2_with fail
    go_quiet (fail)
    go_wp2_with fail
    refine (E4.out (by omega) _).mono ?_
    rintro e w1 ⟨rfl, rfl⟩
    go_wp2_with fail
    go_ret
    exact ⟨rfl, _, rfl⟩
end Go.Proofs.YtojihophipgljaaDoor.Es
