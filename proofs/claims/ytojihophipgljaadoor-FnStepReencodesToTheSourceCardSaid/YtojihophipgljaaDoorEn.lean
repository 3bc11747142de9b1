/-
  Contracts for the law on step: the model's two looks at an encoding. Conditions: sizes.
-/
import Derived.Test.YtojihophipgljaaDoorWn
import Derived.Test.YtojihophipgljaaDoorVr
import Derived.Test.YtojihophipgljaaDoorBit
import Derived.Lib.RuneCountTail
namespace Go.Proofs.YtojihophipgljaaDoor.En
open Go.RowKit Go.PlainAid Str Mem Rws Lx Wn Vr
set_option linter.unusedVariables false
/-- The wd bytes at k encode r. -/
def encP (r : Int) (s : ByteArray) (k wd : Nat) : Prop :=
  (r < 128 ∧ wd = 1 ∧ bt s k = r) ∨ (128 ≤ r ∧ r < 2048 ∧ wd = 2 ∧ bt s k = 192 + r / 64 ∧ bt s (k + 1) = 128 + r % 64)
  ∨ (2048 ≤ r ∧ r < 65536 ∧ (r < 55296 ∨ 57343 < r) ∧ wd = 3 ∧ bt s k = 224 + r / 4096 ∧ bt s (k + 1) = 128 + r / 64 % 64 ∧ bt s (k + 2) = 128 + r % 64)
  ∨ (65536 ≤ r ∧ r ≤ 1114111 ∧ wd = 4 ∧ bt s k = 240 + r / 262144 ∧ bt s (k + 1) = 128 + r / 4096 % 64 ∧ bt s (k + 2) = 128 + r / 64 % 64 ∧ bt s (k + 3) = 128 + r % 64)
instance (r : Int) (s : ByteArray) (k wd : Nat) : Decidable (encP r s k wd) := by unfold encP; infer_instance
def encB (r : Int) (s : ByteArray) (k wd : Nat) : Bool := decide (encP r s k wd)
theorem encB_yes {r : Int} {s : ByteArray} {k wd : Nat} (h : encP r s k wd) : encB r s k wd = true := decide_eq_true h
theorem encB_no {r : Int} {s : ByteArray} {k wd : Nat} (h : ¬ encP r s k wd) : encB r s k wd = false := decide_eq_false h
set_option maxRecDepth 100000 in
set_option maxHeartbeats 4000000 in
theorem enc20 (s : ByteArray) (k wd : Nat) (r : Int) (hs : s.size ≤ 1048576) (h1 : 1 ≤ wd) (h4 : wd ≤ 4) (hk : k + wd ≤ s.size) (r0 : 0 ≤ r) (r1 : r ≤ 100000000) (w : World) : Calls Tryd.prog 20 #[.int .i32 r, .string s, .int .i64 (k : Int), .int .i64 (wd : Int)] w fun e w' => e = .returned (.bool (encB r s k wd)) ∧ w = w' := by
  have hb := get_bt s
  generalize hB : encB r s k wd = B
  have HB := Lib.hid hB
  clear hB
  have i0 : (0 : Int) ≤ (k : Int) := by omega
  have e1 : bits .and .i32 r 63 = r % 64 := Bit.and_63 _ (by omega) (by omega)
  have e2 : bits .and .i32 (r / 64) 63 = r / 64 % 64 := Bit.and_63 _ (by omega) (by omega)
  have e3 : bits .and .i32 (r / 4096) 63 = r / 4096 % 64 := Bit.and_63 _ (by omega) (by omega)
  have o1 : bits .or .i32 128 (r % 64) = 128 + r % 64 := Bit.or_6 _ _ (by omega) (by omega) (by omega) (by omega) (by omega)
  have o2 : bits .or .i32 128 (r / 64 % 64) = 128 + r / 64 % 64 := Bit.or_6 _ _ (by omega) (by omega) (by omega) (by omega) (by omega)
  have o3 : bits .or .i32 128 (r / 4096 % 64) = 128 + r / 4096 % 64 := Bit.or_6 _ _ (by omega) (by omega) (by omega) (by omega) (by omega)
  obtain c | c | c | c | c | c : r < 128 ∨ (128 ≤ r ∧ r < 2048) ∨ (2048 ≤ r ∧ r < 55296) ∨ (55296 ≤ r ∧ r ≤ 57343) ∨ (57344 ≤ r ∧ r < 65536) ∨ 65536 ≤ r := by omega
  · obtain rfl | rfl | rfl | rfl : wd = 1 ∨ wd = 2 ∨ wd = 3 ∨ wd = 4 := by omega
    all_goals
      go_enter Tryd.func20, Tryd.ntmps20
      go_wp2
      all_goals
        go_ret
        refine ⟨congrArg (fun b => Ending.returned (.bool b)) ?_, rfl⟩
        rw [← HB.out]
        clear HB hb
        try simp only [beq_iff_eq, beq_eq_false_iff_ne, ne_eq, not_true, not_false_eq_true] at *
        first
        | (rw [encB_no (by unfold encP; omega)]; done)
        | (rw [encB_yes (by unfold encP; omega)]; done)
        | (unfold encB encP; rw [Bool.eq_iff_iff]; simp; omega)
  · have p2 : bits .or .i32 192 (r / 64) = 192 + r / 64 := Bit.or_5 _ _ (by omega) (by omega) (by omega) (by omega) (by omega)
    obtain rfl | rfl | rfl | rfl : wd = 1 ∨ wd = 2 ∨ wd = 3 ∨ wd = 4 := by omega
    all_goals
      go_enter Tryd.func20, Tryd.ntmps20
      go_wp2
      all_goals
        go_ret
        refine ⟨congrArg (fun b => Ending.returned (.bool b)) ?_, rfl⟩
        rw [← HB.out]
        clear HB hb
        try simp only [beq_iff_eq, beq_eq_false_iff_ne, ne_eq, not_true, not_false_eq_true] at *
        first
        | (rw [encB_no (by unfold encP; omega)]; done)
        | (rw [encB_yes (by unfold encP; omega)]; done)
        | (unfold encB encP; rw [Bool.eq_iff_iff]; simp; omega)
  · have p3 : bits .or .i32 224 (r / 4096) = 224 + r / 4096 := Bit.or_4 _ _ (by omega) (by omega) (by omega) (by omega) (by omega)
    obtain rfl | rfl | rfl | rfl : wd = 1 ∨ wd = 2 ∨ wd = 3 ∨ wd = 4 := by omega
    all_goals
      go_enter Tryd.func20, Tryd.ntmps20
      go_wp2
      all_goals
        go_ret
        refine ⟨congrArg (fun b => Ending.returned (.bool b)) ?_, rfl⟩
        rw [← HB.out]
        clear HB hb
        try simp only [beq_iff_eq, beq_eq_false_iff_ne, ne_eq, not_true, not_false_eq_true] at *
        first
        | (rw [encB_no (by unfold encP; omega)]; done)
        | (rw [encB_yes (by unfold encP; omega)]; done)
        | (unfold encB encP; rw [Bool.eq_iff_iff]; simp; omega)
  · obtain rfl | rfl | rfl | rfl : wd = 1 ∨ wd = 2 ∨ wd = 3 ∨ wd = 4 := by omega
    all_goals
      go_enter Tryd.func20, Tryd.ntmps20
      go_wp2
      all_goals
        go_ret
        refine ⟨congrArg (fun b => Ending.returned (.bool b)) ?_, rfl⟩
        rw [← HB.out]
        clear HB hb
        try simp only [beq_iff_eq, beq_eq_false_iff_ne, ne_eq, not_true, not_false_eq_true] at *
        first
        | (rw [encB_no (by unfold encP; omega)]; done)
        | (rw [encB_yes (by unfold encP; omega)]; done)
        | (unfold encB encP; rw [Bool.eq_iff_iff]; simp; omega)
  · have p3 : bits .or .i32 224 (r / 4096) = 224 + r / 4096 := Bit.or_4 _ _ (by omega) (by omega) (by omega) (by omega) (by omega)
    obtain rfl | rfl | rfl | rfl : wd = 1 ∨ wd = 2 ∨ wd = 3 ∨ wd = 4 := by omega
    all_goals
      go_enter Tryd.func20, Tryd.ntmps20
      go_wp2
      all_goals
        go_ret
        refine ⟨congrArg (fun b => Ending.returned (.bool b)) ?_, rfl⟩
        rw [← HB.out]
        clear HB hb
        try simp only [beq_iff_eq, beq_eq_false_iff_ne, ne_eq, not_true, not_false_eq_true] at *
        first
        | (rw [encB_no (by unfold encP; omega)]; done)
        | (rw [encB_yes (by unfold encP; omega)]; done)
        | (unfold encB encP; rw [Bool.eq_iff_iff]; simp; omega)
  · by_cases c2 : r ≤ 1114111
    · have p4 : bits .or .i32 240 (r / 262144) = 240 + r / 262144 := Bit.or_3 _ _ (by omega) (by omega) (by omega) (by omega) (by omega)
      obtain rfl | rfl | rfl | rfl : wd = 1 ∨ wd = 2 ∨ wd = 3 ∨ wd = 4 := by omega
      all_goals
        go_enter Tryd.func20, Tryd.ntmps20
        go_wp2
        all_goals
          go_ret
          refine ⟨congrArg (fun b => Ending.returned (.bool b)) ?_, rfl⟩
          rw [← HB.out]
          clear HB hb
          try simp only [beq_iff_eq, beq_eq_false_iff_ne, ne_eq, not_true, not_false_eq_true] at *
          first
          | (rw [encB_no (by unfold encP; omega)]; done)
          | (rw [encB_yes (by unfold encP; omega)]; done)
          | (unfold encB encP; rw [Bool.eq_iff_iff]; simp; omega)
    · obtain rfl | rfl | rfl | rfl : wd = 1 ∨ wd = 2 ∨ wd = 3 ∨ wd = 4 := by omega
      all_goals
        go_enter Tryd.func20, Tryd.ntmps20
        go_wp2
        all_goals
          go_ret
          refine ⟨congrArg (fun b => Ending.returned (.bool b)) ?_, rfl⟩
          rw [← HB.out]
          clear HB hb
          try simp only [beq_iff_eq, beq_eq_false_iff_ne, ne_eq, not_true, not_false_eq_true] at *
          first
          | (rw [encB_no (by unfold encP; omega)]; done)
          | (rw [encB_yes (by unfold encP; omega)]; done)
          | (unfold encB encP; rw [Bool.eq_iff_iff]; simp; omega)
theorem good (s : ByteArray) (k : Nat) (h : k < s.size) (hv : Utf8.decode s k ≠ (65533, 1)) : encP (Utf8.decode s k).1 s k (Utf8.decode s k).2 := by
  have l0 := bt_le s k
  have l1 := bt_le s (k + 1)
  have l2 := bt_le s (k + 2)
  have l3 := bt_le s (k + 3)
  have g0 := bt_nonneg s k
  have g1 := bt_nonneg s (k + 1)
  have g2 := bt_nonneg s (k + 2)
  have g3 := bt_nonneg s (k + 3)
  rw [decode_dN] at hv ⊢
  unfold dN at *
  unfold encP
  generalize hn : s.size - k = n at *
  obtain ⟨b0, e0⟩ := Int.eq_ofNat_of_zero_le g0
  obtain ⟨b1, e1⟩ := Int.eq_ofNat_of_zero_le g1
  obtain ⟨b2, e2⟩ := Int.eq_ofNat_of_zero_le g2
  obtain ⟨b3, e3⟩ := Int.eq_ofNat_of_zero_le g3
  rw [e0] at l0; rw [e1] at l1; rw [e2] at l2; rw [e3] at l3
  rw [e0, e1, e2, e3] at hv ⊢
  simp only [Int.toNat_natCast] at *
  clear e0 e1 e2 e3 g0 g1 g2 g3
  unfold Lib.decodeN at *
  by_cases c0 : b0 < 128
  · rw [if_pos c0]; refine .inl ?_; omega
  rw [if_neg c0] at hv ⊢
  by_cases c1 : b0 / 32 = 6 ∧ 1 < n ∧ b1 / 64 = 2
  · rw [if_pos c1] at hv ⊢
    split at hv
    · rw [if_pos (by assumption)]; refine .inr (.inl ?_); omega
    · exact absurd rfl hv
  rw [if_neg c1] at hv ⊢
  by_cases c2 : b0 / 16 = 14 ∧ (1 < n ∧ b1 / 64 = 2) ∧ 2 < n ∧ b2 / 64 = 2
  · rw [if_pos c2] at hv ⊢
    split at hv
    · rw [if_pos (by assumption)]; refine .inr (.inr (.inl ?_)); clear c1 hv; refine ⟨?_, ?_, ?_, rfl, ?_, ?_, ?_⟩ <;> omega
    · exact absurd rfl hv
  rw [if_neg c2] at hv ⊢
  by_cases c3 : b0 / 8 = 30 ∧ (1 < n ∧ b1 / 64 = 2) ∧ (2 < n ∧ b2 / 64 = 2) ∧ 3 < n ∧ b3 / 64 = 2
  · rw [if_pos c3] at hv ⊢
    split at hv
    · rw [if_pos (by assumption)]; refine .inr (.inr (.inr ?_)); clear c1 c2 hv; refine ⟨?_, ?_, rfl, ?_, ?_, ?_, ?_⟩ <;> omega
    · exact absurd rfl hv
  rw [if_neg c3] at hv
  exact absurd rfl hv
theorem bad (s : ByteArray) (k : Nat) (h0 : 128 ≤ bt s k) (hv : Utf8.decode s k = (65533, 1)) :
    (k + 2 ≤ s.size → ¬ encP (bt s k % 32 * 64 + bt s (k + 1) % 64) s k 2) ∧ (k + 3 ≤ s.size → ¬ encP (bt s k % 16 * 4096 + bt s (k + 1) % 64 * 64 + bt s (k + 2) % 64) s k 3) ∧ (k + 4 ≤ s.size → ¬ encP (bt s k % 8 * 262144 + bt s (k + 1) % 64 * 4096 + bt s (k + 2) % 64 * 64 + bt s (k + 3) % 64) s k 4) := by
  have l0 := bt_le s k
  have g1 := bt_nonneg s (k + 1)
  have g2 := bt_nonneg s (k + 2)
  have g3 := bt_nonneg s (k + 3)
  rw [decode_dN] at hv
  unfold dN at *
  unfold encP
  generalize hn : s.size - k = n at *
  obtain ⟨b0, e0⟩ := Int.eq_ofNat_of_zero_le (show 0 ≤ bt s k by omega)
  obtain ⟨b1, e1⟩ := Int.eq_ofNat_of_zero_le g1
  obtain ⟨b2, e2⟩ := Int.eq_ofNat_of_zero_le g2
  obtain ⟨b3, e3⟩ := Int.eq_ofNat_of_zero_le g3
  rw [e0] at l0 h0
  rw [e0, e1, e2, e3] at hv ⊢
  simp only [Int.toNat_natCast] at *
  clear e0 e1 e2 e3 g1 g2 g3
  unfold Lib.decodeN at hv
  rw [if_neg (by omega)] at hv
  refine ⟨fun hk h => ?_, fun hk h => ?_, fun hk h => ?_⟩
  · have c : b0 / 32 = 6 ∧ 1 < n ∧ b1 / 64 = 2 := by refine ⟨?_, ?_, ?_⟩ <;> omega
    rw [if_pos c, if_pos (by omega)] at hv
    simp at hv
  · have c : b0 / 16 = 14 ∧ (1 < n ∧ b1 / 64 = 2) ∧ 2 < n ∧ b2 / 64 = 2 := by refine ⟨?_, ⟨?_, ?_⟩, ?_, ?_⟩ <;> omega
    rw [if_neg (by omega), if_pos c, if_pos (by refine ⟨?_, ?_⟩ <;> omega)] at hv
    simp at hv
  · have c : b0 / 8 = 30 ∧ (1 < n ∧ b1 / 64 = 2) ∧ (2 < n ∧ b2 / 64 = 2) ∧ 3 < n ∧ b3 / 64 = 2 := by refine ⟨?_, ⟨?_, ?_⟩, ⟨?_, ?_⟩, ?_, ?_⟩ <;> omega
    rw [if_neg (by omega), if_neg (by omega), if_pos c, if_pos (by refine ⟨?_, ?_⟩ <;> omega)] at hv
    simp at hv
end Go.Proofs.YtojihophipgljaaDoor.En
