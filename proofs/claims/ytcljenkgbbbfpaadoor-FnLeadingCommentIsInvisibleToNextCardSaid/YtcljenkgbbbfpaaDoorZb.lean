/-
  Proved: what IsNameStart, IsNameContinue, isValidEscape and Range.End return, and where a name ends. Conditions: those that each theorem names as
  its hypotheses, and no others.
-/
import Derived.Test.YtcljenkgbbbfpaaDoorZa
import Derived.LoopN
import Derived.Deep.CutRange
namespace Go.Proofs.YtcljenkgbbbfpaaDoor.Zb
open Go.RowKit Go.PlainAid Str Mem De Lu Dw Cu Rws Za
set_option linter.unusedVariables false
set_option linter.unusedSimpArgs false
def nsB (c : Int) : Bool := decide ((97 ≤ c ∧ c ≤ 122) ∨ (65 ≤ c ∧ c ≤ 90) ∨ c = 95 ∨ 128 ≤ c ∨ c = 0)
def ncB (c : Int) : Bool := decide ((97 ≤ c ∧ c ≤ 122) ∨ (65 ≤ c ∧ c ≤ 90) ∨ c = 95 ∨ 128 ≤ c ∨ c = 0 ∨ (48 ≤ c ∧ c ≤ 57) ∨ c = 45)
def dgB (c : Int) : Bool := decide (48 ≤ c ∧ c ≤ 57)
set_option maxRecDepth 100000 in
set_option maxHeartbeats 4000000 in
theorem start74 (c : Int) (w : World) : Calls Tryd.prog 74 #[.int .i32 c] w fun e w' => e = .returned (.bool (nsB c)) ∧ w = w' := by
  have hc : (c < 0) ∨ (c = 0) ∨ (1 ≤ c ∧ c ≤ 44) ∨ (c = 45) ∨ (c = 46) ∨ (c = 47) ∨ (48 ≤ c ∧ c ≤ 57) ∨ (58 ≤ c ∧ c ≤ 64) ∨ (65 ≤ c ∧ c ≤ 90) ∨ (91 ≤ c ∧ c ≤ 94) ∨ (c = 95) ∨ (c = 96) ∨ (97 ≤ c ∧ c ≤ 122) ∨ (123 ≤ c ∧ c ≤ 127) ∨ (128 ≤ c) := by omega
  rcases hc with h | h | h | h | h | h | h | h | h | h | h | h | h | h | h
  · have e : nsB c = false := decide_eq_false (by omega)
    rw [e]
    have u0 : decide (97 ≤ c) = false := decide_eq_false (by omega)
    have u1 : decide (c ≤ 122) = true := decide_eq_true (by omega)
    have u2 : decide (65 ≤ c) = false := decide_eq_false (by omega)
    have u3 : decide (c ≤ 90) = true := decide_eq_true (by omega)
    have u4 : (c == 95) = false := beq_eq_false_iff_ne.2 (by omega)
    have u5 : decide (128 ≤ c) = false := decide_eq_false (by omega)
    have u6 : (c == 0) = false := beq_eq_false_iff_ne.2 (by omega)
    clear e
    go_enter Tryd.func74, Tryd.ntmps74
    go_wp2
    go_ret
    exact ⟨rfl, rfl⟩
  · subst h
    have e : nsB 0 = true := rfl
    rw [e]
    clear e
    go_enter Tryd.func74, Tryd.ntmps74
    go_wp2
    go_ret
    exact ⟨rfl, rfl⟩
  · have e : nsB c = false := decide_eq_false (by omega)
    rw [e]
    have u0 : decide (97 ≤ c) = false := decide_eq_false (by omega)
    have u1 : decide (c ≤ 122) = true := decide_eq_true (by omega)
    have u2 : decide (65 ≤ c) = false := decide_eq_false (by omega)
    have u3 : decide (c ≤ 90) = true := decide_eq_true (by omega)
    have u4 : (c == 95) = false := beq_eq_false_iff_ne.2 (by omega)
    have u5 : decide (128 ≤ c) = false := decide_eq_false (by omega)
    have u6 : (c == 0) = false := beq_eq_false_iff_ne.2 (by omega)
    clear e
    go_enter Tryd.func74, Tryd.ntmps74
    go_wp2
    go_ret
    exact ⟨rfl, rfl⟩
  · subst h
    have e : nsB 45 = false := rfl
    rw [e]
    clear e
    go_enter Tryd.func74, Tryd.ntmps74
    go_wp2
    go_ret
    exact ⟨rfl, rfl⟩
  · subst h
    have e : nsB 46 = false := rfl
    rw [e]
    clear e
    go_enter Tryd.func74, Tryd.ntmps74
    go_wp2
    go_ret
    exact ⟨rfl, rfl⟩
  · subst h
    have e : nsB 47 = false := rfl
    rw [e]
    clear e
    go_enter Tryd.func74, Tryd.ntmps74
    go_wp2
    go_ret
    exact ⟨rfl, rfl⟩
  · have e : nsB c = false := decide_eq_false (by omega)
    rw [e]
    have u0 : decide (97 ≤ c) = false := decide_eq_false (by omega)
    have u1 : decide (c ≤ 122) = true := decide_eq_true (by omega)
    have u2 : decide (65 ≤ c) = false := decide_eq_false (by omega)
    have u3 : decide (c ≤ 90) = true := decide_eq_true (by omega)
    have u4 : (c == 95) = false := beq_eq_false_iff_ne.2 (by omega)
    have u5 : decide (128 ≤ c) = false := decide_eq_false (by omega)
    have u6 : (c == 0) = false := beq_eq_false_iff_ne.2 (by omega)
    clear e
    go_enter Tryd.func74, Tryd.ntmps74
    go_wp2
    go_ret
    exact ⟨rfl, rfl⟩
  · have e : nsB c = false := decide_eq_false (by omega)
    rw [e]
    have u0 : decide (97 ≤ c) = false := decide_eq_false (by omega)
    have u1 : decide (c ≤ 122) = true := decide_eq_true (by omega)
    have u2 : decide (65 ≤ c) = false := decide_eq_false (by omega)
    have u3 : decide (c ≤ 90) = true := decide_eq_true (by omega)
    have u4 : (c == 95) = false := beq_eq_false_iff_ne.2 (by omega)
    have u5 : decide (128 ≤ c) = false := decide_eq_false (by omega)
    have u6 : (c == 0) = false := beq_eq_false_iff_ne.2 (by omega)
    clear e
    go_enter Tryd.func74, Tryd.ntmps74
    go_wp2
    go_ret
    exact ⟨rfl, rfl⟩
  · have e : nsB c = true := decide_eq_true (by omega)
    rw [e]
    have u0 : decide (97 ≤ c) = false := decide_eq_false (by omega)
    have u1 : decide (c ≤ 122) = true := decide_eq_true (by omega)
    have u2 : decide (65 ≤ c) = true := decide_eq_true (by omega)
    have u3 : decide (c ≤ 90) = true := decide_eq_true (by omega)
    have u4 : (c == 95) = false := beq_eq_false_iff_ne.2 (by omega)
    have u5 : decide (128 ≤ c) = false := decide_eq_false (by omega)
    have u6 : (c == 0) = false := beq_eq_false_iff_ne.2 (by omega)
    clear e
    go_enter Tryd.func74, Tryd.ntmps74
    go_wp2
    go_ret
    exact ⟨rfl, rfl⟩
  · have e : nsB c = false := decide_eq_false (by omega)
    rw [e]
    have u0 : decide (97 ≤ c) = false := decide_eq_false (by omega)
    have u1 : decide (c ≤ 122) = true := decide_eq_true (by omega)
    have u2 : decide (65 ≤ c) = true := decide_eq_true (by omega)
    have u3 : decide (c ≤ 90) = false := decide_eq_false (by omega)
    have u4 : (c == 95) = false := beq_eq_false_iff_ne.2 (by omega)
    have u5 : decide (128 ≤ c) = false := decide_eq_false (by omega)
    have u6 : (c == 0) = false := beq_eq_false_iff_ne.2 (by omega)
    clear e
    go_enter Tryd.func74, Tryd.ntmps74
    go_wp2
    go_ret
    exact ⟨rfl, rfl⟩
  · subst h
    have e : nsB 95 = true := rfl
    rw [e]
    clear e
    go_enter Tryd.func74, Tryd.ntmps74
    go_wp2
    go_ret
    exact ⟨rfl, rfl⟩
  · subst h
    have e : nsB 96 = false := rfl
    rw [e]
    clear e
    go_enter Tryd.func74, Tryd.ntmps74
    go_wp2
    go_ret
    exact ⟨rfl, rfl⟩
  · have e : nsB c = true := decide_eq_true (by omega)
    rw [e]
    have u0 : decide (97 ≤ c) = true := decide_eq_true (by omega)
    have u1 : decide (c ≤ 122) = true := decide_eq_true (by omega)
    have u2 : decide (65 ≤ c) = true := decide_eq_true (by omega)
    have u3 : decide (c ≤ 90) = false := decide_eq_false (by omega)
    have u4 : (c == 95) = false := beq_eq_false_iff_ne.2 (by omega)
    have u5 : decide (128 ≤ c) = false := decide_eq_false (by omega)
    have u6 : (c == 0) = false := beq_eq_false_iff_ne.2 (by omega)
    clear e
    go_enter Tryd.func74, Tryd.ntmps74
    go_wp2
    go_ret
    exact ⟨rfl, rfl⟩
  · have e : nsB c = false := decide_eq_false (by omega)
    rw [e]
    have u0 : decide (97 ≤ c) = true := decide_eq_true (by omega)
    have u1 : decide (c ≤ 122) = false := decide_eq_false (by omega)
    have u2 : decide (65 ≤ c) = true := decide_eq_true (by omega)
    have u3 : decide (c ≤ 90) = false := decide_eq_false (by omega)
    have u4 : (c == 95) = false := beq_eq_false_iff_ne.2 (by omega)
    have u5 : decide (128 ≤ c) = false := decide_eq_false (by omega)
    have u6 : (c == 0) = false := beq_eq_false_iff_ne.2 (by omega)
    clear e
    go_enter Tryd.func74, Tryd.ntmps74
    go_wp2
    go_ret
    exact ⟨rfl, rfl⟩
  · have e : nsB c = true := decide_eq_true (by omega)
    rw [e]
    have u0 : decide (97 ≤ c) = true := decide_eq_true (by omega)
    have u1 : decide (c ≤ 122) = false := decide_eq_false (by omega)
    have u2 : decide (65 ≤ c) = true := decide_eq_true (by omega)
    have u3 : decide (c ≤ 90) = false := decide_eq_false (by omega)
    have u4 : (c == 95) = false := beq_eq_false_iff_ne.2 (by omega)
    have u5 : decide (128 ≤ c) = true := decide_eq_true (by omega)
    have u6 : (c == 0) = false := beq_eq_false_iff_ne.2 (by omega)
    clear e
    go_enter Tryd.func74, Tryd.ntmps74
    go_wp2
    go_ret
    exact ⟨rfl, rfl⟩
set_option maxRecDepth 100000 in
set_option maxHeartbeats 4000000 in
theorem cont67 (c : Int) (w : World) : Calls Tryd.prog 67 #[.int .i32 c] w fun e w' => e = .returned (.bool (ncB c)) ∧ w = w' := by
  have hc : (c < 0) ∨ (c = 0) ∨ (1 ≤ c ∧ c ≤ 44) ∨ (c = 45) ∨ (c = 46) ∨ (c = 47) ∨ (48 ≤ c ∧ c ≤ 57) ∨ (58 ≤ c ∧ c ≤ 64) ∨ (65 ≤ c ∧ c ≤ 90) ∨ (91 ≤ c ∧ c ≤ 94) ∨ (c = 95) ∨ (c = 96) ∨ (97 ≤ c ∧ c ≤ 122) ∨ (123 ≤ c ∧ c ≤ 127) ∨ (128 ≤ c) := by omega
  rcases hc with h | h | h | h | h | h | h | h | h | h | h | h | h | h | h
  · have e : ncB c = false := decide_eq_false (by omega)
    rw [e]
    have u0 : decide (48 ≤ c) = false := decide_eq_false (by omega)
    have u1 : decide (c ≤ 57) = true := decide_eq_true (by omega)
    have u2 : (c == 45) = false := beq_eq_false_iff_ne.2 (by omega)
    have e2 : nsB c = false := decide_eq_false (by omega)
    clear e
    go_enter Tryd.func67, Tryd.ntmps67
    go_wp2_with fail
    refine (start74 c _).mono ?_
    rintro e w9 ⟨rfl, rfl⟩
    rw [e2]
    clear e2
    go_wp2
    go_ret
    exact ⟨rfl, rfl⟩
  · subst h
    have e : ncB 0 = true := rfl
    rw [e]
    have e2 : nsB 0 = true := rfl
    clear e
    go_enter Tryd.func67, Tryd.ntmps67
    go_wp2_with fail
    refine (start74 0 _).mono ?_
    rintro e w9 ⟨rfl, rfl⟩
    rw [e2]
    clear e2
    go_wp2
    go_ret
    exact ⟨rfl, rfl⟩
  · have e : ncB c = false := decide_eq_false (by omega)
    rw [e]
    have u0 : decide (48 ≤ c) = false := decide_eq_false (by omega)
    have u1 : decide (c ≤ 57) = true := decide_eq_true (by omega)
    have u2 : (c == 45) = false := beq_eq_false_iff_ne.2 (by omega)
    have e2 : nsB c = false := decide_eq_false (by omega)
    clear e
    go_enter Tryd.func67, Tryd.ntmps67
    go_wp2_with fail
    refine (start74 c _).mono ?_
    rintro e w9 ⟨rfl, rfl⟩
    rw [e2]
    clear e2
    go_wp2
    go_ret
    exact ⟨rfl, rfl⟩
  · subst h
    have e : ncB 45 = true := rfl
    rw [e]
    have e2 : nsB 45 = false := rfl
    clear e
    go_enter Tryd.func67, Tryd.ntmps67
    go_wp2_with fail
    refine (start74 45 _).mono ?_
    rintro e w9 ⟨rfl, rfl⟩
    rw [e2]
    clear e2
    go_wp2
    go_ret
    exact ⟨rfl, rfl⟩
  · subst h
    have e : ncB 46 = false := rfl
    rw [e]
    have e2 : nsB 46 = false := rfl
    clear e
    go_enter Tryd.func67, Tryd.ntmps67
    go_wp2_with fail
    refine (start74 46 _).mono ?_
    rintro e w9 ⟨rfl, rfl⟩
    rw [e2]
    clear e2
    go_wp2
    go_ret
    exact ⟨rfl, rfl⟩
  · subst h
    have e : ncB 47 = false := rfl
    rw [e]
    have e2 : nsB 47 = false := rfl
    clear e
    go_enter Tryd.func67, Tryd.ntmps67
    go_wp2_with fail
    refine (start74 47 _).mono ?_
    rintro e w9 ⟨rfl, rfl⟩
    rw [e2]
    clear e2
    go_wp2
    go_ret
    exact ⟨rfl, rfl⟩
  · have e : ncB c = true := decide_eq_true (by omega)
    rw [e]
    have u0 : decide (48 ≤ c) = true := decide_eq_true (by omega)
    have u1 : decide (c ≤ 57) = true := decide_eq_true (by omega)
    have u2 : (c == 45) = false := beq_eq_false_iff_ne.2 (by omega)
    have e2 : nsB c = false := decide_eq_false (by omega)
    clear e
    go_enter Tryd.func67, Tryd.ntmps67
    go_wp2_with fail
    refine (start74 c _).mono ?_
    rintro e w9 ⟨rfl, rfl⟩
    rw [e2]
    clear e2
    go_wp2
    go_ret
    exact ⟨rfl, rfl⟩
  · have e : ncB c = false := decide_eq_false (by omega)
    rw [e]
    have u0 : decide (48 ≤ c) = true := decide_eq_true (by omega)
    have u1 : decide (c ≤ 57) = false := decide_eq_false (by omega)
    have u2 : (c == 45) = false := beq_eq_false_iff_ne.2 (by omega)
    have e2 : nsB c = false := decide_eq_false (by omega)
    clear e
    go_enter Tryd.func67, Tryd.ntmps67
    go_wp2_with fail
    refine (start74 c _).mono ?_
    rintro e w9 ⟨rfl, rfl⟩
    rw [e2]
    clear e2
    go_wp2
    go_ret
    exact ⟨rfl, rfl⟩
  · have e : ncB c = true := decide_eq_true (by omega)
    rw [e]
    have u0 : decide (48 ≤ c) = true := decide_eq_true (by omega)
    have u1 : decide (c ≤ 57) = false := decide_eq_false (by omega)
    have u2 : (c == 45) = false := beq_eq_false_iff_ne.2 (by omega)
    have e2 : nsB c = true := decide_eq_true (by omega)
    clear e
    go_enter Tryd.func67, Tryd.ntmps67
    go_wp2_with fail
    refine (start74 c _).mono ?_
    rintro e w9 ⟨rfl, rfl⟩
    rw [e2]
    clear e2
    go_wp2
    go_ret
    exact ⟨rfl, rfl⟩
  · have e : ncB c = false := decide_eq_false (by omega)
    rw [e]
    have u0 : decide (48 ≤ c) = true := decide_eq_true (by omega)
    have u1 : decide (c ≤ 57) = false := decide_eq_false (by omega)
    have u2 : (c == 45) = false := beq_eq_false_iff_ne.2 (by omega)
    have e2 : nsB c = false := decide_eq_false (by omega)
    clear e
    go_enter Tryd.func67, Tryd.ntmps67
    go_wp2_with fail
    refine (start74 c _).mono ?_
    rintro e w9 ⟨rfl, rfl⟩
    rw [e2]
    clear e2
    go_wp2
    go_ret
    exact ⟨rfl, rfl⟩
  · subst h
    have e : ncB 95 = true := rfl
    rw [e]
    have e2 : nsB 95 = true := rfl
    clear e
    go_enter Tryd.func67, Tryd.ntmps67
    go_wp2_with fail
    refine (start74 95 _).mono ?_
    rintro e w9 ⟨rfl, rfl⟩
    rw [e2]
    clear e2
    go_wp2
    go_ret
    exact ⟨rfl, rfl⟩
  · subst h
    have e : ncB 96 = false := rfl
    rw [e]
    have e2 : nsB 96 = false := rfl
    clear e
    go_enter Tryd.func67, Tryd.ntmps67
    go_wp2_with fail
    refine (start74 96 _).mono ?_
    rintro e w9 ⟨rfl, rfl⟩
    rw [e2]
    clear e2
    go_wp2
    go_ret
    exact ⟨rfl, rfl⟩
  · have e : ncB c = true := decide_eq_true (by omega)
    rw [e]
    have u0 : decide (48 ≤ c) = true := decide_eq_true (by omega)
    have u1 : decide (c ≤ 57) = false := decide_eq_false (by omega)
    have u2 : (c == 45) = false := beq_eq_false_iff_ne.2 (by omega)
    have e2 : nsB c = true := decide_eq_true (by omega)
    clear e
    go_enter Tryd.func67, Tryd.ntmps67
    go_wp2_with fail
    refine (start74 c _).mono ?_
    rintro e w9 ⟨rfl, rfl⟩
    rw [e2]
    clear e2
    go_wp2
    go_ret
    exact ⟨rfl, rfl⟩
  · have e : ncB c = false := decide_eq_false (by omega)
    rw [e]
    have u0 : decide (48 ≤ c) = true := decide_eq_true (by omega)
    have u1 : decide (c ≤ 57) = false := decide_eq_false (by omega)
    have u2 : (c == 45) = false := beq_eq_false_iff_ne.2 (by omega)
    have e2 : nsB c = false := decide_eq_false (by omega)
    clear e
    go_enter Tryd.func67, Tryd.ntmps67
    go_wp2_with fail
    refine (start74 c _).mono ?_
    rintro e w9 ⟨rfl, rfl⟩
    rw [e2]
    clear e2
    go_wp2
    go_ret
    exact ⟨rfl, rfl⟩
  · have e : ncB c = true := decide_eq_true (by omega)
    rw [e]
    have u0 : decide (48 ≤ c) = true := decide_eq_true (by omega)
    have u1 : decide (c ≤ 57) = false := decide_eq_false (by omega)
    have u2 : (c == 45) = false := beq_eq_false_iff_ne.2 (by omega)
    have e2 : nsB c = true := decide_eq_true (by omega)
    clear e
    go_enter Tryd.func67, Tryd.ntmps67
    go_wp2_with fail
    refine (start74 c _).mono ?_
    rintro e w9 ⟨rfl, rfl⟩
    rw [e2]
    clear e2
    go_wp2
    go_ret
    exact ⟨rfl, rfl⟩
/-- No backslash from q on. -/
def NoB (s : ByteArray) (q : Nat) : Prop := ∀ j, q ≤ j → bt s j ≠ 92
theorem cp_nob {s : ByteArray} {q k : Nat} (h : NoB s q) (hk : q ≤ k) : cpOf s k ≠ 92 := by
  by_cases hl : k < s.size
  · rw [(cp_in hl).1]
    by_cases ha : bt s k < 128
    · rw [(rd_asc hl ha).1]; exact h k hk
    · have := (rd_high hl (by omega)).1; omega
  · rw [(cp_out (by omega)).1]; decide
theorem rc_nob {s : ByteArray} {q k : Nat} (h : NoB s q) (hk : q ≤ k) : rc s k ≠ 92 := by
  by_cases hl : k < s.size
  · by_cases ha : bt s k < 128
    · rw [(rd_asc hl ha).1]; exact h k hk
    · have := (rd_high hl (by omega)).1; omega
  · unfold rc; rw [rd_end (by omega)]; decide
theorem esc61 (g : Nat) (cp : Int) (w : World) (h : w.cell? ⟨g, 35, none⟩ = some (.int .i32 cp)) (hc : cp ≠ 92) : Calls Tryd.prog 61 #[.pointer (some ⟨g, 0, none⟩)] w fun e w' => e = .returned (.bool false) ∧ w = w' := by
  have u : (cp != 92) = true := by simpa using hc
  have u2 : (cp == 92) = false := by simpa using hc
  clear hc
  go_enter Tryd.func61, Tryd.ntmps61
  go_wp2
  go_ret
  exact ⟨rfl, rfl⟩
theorem end44 (a n : Int) (h0 : 0 ≤ a) (h1 : a ≤ 100000000) (h2 : 0 ≤ n) (h3 : n ≤ 100000000) (w : World) : Calls Tryd.prog 44 #[.agg #[.int .i32 a, .int .i32 n]] w fun e w' => e = .returned (.int .i32 (a + n)) ∧ Below w.heap.size w w' := by
  go_enter Tryd.func44, Tryd.ntmps44
  go_wp2
  go_ret
  exact ⟨rfl, by go_grown⟩
/-- The bytes of a name from i on. -/
def bscan (s : ByteArray) : Nat → Nat → Nat
  | 0, i => i
  | f + 1, i => if ncB (bt s i) = true then bscan s f (i + 1) else i
/-- The end of the name at q. -/
def ne (s : ByteArray) (q : Nat) : Nat := if ncB (cpOf s q) = true then bscan s (s.size - (q + wdOf s q)) (q + wdOf s q) else q
theorem bscan_le {s : ByteArray} : ∀ (f i : Nat), i ≤ bscan s f i ∧ bscan s f i ≤ i + f
  | 0, i => ⟨Nat.le_refl _, Nat.le_refl _⟩
  | f + 1, i => by
    unfold bscan
    split
    · have := bscan_le (s := s) f (i + 1); omega
    · omega
theorem bscan_in {s : ByteArray} : ∀ (f i j : Nat), i ≤ j → j < bscan s f i → ncB (bt s j) = true
  | 0, i, j, h1, h2 => by unfold bscan at h2; omega
  | f + 1, i, j, h1, h2 => by
    unfold bscan at h2
    split at h2
    · by_cases e : j = i
      · subst e; assumption
      · exact bscan_in f (i + 1) j (by omega) h2
    · omega
theorem nc_nl {c : Int} (h : ncB c = true) : c ≠ 10 := by
  have := of_decide_eq_true h
  omega
theorem ne_le {s : ByteArray} {q : Nat} (hq : q ≤ s.size) : q ≤ ne s q ∧ ne s q ≤ s.size := by
  have hb := cp_rng s q hq
  unfold ne
  split
  · have := bscan_le (s := s) (s.size - (q + wdOf s q)) (q + wdOf s q); omega
  · omega
def Named (g : Nat) (u : ByteArray) (r0 r1 : Int) (s : ByteArray) (ts : Nat) (q : Nat) (un kd fl : Int) (w : World) (e : Ending) (w' : World) : Prop :=
  e = .returned (.string (s.extract ts (ne s q))) ∧ At g u r0 r1 s (ne s q) ts un kd fl w' ∧ Fr g w w'
end Go.Proofs.YtcljenkgbbbfpaaDoor.Zb
