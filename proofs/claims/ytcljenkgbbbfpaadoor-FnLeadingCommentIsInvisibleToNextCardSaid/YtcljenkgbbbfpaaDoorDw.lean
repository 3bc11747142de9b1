/-
  Contract of decodeEscapesInToken: what it returns is what the plain function of De.lean gives, for a text in which a backslash is the first special byte and no newline stands behind a backslash. Conditions: the text's size; the two tables of unicode/utf8.
-/
import Derived.Test.YtcljenkgbbbfpaaDoorRows
import Derived.Test.YtcljenkgbbbfpaaDoorMem
import Derived.Test.YtcljenkgbbbfpaaDoorBl
import Derived.Test.YtcljenkgbbbfpaaDoorDg
import Derived.WalkSpells
import Derived.Handy
import Derived.LoopTactic
namespace Go.Proofs.YtcljenkgbbbfpaaDoor.Dw
open Go.RowKit Go.PlainAid Str Mem De
set_option linter.unusedVariables false
theorem tabs_of {w w' : World} {B : Nat} (h : Lib.Utf8Tabs 1 2 w) (hB : 3 ≤ B) (hb : Below B w w') : Lib.Utf8Tabs 1 2 w' := by
  obtain ⟨h1, h2⟩ := h
  refine ⟨fun c hc => ?_, fun i hi => ?_⟩
  · rw [hb.cell (p := ⟨1, c, none⟩) (by show 1 < B; omega)]; exact h1 c hc
  · have := h2 i hi
    rw [hb.cell (p := ⟨2, 2 * i, none⟩) (by show 2 < B; omega), hb.cell (p := ⟨2, 2 * i + 1, none⟩) (by show 2 < B; omega)]
    exact this
theorem dec (s : ByteArray) (i : Nat) (t : ByteArray) (ht : t = s.extract i s.size) (w : World) (hT : Lib.Utf8Tabs 1 2 w) :
    Calls Tryd.prog 52 #[.string t] w fun e w' => e = .returned (.tuple #[.int .i32 (rc s i), .int .i64 ((rw' s i : Nat) : Int)]) ∧ Below w.heap.size w w' := by
  subst ht
  exact Tryd.utf8_DecodeRuneInString _ w hT
def hexR (c : Int) : Int := if 0 ≤ hexV c then hexV c else 0
set_option maxRecDepth 100000 in
set_option maxHeartbeats 4000000 in
theorem isHex (c : Int) (h0 : -1 ≤ c) (h1 : c ≤ 2147483647) (w : World) : Calls Tryd.prog 53 #[.int .i32 c] w fun e w' => e = .returned (.tuple #[.int .i64 (hexR c), .bool (hexB c)]) ∧ w = w' := by
  generalize hA : hexR c = A
  generalize hB : hexB c = B
  have HA := Lib.hid hA
  have HB := Lib.hid hB
  clear hA hB
  go_enter Tryd.func53, Tryd.ntmps53
  go_wp2
  all_goals
    go_ret2
    have a := HA.out
    have b := HB.out
    clear HA HB
    refine ⟨?_, rfl⟩
    unfold hexR at a
    unfold hexB at b
    subst a b
    first
    | (have e1 : 48 ≤ c ∧ c ≤ 57 := by omega
       have e : hexV c = c - 48 := by (unfold hexV; rw [if_pos e1])
       have e2 : 0 ≤ c - 48 := by omega
       rw [e, if_pos e2, decide_eq_true e2]
       rfl)
    | (have e1 : 97 ≤ c ∧ c ≤ 102 := by omega
       have e0 : ¬ (48 ≤ c ∧ c ≤ 57) := by omega
       have e : hexV c = c - 87 := by (unfold hexV; rw [if_neg e0, if_pos e1])
       have e2 : 0 ≤ c - 87 := by omega
       rw [e, if_pos e2, decide_eq_true e2]
       first | rfl | (exact congrArg (fun x => Ending.returned (.tuple #[.int .i64 x, .bool true])) (by omega)))
    | (have e1 : 65 ≤ c ∧ c ≤ 70 := by omega
       have e0 : ¬ (48 ≤ c ∧ c ≤ 57) := by omega
       have e3 : ¬ (97 ≤ c ∧ c ≤ 102) := by omega
       have e : hexV c = c - 55 := by (unfold hexV; rw [if_neg e0, if_neg e3, if_pos e1])
       have e2 : 0 ≤ c - 55 := by omega
       rw [e, if_pos e2, decide_eq_true e2]
       first | rfl | (exact congrArg (fun x => Ending.returned (.tuple #[.int .i64 x, .bool true])) (by omega)))
    | (have e1 : ¬ (65 ≤ c ∧ c ≤ 70) := by omega
       have e0 : ¬ (48 ≤ c ∧ c ≤ 57) := by omega
       have e3 : ¬ (97 ≤ c ∧ c ≤ 102) := by omega
       have e : hexV c = -1 := by (unfold hexV; rw [if_neg e0, if_neg e3, if_neg e1])
       rw [e]
       rfl)
set_option maxRecDepth 100000 in
set_option maxHeartbeats 4000000 in
theorem isWs (c : Int) (w : World) : Calls Tryd.prog 45 #[.int .i32 c] w fun e w' => e = .returned (.bool (wsB c)) ∧ w = w' := by
  generalize hB : wsB c = B
  have HB := Lib.hid hB
  clear hB
  go_enter Tryd.func45, Tryd.ntmps45
  go_wp2
  all_goals
    go_ret
    refine ⟨congrArg (fun b => Ending.returned (.bool b)) ?_, rfl⟩
    rw [← HB.out]
    clear HB
    unfold wsB
    simp_all
end Go.Proofs.YtcljenkgbbbfpaaDoor.Dw
