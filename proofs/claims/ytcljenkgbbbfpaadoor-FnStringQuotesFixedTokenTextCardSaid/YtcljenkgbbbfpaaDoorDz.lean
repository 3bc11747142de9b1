/-
  The exported wrappers of decodeEscapesInToken, and the empty text; the hexadecimal digit of a law's own. Conditions: as in Dy.lean.
-/
import Derived.Test.YtcljenkgbbbfpaaDoorDy
namespace Go.Proofs.YtcljenkgbbbfpaaDoor.Dz
open Go.RowKit Go.PlainAid Str Mem De Dw Dx Dy
set_option linter.unusedVariables false
set_option maxRecDepth 100000 in
set_option maxHeartbeats 4000000 in
theorem empty (s : ByteArray) (hs : s.size = 0) (w : World) : Calls Tryd.prog 43 #[.string s] w fun e w' => e = .returned (.string s) ∧ w = w' := by
  have z1 : decide (0 < s.size) = false := decide_eq_false (by omega)
  have z2 : ((0 : Int) == (s.size : Int)) = true := beq_iff_eq.2 (by omega)
  have HS := Lib.hid hs
  clear hs
  go_enter Tryd.func43, Tryd.ntmps43
  go_wp2
  refine wp_loop_rounds 1 ?_
  rw [rounds_succ]
  go_wp2
  go_ret
  exact ⟨rfl, rfl⟩
/-- Any text whose first special byte is a backslash, or the empty text. -/
theorem any (s : ByteArray) (hs : s.size ≤ 4194304) (h92 : 0 < s.size → bt s 0 = 92)
    (hnl : ∀ i, i + 1 < s.size → bt s i = 92 → bt s (i + 1) ≠ 10 ∧ bt s (i + 1) ≠ 12 ∧ bt s (i + 1) ≠ 13) (w : World) (hT : Lib.Utf8Tabs 1 2 w) (hw : 3 ≤ w.heap.size) :
    Calls Tryd.prog 43 #[.string s] w (Ret (D s 0) w) := by
  by_cases h : s.size = 0
  · refine (empty s h w).mono ?_
    rintro e w' ⟨rfl, rfl⟩
    refine ⟨[], ?_, ?_, Below.refl _ _⟩
    · congr 2
      exact bt_ext (by rw [h]; rfl) fun i hi => absurd hi (by omega)
    · rw [D_end (by omega)]; rfl
  · have := decodes s hs 0 (by omega) (h92 (by omega)) (fun j hj => absurd hj (by omega)) hnl w hT hw
    simpa [pre] using this
theorem wrap251 (s : ByteArray) (Q : Ending → World → Prop) (w : World) (h : Calls Tryd.prog 43 #[.string s] w (Ret (D s 0) w)) : Calls Tryd.prog 19 #[.string s] w (Ret (D s 0) w) := by
  go_enter Tryd.func19, Tryd.ntmps19
  go_wp2_with fail
  refine h.mono ?_
  rintro e w1 ⟨l, rfl, h1, h2⟩
  have H1 := Lib.hid h1
  clear h1
  go_wp2_with fail
  go_ret
  exact ⟨l, rfl, H1.out, h2⟩
theorem wrap170 (s : ByteArray) (Q : Ending → World → Prop) (w : World) (h : Calls Tryd.prog 43 #[.string s] w (Ret (D s 0) w)) : Calls Tryd.prog 14 #[.string s] w (Ret (D s 0) w) := by
  go_enter Tryd.func14, Tryd.ntmps14
  go_wp2_with fail
  refine h.mono ?_
  rintro e w1 ⟨l, rfl, h1, h2⟩
  have H1 := Lib.hid h1
  clear h1
  go_wp2_with fail
  go_ret
  exact ⟨l, rfl, H1.out, h2⟩
set_option maxRecDepth 100000 in
set_option maxHeartbeats 4000000 in
theorem digit (d : Int) (up : Bool) (h0 : 0 ≤ d) (h1 : d < 16) (w : World) : Calls Tryd.prog 17 #[.int .i32 d, .bool up] w fun e w' => e = .returned (.int .u8 (Dg.hd up d)) ∧ w = w' := by
  generalize hB : Dg.hd up d = R
  unfold Dg.hd at hB
  by_cases c : d < 10
  · rw [if_pos c] at hB
    have HB := Lib.hid hB
    clear hB
    have t : decide (d < 10) = true := decide_eq_true c
    go_enter Tryd.func17, Tryd.ntmps17
    go_wp2
    go_ret
    exact ⟨congrArg (fun x => Ending.returned (.int .u8 x)) (by rw [← HB.out]), rfl⟩
  · rw [if_neg c] at hB
    have t : decide (d < 10) = false := decide_eq_false c
    cases up
    · have HB := Lib.hid hB
      clear hB
      go_enter Tryd.func17, Tryd.ntmps17
      go_wp2
      go_ret
      exact ⟨congrArg (fun x => Ending.returned (.int .u8 x)) (by have := HB.out; simp at this; omega), rfl⟩
    · have HB := Lib.hid hB
      clear hB
      go_enter Tryd.func17, Tryd.ntmps17
      go_wp2
      go_ret
      exact ⟨congrArg (fun x => Ending.returned (.int .u8 x)) (by have := HB.out; simp at this; omega), rfl⟩
end Go.Proofs.YtcljenkgbbbfpaaDoor.Dz
