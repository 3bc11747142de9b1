/-
  Contracts: the text of a message's number. Conditions: none.
-/
import Derived.Test.YtmjfdhgfpgeboabHa
import Derived.Test.YtmjfdhgfpgeboabHb1
namespace Go.Proofs.Ytmjfdhgfpgeboab.Hb
open Go.RowKit Go.PlainAid Mem Ha Hb1
set_option linter.unusedVariables false
set_option linter.unusedSimpArgs false

local macro "leaf18" : tactic => `(tactic| (go_enter Try.func18, Try.ntmps18; go_wp2; go_returns; exact ⟨⟨_, rfl⟩, by go_grown⟩))

set_option maxRecDepth 100000 in
set_option maxHeartbeats 4000000 in
theorem big (id : Int) (h0 : 55 ≤ id) (w : World) : Calls Try.prog 18 #[.int .u8 id] w (Info (if id ≤ 61 then ⟨#[112, 97, 99, 107, 97, 103, 101, 46, 106, 115, 111, 110]⟩ else if id ≤ 70 then ⟨#[116, 115, 99, 111, 110, 102, 105, 103, 46, 106, 115, 111, 110]⟩ else ⟨#[]⟩) w) := by
  have u1 : (id == 1) = false := by rw [beq_eq_false_iff_ne]; omega
  have u2 : (id == 2) = false := by rw [beq_eq_false_iff_ne]; omega
  have u3 : (id == 3) = false := by rw [beq_eq_false_iff_ne]; omega
  have u4 : (id == 4) = false := by rw [beq_eq_false_iff_ne]; omega
  have u5 : (id == 5) = false := by rw [beq_eq_false_iff_ne]; omega
  have u6 : (id == 6) = false := by rw [beq_eq_false_iff_ne]; omega
  have u7 : (id == 7) = false := by rw [beq_eq_false_iff_ne]; omega
  have u8 : (id == 8) = false := by rw [beq_eq_false_iff_ne]; omega
  have u9 : (id == 9) = false := by rw [beq_eq_false_iff_ne]; omega
  have u10 : (id == 10) = false := by rw [beq_eq_false_iff_ne]; omega
  have u11 : (id == 11) = false := by rw [beq_eq_false_iff_ne]; omega
  have u12 : (id == 12) = false := by rw [beq_eq_false_iff_ne]; omega
  have u13 : (id == 13) = false := by rw [beq_eq_false_iff_ne]; omega
  have u14 : (id == 14) = false := by rw [beq_eq_false_iff_ne]; omega
  have u15 : (id == 15) = false := by rw [beq_eq_false_iff_ne]; omega
  have u16 : (id == 16) = false := by rw [beq_eq_false_iff_ne]; omega
  have u17 : (id == 17) = false := by rw [beq_eq_false_iff_ne]; omega
  have u18 : (id == 18) = false := by rw [beq_eq_false_iff_ne]; omega
  have u19 : (id == 19) = false := by rw [beq_eq_false_iff_ne]; omega
  have u20 : (id == 20) = false := by rw [beq_eq_false_iff_ne]; omega
  have u21 : (id == 21) = false := by rw [beq_eq_false_iff_ne]; omega
  have u22 : (id == 22) = false := by rw [beq_eq_false_iff_ne]; omega
  have u23 : (id == 23) = false := by rw [beq_eq_false_iff_ne]; omega
  have u24 : (id == 24) = false := by rw [beq_eq_false_iff_ne]; omega
  have u25 : (id == 25) = false := by rw [beq_eq_false_iff_ne]; omega
  have u26 : (id == 26) = false := by rw [beq_eq_false_iff_ne]; omega
  have u27 : (id == 27) = false := by rw [beq_eq_false_iff_ne]; omega
  have u28 : (id == 28) = false := by rw [beq_eq_false_iff_ne]; omega
  have u29 : (id == 29) = false := by rw [beq_eq_false_iff_ne]; omega
  have u30 : (id == 30) = false := by rw [beq_eq_false_iff_ne]; omega
  have u31 : (id == 31) = false := by rw [beq_eq_false_iff_ne]; omega
  have u32 : (id == 32) = false := by rw [beq_eq_false_iff_ne]; omega
  have u33 : (id == 33) = false := by rw [beq_eq_false_iff_ne]; omega
  have u34 : (id == 34) = false := by rw [beq_eq_false_iff_ne]; omega
  have u35 : (id == 35) = false := by rw [beq_eq_false_iff_ne]; omega
  have u36 : (id == 36) = false := by rw [beq_eq_false_iff_ne]; omega
  have u37 : (id == 37) = false := by rw [beq_eq_false_iff_ne]; omega
  have u38 : (id == 38) = false := by rw [beq_eq_false_iff_ne]; omega
  have u39 : (id == 39) = false := by rw [beq_eq_false_iff_ne]; omega
  have u40 : (id == 40) = false := by rw [beq_eq_false_iff_ne]; omega
  have u41 : (id == 41) = false := by rw [beq_eq_false_iff_ne]; omega
  have u42 : (id == 42) = false := by rw [beq_eq_false_iff_ne]; omega
  have u43 : (id == 43) = false := by rw [beq_eq_false_iff_ne]; omega
  have u44 : (id == 44) = false := by rw [beq_eq_false_iff_ne]; omega
  have u45 : (id == 45) = false := by rw [beq_eq_false_iff_ne]; omega
  have u46 : (id == 46) = false := by rw [beq_eq_false_iff_ne]; omega
  have u47 : (id == 47) = false := by rw [beq_eq_false_iff_ne]; omega
  have u48 : (id == 48) = false := by rw [beq_eq_false_iff_ne]; omega
  have u49 : (id == 49) = false := by rw [beq_eq_false_iff_ne]; omega
  have u50 : (id == 50) = false := by rw [beq_eq_false_iff_ne]; omega
  have u51 : (id == 51) = false := by rw [beq_eq_false_iff_ne]; omega
  have u52 : (id == 52) = false := by rw [beq_eq_false_iff_ne]; omega
  have u53 : (id == 53) = false := by rw [beq_eq_false_iff_ne]; omega
  have u54 : (id == 54) = false := by rw [beq_eq_false_iff_ne]; omega
  have z0 : decide ((55 : Int) ≤ id) = true := decide_eq_true h0
  by_cases h1 : id ≤ 61
  · have z1 : decide (id ≤ 61) = true := decide_eq_true h1
    rw [if_pos h1]
    clear h0 h1
    leaf18
  · have z1 : decide (id ≤ 61) = false := decide_eq_false h1
    have z2 : decide ((62 : Int) ≤ id) = true := decide_eq_true (by omega)
    rw [if_neg h1]
    by_cases h2 : id ≤ 70
    · have z3 : decide (id ≤ 70) = true := decide_eq_true h2
      rw [if_pos h2]
      clear h0 h1 h2
      leaf18
    · have z3 : decide (id ≤ 70) = false := decide_eq_false h2
      rw [if_neg h2]
      clear h0 h1 h2
      leaf18
set_option maxRecDepth 100000 in
set_option maxHeartbeats 1000000 in
theorem i0 (w : World) : Calls Try.prog 18 #[.int .u8 0] w (Info ⟨#[]⟩ w) := by leaf18
theorem any18 (id : Int) : ∃ s, 0 ≤ id → ∀ w, Calls Try.prog 18 #[.int .u8 id] w (Info s w) := by
  by_cases hb : 55 ≤ id
  · exact ⟨_, fun _ w => big id hb w⟩
  by_cases e0 : id = 0
  · subst e0; exact ⟨_, fun _ w => i0 w⟩
  by_cases e1 : id = 1
  · subst e1; exact ⟨_, fun _ w => i1 w⟩
  by_cases e2 : id = 2
  · subst e2; exact ⟨_, fun _ w => i2 w⟩
  by_cases e3 : id = 3
  · subst e3; exact ⟨_, fun _ w => i3 w⟩
  by_cases e4 : id = 4
  · subst e4; exact ⟨_, fun _ w => i4 w⟩
  by_cases e5 : id = 5
  · subst e5; exact ⟨_, fun _ w => i5 w⟩
  by_cases e6 : id = 6
  · subst e6; exact ⟨_, fun _ w => i6 w⟩
  by_cases e7 : id = 7
  · subst e7; exact ⟨_, fun _ w => i7 w⟩
  by_cases e8 : id = 8
  · subst e8; exact ⟨_, fun _ w => i8 w⟩
  by_cases e9 : id = 9
  · subst e9; exact ⟨_, fun _ w => i9 w⟩
  by_cases e10 : id = 10
  · subst e10; exact ⟨_, fun _ w => i10 w⟩
  by_cases e11 : id = 11
  · subst e11; exact ⟨_, fun _ w => i11 w⟩
  by_cases e12 : id = 12
  · subst e12; exact ⟨_, fun _ w => i12 w⟩
  by_cases e13 : id = 13
  · subst e13; exact ⟨_, fun _ w => i13 w⟩
  by_cases e14 : id = 14
  · subst e14; exact ⟨_, fun _ w => i14 w⟩
  by_cases e15 : id = 15
  · subst e15; exact ⟨_, fun _ w => i15 w⟩
  by_cases e16 : id = 16
  · subst e16; exact ⟨_, fun _ w => i16 w⟩
  by_cases e17 : id = 17
  · subst e17; exact ⟨_, fun _ w => i17 w⟩
  by_cases e18 : id = 18
  · subst e18; exact ⟨_, fun _ w => i18 w⟩
  by_cases e19 : id = 19
  · subst e19; exact ⟨_, fun _ w => i19 w⟩
  by_cases e20 : id = 20
  · subst e20; exact ⟨_, fun _ w => i20 w⟩
  by_cases e21 : id = 21
  · subst e21; exact ⟨_, fun _ w => i21 w⟩
  by_cases e22 : id = 22
  · subst e22; exact ⟨_, fun _ w => i22 w⟩
  by_cases e23 : id = 23
  · subst e23; exact ⟨_, fun _ w => i23 w⟩
  by_cases e24 : id = 24
  · subst e24; exact ⟨_, fun _ w => i24 w⟩
  by_cases e25 : id = 25
  · subst e25; exact ⟨_, fun _ w => i25 w⟩
  by_cases e26 : id = 26
  · subst e26; exact ⟨_, fun _ w => i26 w⟩
  by_cases e27 : id = 27
  · subst e27; exact ⟨_, fun _ w => i27 w⟩
  by_cases e28 : id = 28
  · subst e28; exact ⟨_, fun _ w => i28 w⟩
  by_cases e29 : id = 29
  · subst e29; exact ⟨_, fun _ w => i29 w⟩
  by_cases e30 : id = 30
  · subst e30; exact ⟨_, fun _ w => i30 w⟩
  by_cases e31 : id = 31
  · subst e31; exact ⟨_, fun _ w => i31 w⟩
  by_cases e32 : id = 32
  · subst e32; exact ⟨_, fun _ w => i32 w⟩
  by_cases e33 : id = 33
  · subst e33; exact ⟨_, fun _ w => i33 w⟩
  by_cases e34 : id = 34
  · subst e34; exact ⟨_, fun _ w => i34 w⟩
  by_cases e35 : id = 35
  · subst e35; exact ⟨_, fun _ w => i35 w⟩
  by_cases e36 : id = 36
  · subst e36; exact ⟨_, fun _ w => i36 w⟩
  by_cases e37 : id = 37
  · subst e37; exact ⟨_, fun _ w => i37 w⟩
  by_cases e38 : id = 38
  · subst e38; exact ⟨_, fun _ w => i38 w⟩
  by_cases e39 : id = 39
  · subst e39; exact ⟨_, fun _ w => i39 w⟩
  by_cases e40 : id = 40
  · subst e40; exact ⟨_, fun _ w => i40 w⟩
  by_cases e41 : id = 41
  · subst e41; exact ⟨_, fun _ w => i41 w⟩
  by_cases e42 : id = 42
  · subst e42; exact ⟨_, fun _ w => i42 w⟩
  by_cases e43 : id = 43
  · subst e43; exact ⟨_, fun _ w => i43 w⟩
  by_cases e44 : id = 44
  · subst e44; exact ⟨_, fun _ w => i44 w⟩
  by_cases e45 : id = 45
  · subst e45; exact ⟨_, fun _ w => i45 w⟩
  by_cases e46 : id = 46
  · subst e46; exact ⟨_, fun _ w => i46 w⟩
  by_cases e47 : id = 47
  · subst e47; exact ⟨_, fun _ w => i47 w⟩
  by_cases e48 : id = 48
  · subst e48; exact ⟨_, fun _ w => i48 w⟩
  by_cases e49 : id = 49
  · subst e49; exact ⟨_, fun _ w => i49 w⟩
  by_cases e50 : id = 50
  · subst e50; exact ⟨_, fun _ w => i50 w⟩
  by_cases e51 : id = 51
  · subst e51; exact ⟨_, fun _ w => i51 w⟩
  by_cases e52 : id = 52
  · subst e52; exact ⟨_, fun _ w => i52 w⟩
  by_cases e53 : id = 53
  · subst e53; exact ⟨_, fun _ w => i53 w⟩
  by_cases e54 : id = 54
  · subst e54; exact ⟨_, fun _ w => i54 w⟩
  exact ⟨⟨#[]⟩, fun h => by omega⟩
/-- The text of a number. -/
noncomputable def idT (id : Int) : ByteArray := Classical.choose (any18 id)
theorem info18 (id : Int) (h : 0 ≤ id) (w : World) : Calls Try.prog 18 #[.int .u8 id] w (Info (idT id) w) := Classical.choose_spec (any18 id) h w
theorem fld61 (s : ByteArray) (k : Int) (W : World) : (Instr.field 61 (.agg #[.string s, .int .u8 k]) 0).run Try.prog W = .ok (.string s) W := by kernel_rfl
def Txt (s : ByteArray) (w : World) (e : Ending) (w' : World) : Prop := e = .returned (.string s) ∧ Below w.heap.size w w'
theorem id16 (id : Int) (h : 0 ≤ id) (w : World) : Calls Try.prog 16 #[.int .u8 id] w (Txt (idT id) w) := by
  have H := Lib.hid (info18 id h w)
  have hfd := fun k W => fld61 (idT id) k W
  go_enter Try.func16, Try.ntmps16
  go_wp2_with fail
  refine H.out.mono ?_
  rintro e w' ⟨⟨k, rfl⟩, hb⟩
  clear H
  go_wp2_with fail
  go_ret
  exact ⟨rfl, hb⟩
theorem id10 (id : Int) (h : 0 ≤ id) (w : World) : Calls Try.prog 10 #[.int .u8 id] w (Txt (idT id) w) := by
  have H := Lib.hid (id16 id h w)
  go_enter Try.func10, Try.ntmps10
  go_wp2_with fail
  refine H.out.mono ?_
  rintro e w' ⟨rfl, hb⟩
  clear H
  go_wp2_with fail
  go_ret
  exact ⟨rfl, hb⟩
theorem style15 (a b : Int) (ab : Bool) (h : (bits .and .u8 a b != 0) = ab) (w : World) : Calls Try.prog 15 #[.int .u8 a, .int .u8 b] w fun e w' => e = .returned (.int .u8 (if ab then 1 else 0)) ∧ w = w' := by
  cases ab
  · go_enter Try.func15, Try.ntmps15
    go_wp2
    go_ret
    exact ⟨rfl, rfl⟩
  · go_enter Try.func15, Try.ntmps15
    go_wp2
    go_ret
    exact ⟨rfl, rfl⟩
end Go.Proofs.Ytmjfdhgfpgeboab.Hb
