/-
  Proved: the law FnConvertEngineNameKeepsOrder of folder n011_68 returns true for every argument that its parameter types allow, with no further condition.
  The frame is the kit's proof skeleton at this function's number and types.
-/
import Derived.Test.YtajoaaodnjlocaaRows
import Derived.WalkKit
import Derived.ProofKit
import Derived.OpenShut
import Derived.Handy
namespace Go.Proofs.Ytajoaaodnjlocaa.fnConvertEngineNameKeepsOrder
open Go.ChangeShapes Go.WideShapes Go.ChangeAt Go.RowKit
set_option linter.unusedVariables false      -- a walk need not use every 'w<i>' (that an integer argument fits its kind)

theorem own : ownKnob Try.prog.godebug = none := by kernel_rfl

def conv (a : Int) : Int := if a ≤ 2 then a else a + 1
set_option maxHeartbeats 1000000 in
theorem conv_any (a : Int) (w : World) (h0 : 0 ≤ a) (h1 : a ≤ 10) : Calls Try.prog 12 #[.int .u8 a] w fun e w' => e = .returned (.int .u8 (conv a)) ∧ w = w' := by
  have hc : a = 0 ∨ a = 1 ∨ a = 2 ∨ a = 3 ∨ a = 4 ∨ a = 5 ∨ a = 6 ∨ a = 7 ∨ a = 8 ∨ a = 9 ∨ a = 10 := by omega
  clear h0 h1
  rcases hc with rfl | rfl | rfl | rfl | rfl | rfl | rfl | rfl | rfl | rfl | rfl
  all_goals go_enter Try.func12, Try.ntmps12
  all_goals go_wp2
  all_goals go_ret
  all_goals exact ⟨rfl, rfl⟩
theorem conv_lt (a b : Int) : decide (conv a < conv b) = decide (a < b) := by
  unfold conv; by_cases h1 : a ≤ 2 <;> by_cases h2 : b ≤ 2 <;> simp [h1, h2] <;> omega
theorem conv_eq (a b : Int) : (conv a == conv b) = (a == b) := by
  rw [Bool.eq_iff_iff]; simp only [beq_iff_eq]
  unfold conv; by_cases h1 : a ≤ 2 <;> by_cases h2 : b ≤ 2 <;> simp [h1, h2] <;> omega
theorem conv_bd (a : Int) (h0 : 0 ≤ a) (h1 : a ≤ 10) : 0 ≤ conv a ∧ conv a ≤ 11 := by unfold conv; split <;> omega
/-! ### STEP 1: THE WALK: the Go text returns true. 'Grown w w'': the world has at most new blocks (Derived/RowKit3.lean). Part the cases AHEAD of 'go_enter' where a test parts the walk; take each callee by a contract of your own. -/
theorem walk (a0 : Int) (a1 : Int) (w0 : (Lit.int .u8 a0).wf = true) (w1 : (Lit.int .u8 a1).wf = true) (w : World) :
    Calls Try.prog 6 #[.int .u8 a0, .int .u8 a1] w fun e w' => e = .returned (.bool true) ∧ Grown w w' := by
  have hx : 0 ≤ a0 ∧ a0 ≤ 255 := by simpa [Lit.wf, IntKind.min, IntKind.max, IntKind.signed, IntKind.bits] using w0
  have hy : 0 ≤ a1 ∧ a1 ≤ 255 := by simpa [Lit.wf, IntKind.min, IntKind.max, IntKind.signed, IntKind.bits] using w1
  clear w0 w1
  by_cases h0 : 10 < a0
  · go_enter Try.func6, Try.ntmps6
    go_wp2_with fail
    all_goals go_ret
    all_goals exact ⟨by simp_all, by go_grown⟩
  by_cases h1 : 10 < a1
  · go_enter Try.func6, Try.ntmps6
    go_wp2_with fail
    all_goals go_ret
    all_goals exact ⟨by simp_all, by go_grown⟩
  have e1 := conv_lt a0 a1
  have e2 := conv_eq a0 a1
  go_enter Try.func6, Try.ntmps6
  go_wp2_with fail
  refine (conv_any _ _ (by omega) (by omega)).mono ?_
  rintro e w' ⟨rfl, rfl⟩
  go_wp2_with fail
  refine (conv_any _ _ (by omega) (by omega)).mono ?_
  rintro e w' ⟨rfl, rfl⟩
  go_wp2_with fail
  go_ret
  exact ⟨rfl, by go_grown⟩

/-! ### THE ROW's STEP: WRITTEN OUT: LEAVE IT -/
set_option maxRecDepth 100000 in
theorem lifted (os : Os) (started : os.Started) (H : Type) (enc : TypeId × Value → H) :
    ReturnsInHanded {} Try.checked os 6 .any (Rows.fnConvertEngineNameKeepsOrderSpec.pre6 enc Try.prog Try.f6 Rows.fnConvertEngineNameKeepsOrderRow.domain false) (Rows.fnConvertEngineNameKeepsOrderSpec.post enc Try.prog Try.f6 false true false false) := by
  refine returnsInHanded_of_change (C := Try.checked) own started (by kernel_rfl) Try.func6
    (ChangeSpec.witness6 (enc := enc) (C := Try.checked) false ⟨#[], #[.int .u8 0, .int .u8 0], []⟩ 8 (by kernel_rfl) (by kernel_rfl) (by kernel_rfl) (by kernel_rfl)) ?_
  intro W base args ds gs before hval0 hW hcnd _
  have hval : ∀ (j : Nat) t v, Try.f6.params[j]? = some t → args[j]? = some v → Value.okWide Try.prog W .any base t v := hval0
  have hW' := hW
  obtain ⟨p, q, hA0, hV, rfl, hfz, hnd⟩ := hW
  have hA : DataW.TrodAll enc Try.prog W 0 (fun _ => true) true Try.f6.params.toList args.toList ds p := hA0
  rw [Try.params6] at hA hval
  obtain ⟨v0, vs0, d0, ds0, p0, q0, hargs, rfl, rfl, h0, r0⟩ := trodAll_cons hA
  obtain ⟨v1, vs1, d1, ds1, p1, q1, rfl, rfl, rfl, h1, r1⟩ := trodAll_cons r0
  obtain ⟨rfl, rfl, rfl⟩ := trodAll_nil r1
  obtain rfl : args = #[v0, v1] := by cases args; simp_all
  obtain ⟨rfl, rfl⟩ := trodVars_none hV
  obtain ⟨a0, rfl, rfl, rfl, w0⟩ := open_int Try.underlying5 (hval 0 5 v0 rfl rfl) h0
  obtain ⟨a1, rfl, rfl, rfl, w1⟩ := open_int Try.underlying5 (hval 1 5 v1 rfl rfl) h1
  clear hA0 hval0
  simp only [List.append_nil] at hW'
  refine (walk a0 a1 w0 w1 W).mono fun e W' ⟨he, hg⟩ => ?_
  subst he
  exact ⟨_, rfl, post_of_same (pa := []) (pv := []) hW' (fun _ _ _ => (trodAll_cons_mk (shut_bool Try.underlying4 _) trodAll_mk0)) (fun sp _ => (trodAll_cons_mk (shut_int Try.underlying5 w0) (trodAll_cons_mk (shut_int Try.underlying5 w1) trodAll_mk0))) (fun _ _ => rfl) rfl
    (hg.frame _) hg.2.1 (ok_one (by kernel_rfl) rfl (okWide_bool_mk Try.underlying4 _))⟩

theorem over : Rows.fnConvertEngineNameKeepsOrderRow.holds Try.pinned (OpenSpec.ofChange Rows.fnConvertEngineNameKeepsOrderSpec) :=
  OpenClaim.holds_of_wide 6 Try.f6 rfl rfl rfl rfl rfl rfl rfl ⟨rfl, rfl, rfl, rfl, rfl⟩ rfl rfl rfl rfl rfl (by kernel_rfl) Try.func6 (by kernel_rfl)
    (of_decide_eq_true (by kernel_rfl)) (by unfold Func.isWrapper; first | (rw [if_pos (by decide +kernel)]; kernel_rfl) | (rw [if_neg (by decide +kernel)]; exact ⟨rfl, rfl⟩))
    (fun os started H enc _ => lifted os started H enc)

/-- ████ THE STATEMENT ████ -/
theorem proved : Rows.FnConvertEngineNameKeepsOrderSaid :=
  over
#print axioms proved
end Go.Proofs.Ytajoaaodnjlocaa.fnConvertEngineNameKeepsOrder
