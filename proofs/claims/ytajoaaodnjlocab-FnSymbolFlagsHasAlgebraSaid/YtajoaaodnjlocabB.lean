/-
  Proved: the law FnSymbolFlagsHasAlgebra of folder n011_75 returns true for every argument that its parameter types allow, with no further condition.
  The frame is the kit's proof skeleton at this function's number and types.
-/
import Derived.Test.YtajoaaodnjlocabRows
import Derived.WalkKit
import Derived.ProofKit
import Derived.OpenShut
import Derived.Handy
import Derived.Lib.Hide
namespace Go.Proofs.Ytajoaaodnjlocab.fnSymbolFlagsHasAlgebra
open Go.ChangeShapes Go.WideShapes Go.ChangeAt Go.RowKit
set_option linter.unusedVariables false      -- a walk need not use every 'w<i>' (that an integer argument fits its kind)

theorem own : ownKnob Try.prog.godebug = none := by kernel_rfl

def hasB (f a : Int) : Bool := bits .and .u16 f a != 0
theorem has_any (f a : Int) (w : World) : Calls Try.prog 10 #[.int .u16 f, .int .u16 a] w fun e w' => e = .returned (.bool (hasB f a)) ∧ w = w' := by
  go_enter Try.func10, Try.ntmps10
  go_wp2
  go_ret
  exact ⟨rfl, rfl⟩
theorem nat_or_zero (f a b : Nat) : (f &&& (a ||| b) = 0) ↔ (f &&& a = 0 ∧ f &&& b = 0) := by
  rw [Nat.and_or_distrib_left, Nat.or_eq_zero_iff]
theorem has_or (f a b : Int) (hf : 0 ≤ f ∧ f ≤ 65535) (ha : 0 ≤ a ∧ a ≤ 65535) (hb : 0 ≤ b ∧ b ≤ 65535) : hasB f (bits .or .u16 a b) = (hasB f a || hasB f b) := by
  obtain ⟨f, rfl⟩ := Int.eq_ofNat_of_zero_le hf.1
  obtain ⟨a, rfl⟩ := Int.eq_ofNat_of_zero_le ha.1
  obtain ⟨b, rfl⟩ := Int.eq_ofNat_of_zero_le hb.1
  have hlt : a ||| b < 65536 := Nat.or_lt_two_pow (n := 16) (by omega) (by omega)
  unfold hasB
  rw [u16_or_nat a b (by omega) (by omega), u16_and_nat f (a ||| b) (by omega) hlt, u16_and_nat f a (by omega) (by omega), u16_and_nat f b (by omega) (by omega)]
  rw [Bool.eq_iff_iff]
  simp only [bne_iff_ne, Bool.or_eq_true, ne_eq]
  have := nat_or_zero f a b
  omega
theorem has_comm (f a : Int) (hf : 0 ≤ f ∧ f ≤ 65535) (ha : 0 ≤ a ∧ a ≤ 65535) : hasB f a = hasB a f := by
  obtain ⟨f, rfl⟩ := Int.eq_ofNat_of_zero_le hf.1
  obtain ⟨a, rfl⟩ := Int.eq_ofNat_of_zero_le ha.1
  unfold hasB
  rw [u16_and_nat f a (by omega) (by omega), u16_and_nat a f (by omega) (by omega), Nat.and_comm]
theorem has_zero (f : Int) (hf : 0 ≤ f ∧ f ≤ 65535) : hasB f 0 = false := by
  obtain ⟨f, rfl⟩ := Int.eq_ofNat_of_zero_le hf.1
  unfold hasB
  rw [show (0 : Int) = ((0 : Nat) : Int) from rfl, u16_and_nat f 0 (by omega) (by omega)]; simp
theorem has_self (f : Int) (hf : 0 ≤ f ∧ f ≤ 65535) : hasB f f = (f != 0) := by
  obtain ⟨f, rfl⟩ := Int.eq_ofNat_of_zero_le hf.1
  unfold hasB
  rw [u16_and_nat f f (by omega) (by omega), Nat.and_self]
/-! ### STEP 1: THE WALK: the Go text returns true. 'Grown w w'': the world has at most new blocks (Derived/RowKit3.lean). Part the cases AHEAD of 'go_enter' where a test parts the walk; take each callee by a contract of your own. -/
theorem walk (a0 : Int) (a1 : Int) (a2 : Int) (w0 : (Lit.int .u16 a0).wf = true) (w1 : (Lit.int .u16 a1).wf = true) (w2 : (Lit.int .u16 a2).wf = true) (w : World) :
    Calls Try.prog 4 #[.int .u16 a0, .int .u16 a1, .int .u16 a2] w fun e w' => e = .returned (.bool true) ∧ Grown w w' := by
  have hx : 0 ≤ a0 ∧ a0 ≤ 65535 := by simpa [Lit.wf, IntKind.min, IntKind.max, IntKind.signed, IntKind.bits] using w0
  have hy : 0 ≤ a1 ∧ a1 ≤ 65535 := by simpa [Lit.wf, IntKind.min, IntKind.max, IntKind.signed, IntKind.bits] using w1
  have hz : 0 ≤ a2 ∧ a2 ≤ 65535 := by simpa [Lit.wf, IntKind.min, IntKind.max, IntKind.signed, IntKind.bits] using w2
  have e1 := has_or a0 a1 a2 hx hy hz
  have e2 := has_comm a0 a1 hx hy
  have e3 := has_zero a0 hx
  have e4 := has_self a0 hx
  clear w0 w1 w2
  go_enter Try.func4, Try.ntmps4
  go_wp2_with (go_at_call 10; refine (has_any _ _ _).mono ?_; rintro e w' ⟨rfl, rfl⟩)
  all_goals go_ret
  all_goals exact ⟨rfl, by go_grown⟩

/-! ### THE ROW's STEP: WRITTEN OUT: LEAVE IT -/
set_option maxRecDepth 100000 in
theorem lifted (os : Os) (started : os.Started) (H : Type) (enc : TypeId × Value → H) :
    ReturnsInHanded {} Try.checked os 4 .any (Rows.fnSymbolFlagsHasAlgebraSpec.pre6 enc Try.prog Try.f4 Rows.fnSymbolFlagsHasAlgebraRow.domain false) (Rows.fnSymbolFlagsHasAlgebraSpec.post enc Try.prog Try.f4 false true false false) := by
  refine returnsInHanded_of_change (C := Try.checked) own started (by kernel_rfl) Try.func4
    (ChangeSpec.witness6 (enc := enc) (C := Try.checked) false ⟨#[], #[.int .u16 0, .int .u16 0, .int .u16 0], []⟩ 8 (by kernel_rfl) (by kernel_rfl) (by kernel_rfl) (by kernel_rfl)) ?_
  intro W base args ds gs before hval0 hW hcnd _
  have hval : ∀ (j : Nat) t v, Try.f4.params[j]? = some t → args[j]? = some v → Value.okWide Try.prog W .any base t v := hval0
  have hW' := hW
  obtain ⟨p, q, hA0, hV, rfl, hfz, hnd⟩ := hW
  have hA : DataW.TrodAll enc Try.prog W 0 (fun _ => true) true Try.f4.params.toList args.toList ds p := hA0
  rw [Try.params4] at hA hval
  obtain ⟨v0, vs0, d0, ds0, p0, q0, hargs, rfl, rfl, h0, r0⟩ := trodAll_cons hA
  obtain ⟨v1, vs1, d1, ds1, p1, q1, rfl, rfl, rfl, h1, r1⟩ := trodAll_cons r0
  obtain ⟨v2, vs2, d2, ds2, p2, q2, rfl, rfl, rfl, h2, r2⟩ := trodAll_cons r1
  obtain ⟨rfl, rfl, rfl⟩ := trodAll_nil r2
  obtain rfl : args = #[v0, v1, v2] := by cases args; simp_all
  obtain ⟨rfl, rfl⟩ := trodVars_none hV
  obtain ⟨a0, rfl, rfl, rfl, w0⟩ := open_int Try.underlying23 (hval 0 23 v0 rfl rfl) h0
  obtain ⟨a1, rfl, rfl, rfl, w1⟩ := open_int Try.underlying23 (hval 1 23 v1 rfl rfl) h1
  obtain ⟨a2, rfl, rfl, rfl, w2⟩ := open_int Try.underlying23 (hval 2 23 v2 rfl rfl) h2
  clear hA0 hval0
  simp only [List.append_nil] at hW'
  refine (walk a0 a1 a2 w0 w1 w2 W).mono fun e W' ⟨he, hg⟩ => ?_
  subst he
  exact ⟨_, rfl, post_of_same (pa := []) (pv := []) hW' (fun _ _ _ => (trodAll_cons_mk (shut_bool Try.underlying4 _) trodAll_mk0)) (fun sp _ => (trodAll_cons_mk (shut_int Try.underlying23 w0) (trodAll_cons_mk (shut_int Try.underlying23 w1) (trodAll_cons_mk (shut_int Try.underlying23 w2) trodAll_mk0)))) (fun _ _ => rfl) rfl
    (hg.frame _) hg.2.1 (ok_one (by kernel_rfl) rfl (okWide_bool_mk Try.underlying4 _))⟩

theorem over : Rows.fnSymbolFlagsHasAlgebraRow.holds Try.pinned (OpenSpec.ofChange Rows.fnSymbolFlagsHasAlgebraSpec) :=
  OpenClaim.holds_of_wide 4 Try.f4 rfl rfl rfl rfl rfl rfl rfl ⟨rfl, rfl, rfl, rfl, rfl⟩ rfl rfl rfl rfl rfl (by kernel_rfl) Try.func4 (by kernel_rfl)
    (of_decide_eq_true (by kernel_rfl)) (by unfold Func.isWrapper; first | (rw [if_pos (by decide +kernel)]; kernel_rfl) | (rw [if_neg (by decide +kernel)]; exact ⟨rfl, rfl⟩))
    (fun os started H enc _ => lifted os started H enc)

/-- ████ THE STATEMENT ████ -/
theorem proved : Rows.FnSymbolFlagsHasAlgebraSaid :=
  over
#print axioms proved
end Go.Proofs.Ytajoaaodnjlocab.fnSymbolFlagsHasAlgebra
