/-
  Proved: the law FnMergeContentsSlotOnlyMovesToPinned of folder n011_8 returns true for every argument that its parameter types allow, with no further condition.
  The frame is the kit's proof skeleton at this function's number and types.
-/
import Derived.Test.YtajoaaodnjlocabRows
import Derived.WalkKit
import Derived.ProofKit
import Derived.OpenShut
import Derived.Handy
import Derived.Lib.Hide
import Derived.RegionTactic
import Derived.Laws.StructEq
namespace Go.Proofs.Ytajoaaodnjlocab.fnMergeContentsSlotOnlyMovesToPinned
open Go.ChangeShapes Go.WideShapes Go.ChangeAt Go.RowKit
set_option linter.unusedVariables false      -- a walk need not use every 'w<i>' (that an integer argument fits its kind)

theorem own : ownKnob Try.prog.godebug = none := by kernel_rfl

def hasB (f a : Int) : Bool := bits .and .u16 f a != 0
theorem has_any (f a : Int) (w : World) : Calls Try.prog 10 #[.int .u16 f, .int .u16 a] w fun e w' => e = .returned (.bool (hasB f a)) ∧ w = w' := by
  go_enter Try.func10, Try.ntmps10
  go_wp2
  go_ret
  exact ⟨rfl, rfl⟩
def privB (k : Int) : Bool := decide (8 ≤ k ∧ k ≤ 17)
theorem priv_any (k : Int) (w : World) : Calls Try.prog 19 #[.int .u8 k] w fun e w' => e = .returned (.bool (privB k)) ∧ w = w' := by
  go_enter Try.func19, Try.ntmps19
  go_wp2
  all_goals go_ret
  all_goals refine ⟨?_, rfl⟩
  all_goals (refine congrArg (fun b => Ending.returned (.bool b)) ?_; rw [Bool.eq_iff_iff]; simp [privB]; try omega)
def slotOf (k : Int) (pin : Bool) : Int := if k = 0 ∨ pin = true then 4 else if privB k = true then 2 else if k = 18 then 1 else if k = 24 then 3 else 0
theorem slot_any (b : Nat) (k f : Int) (w : World) (hk : w.cell? ⟨b, 8, none⟩ = some (.int .u8 k)) (hf : w.cell? ⟨b, 7, none⟩ = some (.int .u16 f)) :
    Calls Try.prog 12 #[.pointer (some ⟨b, 0, none⟩)] w fun e w' => e = .returned (.int .u8 (slotOf k (hasB f 1))) ∧ w = w' := by
  go_enter Try.func12, Try.ntmps12
  go_wp2_with (first | (go_at_call 10; refine (has_any _ _ _).mono ?_; rintro e w' ⟨rfl, rfl⟩) | (go_at_call 19; refine (priv_any _ _).mono ?_; rintro e w' ⟨rfl, rfl⟩))
  all_goals go_ret
  all_goals refine ⟨?_, rfl⟩
  all_goals (refine congrArg (fun n => Ending.returned (.int .u8 n)) ?_; show _ = slotOf k (hasB f 1); simp_all [slotOf])
theorem has_or1 (f c : Int) (hf : 0 ≤ f ∧ f ≤ 65535) (hc : 0 ≤ c ∧ c ≤ 65535) : hasB (bits .or .u16 f c) 1 = (hasB f 1 || hasB c 1) := by
  obtain ⟨f, rfl⟩ := Int.eq_ofNat_of_zero_le hf.1
  obtain ⟨c, rfl⟩ := Int.eq_ofNat_of_zero_le hc.1
  have hlt : f ||| c < 65536 := Nat.or_lt_two_pow (n := 16) (by omega) (by omega)
  unfold hasB
  rw [u16_or_nat f c (by omega) (by omega), show (1 : Int) = ((1 : Nat) : Int) from rfl, u16_and_nat (f ||| c) 1 hlt (by omega), u16_and_nat f 1 (by omega) (by omega), u16_and_nat c 1 (by omega) (by omega)]
  rw [Bool.eq_iff_iff]
  simp only [bne_iff_ne, Bool.or_eq_true, ne_eq]
  have : ((f ||| c) &&& 1 = 0) ↔ (f &&& 1 = 0 ∧ c &&& 1 = 0) := by rw [Nat.and_or_distrib_right, Nat.or_eq_zero_iff]
  omega
theorem or_bd (f c : Int) (hf : 0 ≤ f ∧ f ≤ 65535) (hc : 0 ≤ c ∧ c ≤ 65535) : 0 ≤ bits .or .u16 f c ∧ bits .or .u16 f c ≤ 65535 := by
  obtain ⟨f, rfl⟩ := Int.eq_ofNat_of_zero_le hf.1
  obtain ⟨c, rfl⟩ := Int.eq_ofNat_of_zero_le hc.1
  have hlt : f ||| c < 65536 := Nat.or_lt_two_pow (n := 16) (by omega) (by omega)
  rw [u16_or_nat f c (by omega) (by omega)]
  omega
/-! ### STEP 1: THE WALK: the Go text returns true. 'Grown w w'': the world has at most new blocks (Derived/RowKit3.lean). Part the cases AHEAD of 'go_enter' where a test parts the walk; take each callee by a contract of your own. -/
set_option maxHeartbeats 4000000 in
theorem walk (a0 : Int) (a1 : Int) (a2 : Int) (a3 : Int) (w0 : (Lit.int .u8 a0).wf = true) (w1 : (Lit.int .u16 a1).wf = true) (w2 : (Lit.int .u8 a2).wf = true) (w3 : (Lit.int .u16 a3).wf = true) (w : World) :
    Calls Try.prog 5 #[.int .u8 a0, .int .u16 a1, .int .u8 a2, .int .u16 a3] w fun e w' => e = .returned (.bool true) ∧ Grown w w' := by
  have h0 : 0 ≤ a0 ∧ a0 ≤ 255 := by simpa [Lit.wf, IntKind.min, IntKind.max, IntKind.signed, IntKind.bits] using w0
  have h1 : 0 ≤ a1 ∧ a1 ≤ 65535 := by simpa [Lit.wf, IntKind.min, IntKind.max, IntKind.signed, IntKind.bits] using w1
  have h2 : 0 ≤ a2 ∧ a2 ≤ 255 := by simpa [Lit.wf, IntKind.min, IntKind.max, IntKind.signed, IntKind.bits] using w2
  have h3 : 0 ≤ a3 ∧ a3 ≤ 65535 := by simpa [Lit.wf, IntKind.min, IntKind.max, IntKind.signed, IntKind.bits] using w3
  clear w0 w1 w2 w3
  cases hp3 : hasB a3 1 <;> cases hp1 : hasB a1 1 <;> cases hj : hasB a3 2
  case false.false.false =>
    have hF : hasB a1 1 = false := hp1
    have hq : (bits BinOp.and IntKind.u16 a3 1 != 0) = false := hp3
    have HF := Lib.hid hF
    clear hF
    go_enter Try.func5, Try.ntmps5
    go_wp2_with (first | (go_at_call 11; go_in))
    refine (slot_any _ a0 a1 _ (by go_simp) (by go_simp)).mono ?_
    rintro e w' ⟨rfl, rfl⟩
    go_wp2_with (first | (go_at_call 13; go_in))
    go_region
    go_wp2_with (first | (go_at_call 10; refine (has_any _ _ _).mono ?_; rintro e w' ⟨rfl, rfl⟩))
    refine (slot_any _ a0 a1 _ (by go_simp) (by go_simp)).mono ?_
    rintro e w' ⟨rfl, rfl⟩
    rw [HF.out]
    go_wp2_with fail
    go_ret
    exact ⟨by simp [slotOf], by go_grown⟩
  case false.false.true =>
    have hF : hasB (bits .or .u16 a1 2) 1 = false := by rw [has_or1 a1 2 h1 (by omega), hp1]; decide
    have hq : (bits BinOp.and IntKind.u16 a3 1 != 0) = false := hp3
    have HF := Lib.hid hF
    clear hF
    go_enter Try.func5, Try.ntmps5
    go_wp2_with (first | (go_at_call 11; go_in))
    refine (slot_any _ a0 a1 _ (by go_simp) (by go_simp)).mono ?_
    rintro e w' ⟨rfl, rfl⟩
    go_wp2_with (first | (go_at_call 13; go_in))
    go_region
    go_wp2_with (first | (go_at_call 10; refine (has_any _ _ _).mono ?_; rintro e w' ⟨rfl, rfl⟩))
    refine (slot_any _ a0 (bits .or .u16 a1 2) _ (by go_simp) (by go_simp)).mono ?_
    rintro e w' ⟨rfl, rfl⟩
    rw [HF.out]
    go_wp2_with fail
    go_ret
    exact ⟨by simp [slotOf], by go_grown⟩
  case false.true.false =>
    have hF : hasB a1 1 = true := hp1
    have hq : (bits BinOp.and IntKind.u16 a3 1 != 0) = false := hp3
    have HF := Lib.hid hF
    clear hF
    go_enter Try.func5, Try.ntmps5
    go_wp2_with (first | (go_at_call 11; go_in))
    refine (slot_any _ a0 a1 _ (by go_simp) (by go_simp)).mono ?_
    rintro e w' ⟨rfl, rfl⟩
    go_wp2_with (first | (go_at_call 13; go_in))
    go_region
    go_wp2_with (first | (go_at_call 10; refine (has_any _ _ _).mono ?_; rintro e w' ⟨rfl, rfl⟩))
    refine (slot_any _ a0 a1 _ (by go_simp) (by go_simp)).mono ?_
    rintro e w' ⟨rfl, rfl⟩
    rw [HF.out]
    go_wp2_with fail
    go_ret
    exact ⟨by simp [slotOf], by go_grown⟩
  case false.true.true =>
    have hF : hasB (bits .or .u16 a1 2) 1 = true := by rw [has_or1 a1 2 h1 (by omega), hp1]; decide
    have hq : (bits BinOp.and IntKind.u16 a3 1 != 0) = false := hp3
    have HF := Lib.hid hF
    clear hF
    go_enter Try.func5, Try.ntmps5
    go_wp2_with (first | (go_at_call 11; go_in))
    refine (slot_any _ a0 a1 _ (by go_simp) (by go_simp)).mono ?_
    rintro e w' ⟨rfl, rfl⟩
    go_wp2_with (first | (go_at_call 13; go_in))
    go_region
    go_wp2_with (first | (go_at_call 10; refine (has_any _ _ _).mono ?_; rintro e w' ⟨rfl, rfl⟩))
    refine (slot_any _ a0 (bits .or .u16 a1 2) _ (by go_simp) (by go_simp)).mono ?_
    rintro e w' ⟨rfl, rfl⟩
    rw [HF.out]
    go_wp2_with fail
    go_ret
    exact ⟨by simp [slotOf], by go_grown⟩
  case true.false.false =>
    have hF : hasB (bits .or .u16 a1 1) 1 = true := by rw [has_or1 a1 1 h1 (by omega), hp1]; decide
    have hq : (bits BinOp.and IntKind.u16 a3 1 != 0) = true := hp3
    have HF := Lib.hid hF
    clear hF
    go_enter Try.func5, Try.ntmps5
    go_wp2_with (first | (go_at_call 11; go_in))
    refine (slot_any _ a0 a1 _ (by go_simp) (by go_simp)).mono ?_
    rintro e w' ⟨rfl, rfl⟩
    go_wp2_with (first | (go_at_call 13; go_in))
    go_region
    go_wp2_with (first | (go_at_call 10; refine (has_any _ _ _).mono ?_; rintro e w' ⟨rfl, rfl⟩))
    refine (slot_any _ a0 (bits .or .u16 a1 1) _ (by go_simp) (by go_simp)).mono ?_
    rintro e w' ⟨rfl, rfl⟩
    rw [HF.out]
    go_wp2_with fail
    go_ret
    exact ⟨by simp [slotOf], by go_grown⟩
  case true.false.true =>
    have hF : hasB (bits .or .u16 (bits .or .u16 a1 1) 2) 1 = true := by rw [has_or1 _ 2 (or_bd a1 1 h1 (by omega)) (by omega), has_or1 a1 1 h1 (by omega), hp1]; decide
    have hq : (bits BinOp.and IntKind.u16 a3 1 != 0) = true := hp3
    have HF := Lib.hid hF
    clear hF
    go_enter Try.func5, Try.ntmps5
    go_wp2_with (first | (go_at_call 11; go_in))
    refine (slot_any _ a0 a1 _ (by go_simp) (by go_simp)).mono ?_
    rintro e w' ⟨rfl, rfl⟩
    go_wp2_with (first | (go_at_call 13; go_in))
    go_region
    go_wp2_with (first | (go_at_call 10; refine (has_any _ _ _).mono ?_; rintro e w' ⟨rfl, rfl⟩))
    refine (slot_any _ a0 (bits .or .u16 (bits .or .u16 a1 1) 2) _ (by go_simp) (by go_simp)).mono ?_
    rintro e w' ⟨rfl, rfl⟩
    rw [HF.out]
    go_wp2_with fail
    go_ret
    exact ⟨by simp [slotOf], by go_grown⟩
  case true.true.false =>
    have hF : hasB a1 1 = true := hp1
    have hq : (bits BinOp.and IntKind.u16 a3 1 != 0) = true := hp3
    have HF := Lib.hid hF
    clear hF
    go_enter Try.func5, Try.ntmps5
    go_wp2_with (first | (go_at_call 11; go_in))
    refine (slot_any _ a0 a1 _ (by go_simp) (by go_simp)).mono ?_
    rintro e w' ⟨rfl, rfl⟩
    go_wp2_with (first | (go_at_call 13; go_in))
    go_region
    go_wp2_with (first | (go_at_call 10; refine (has_any _ _ _).mono ?_; rintro e w' ⟨rfl, rfl⟩))
    refine (slot_any _ a0 a1 _ (by go_simp) (by go_simp)).mono ?_
    rintro e w' ⟨rfl, rfl⟩
    rw [HF.out]
    go_wp2_with fail
    go_ret
    exact ⟨by simp [slotOf], by go_grown⟩
  case true.true.true =>
    have hF : hasB (bits .or .u16 a1 2) 1 = true := by rw [has_or1 a1 2 h1 (by omega), hp1]; decide
    have hq : (bits BinOp.and IntKind.u16 a3 1 != 0) = true := hp3
    have HF := Lib.hid hF
    clear hF
    go_enter Try.func5, Try.ntmps5
    go_wp2_with (first | (go_at_call 11; go_in))
    refine (slot_any _ a0 a1 _ (by go_simp) (by go_simp)).mono ?_
    rintro e w' ⟨rfl, rfl⟩
    go_wp2_with (first | (go_at_call 13; go_in))
    go_region
    go_wp2_with (first | (go_at_call 10; refine (has_any _ _ _).mono ?_; rintro e w' ⟨rfl, rfl⟩))
    refine (slot_any _ a0 (bits .or .u16 a1 2) _ (by go_simp) (by go_simp)).mono ?_
    rintro e w' ⟨rfl, rfl⟩
    rw [HF.out]
    go_wp2_with fail
    go_ret
    exact ⟨by simp [slotOf], by go_grown⟩

/-! ### THE ROW's STEP: WRITTEN OUT: LEAVE IT -/
set_option maxRecDepth 100000 in
theorem lifted (os : Os) (started : os.Started) (H : Type) (enc : TypeId × Value → H) :
    ReturnsInHanded {} Try.checked os 5 .any (Rows.fnMergeContentsSlotOnlyMovesToPinnedSpec.pre6 enc Try.prog Try.f5 Rows.fnMergeContentsSlotOnlyMovesToPinnedRow.domain false) (Rows.fnMergeContentsSlotOnlyMovesToPinnedSpec.post enc Try.prog Try.f5 false true false false) := by
  refine returnsInHanded_of_change (C := Try.checked) own started (by kernel_rfl) Try.func5
    (ChangeSpec.witness6 (enc := enc) (C := Try.checked) false ⟨#[], #[.int .u8 0, .int .u16 0, .int .u8 0, .int .u16 0], []⟩ 8 (by kernel_rfl) (by kernel_rfl) (by kernel_rfl) (by kernel_rfl)) ?_
  intro W base args ds gs before hval0 hW hcnd _
  have hval : ∀ (j : Nat) t v, Try.f5.params[j]? = some t → args[j]? = some v → Value.okWide Try.prog W .any base t v := hval0
  have hW' := hW
  obtain ⟨p, q, hA0, hV, rfl, hfz, hnd⟩ := hW
  have hA : DataW.TrodAll enc Try.prog W 0 (fun _ => true) true Try.f5.params.toList args.toList ds p := hA0
  rw [Try.params5] at hA hval
  obtain ⟨v0, vs0, d0, ds0, p0, q0, hargs, rfl, rfl, h0, r0⟩ := trodAll_cons hA
  obtain ⟨v1, vs1, d1, ds1, p1, q1, rfl, rfl, rfl, h1, r1⟩ := trodAll_cons r0
  obtain ⟨v2, vs2, d2, ds2, p2, q2, rfl, rfl, rfl, h2, r2⟩ := trodAll_cons r1
  obtain ⟨v3, vs3, d3, ds3, p3, q3, rfl, rfl, rfl, h3, r3⟩ := trodAll_cons r2
  obtain ⟨rfl, rfl, rfl⟩ := trodAll_nil r3
  obtain rfl : args = #[v0, v1, v2, v3] := by cases args; simp_all
  obtain ⟨rfl, rfl⟩ := trodVars_none hV
  obtain ⟨a0, rfl, rfl, rfl, w0⟩ := open_int Try.underlying5 (hval 0 5 v0 rfl rfl) h0
  obtain ⟨a1, rfl, rfl, rfl, w1⟩ := open_int Try.underlying23 (hval 1 23 v1 rfl rfl) h1
  obtain ⟨a2, rfl, rfl, rfl, w2⟩ := open_int Try.underlying5 (hval 2 5 v2 rfl rfl) h2
  obtain ⟨a3, rfl, rfl, rfl, w3⟩ := open_int Try.underlying23 (hval 3 23 v3 rfl rfl) h3
  clear hA0 hval0
  simp only [List.append_nil] at hW'
  refine (walk a0 a1 a2 a3 w0 w1 w2 w3 W).mono fun e W' ⟨he, hg⟩ => ?_
  subst he
  exact ⟨_, rfl, post_of_same (pa := []) (pv := []) hW' (fun _ _ _ => (trodAll_cons_mk (shut_bool Try.underlying4 _) trodAll_mk0)) (fun sp _ => (trodAll_cons_mk (shut_int Try.underlying5 w0) (trodAll_cons_mk (shut_int Try.underlying23 w1) (trodAll_cons_mk (shut_int Try.underlying5 w2) (trodAll_cons_mk (shut_int Try.underlying23 w3) trodAll_mk0))))) (fun _ _ => rfl) rfl
    (hg.frame _) hg.2.1 (ok_one (by kernel_rfl) rfl (okWide_bool_mk Try.underlying4 _))⟩

theorem over : Rows.fnMergeContentsSlotOnlyMovesToPinnedRow.holds Try.pinned (OpenSpec.ofChange Rows.fnMergeContentsSlotOnlyMovesToPinnedSpec) :=
  OpenClaim.holds_of_wide 5 Try.f5 rfl rfl rfl rfl rfl rfl rfl ⟨rfl, rfl, rfl, rfl, rfl⟩ rfl rfl rfl rfl rfl (by kernel_rfl) Try.func5 (by kernel_rfl)
    (of_decide_eq_true (by kernel_rfl)) (by unfold Func.isWrapper; first | (rw [if_pos (by decide +kernel)]; kernel_rfl) | (rw [if_neg (by decide +kernel)]; exact ⟨rfl, rfl⟩))
    (fun os started H enc _ => lifted os started H enc)

/-- ████ THE STATEMENT ████ -/
theorem proved : Rows.FnMergeContentsSlotOnlyMovesToPinnedSaid :=
  over
#print axioms proved
end Go.Proofs.Ytajoaaodnjlocab.fnMergeContentsSlotOnlyMovesToPinned
