/-
  Proved: the law FnIsNameContinueMatchesCharsetModel of folder n011_50 returns true for every argument that its parameter types allow, with no further condition.
  The frame is the kit's proof skeleton at this function's number and types.
-/
import Derived.Test.YtedjaffefkahiaaRows
import Derived.WalkKit
import Derived.ProofKit
import Derived.OpenShut
import Derived.Handy
import Derived.Lib.Hide
namespace Go.Proofs.Ytedjaffefkahiaa.fnIsNameContinueMatchesCharsetModel
open Go.ChangeShapes Go.WideShapes Go.ChangeAt Go.RowKit
set_option linter.unusedVariables false      -- a walk need not use every 'w<i>' (that an integer argument fits its kind)

theorem own : ownKnob Try.prog.godebug = none := by kernel_rfl

def tab : List UInt8 := [97, 98, 99, 100, 101, 102, 103, 104, 105, 106, 107, 108, 109, 110, 111, 112, 113, 114, 115, 116, 117, 118, 119, 120, 121, 122, 65, 66, 67, 68, 69, 70, 71, 72, 73, 74, 75, 76, 77, 78, 79, 80, 81, 82, 83, 84, 85, 86, 87, 88, 89, 90, 48, 49, 50, 51, 52, 53, 54, 55, 56, 57, 95, 45]
def code (k : Nat) : Int := ((tab.getD k 0).toNat : Int)
def isIn (c : Int) : Bool := (List.range 64).any fun k => code k == c
def cont (c : Int) : Bool := decide (97 ≤ c ∧ c ≤ 122 ∨ 65 ≤ c ∧ c ≤ 90 ∨ c = 95 ∨ 128 ≤ c ∨ c = 0 ∨ 48 ≤ c ∧ c ≤ 57 ∨ c = 45)
theorem isIn_cont (c : Int) (h0 : 0 < c) (h1 : c < 128) : isIn c = cont c := by
  obtain ⟨n, rfl⟩ := Int.eq_ofNat_of_zero_le (Int.le_of_lt h0)
  have key : ∀ m : Nat, m < 128 → isIn (Int.ofNat m) = (cont (Int.ofNat m) && !(m == 0)) := by decide +kernel
  have := key n (by omega)
  rw [show ((n : Nat) : Int) = Int.ofNat n from rfl, this]
  have : (n == 0) = false := by simp; omega
  rw [this]; simp
theorem code_bd (k : Nat) : 0 ≤ code k ∧ code k ≤ 255 := by unfold code; have := (tab.getD k 0).toNat_lt; omega
theorem isIn_yes (k : Nat) (h : k < 64) : isIn (code k) = true := by
  unfold isIn; rw [List.any_eq_true]; exact ⟨k, by simpa using h, by simp⟩
theorem isIn_no (a : Int) (h : ∀ k, k < 64 → code k ≠ a) : isIn a = false := by
  unfold isIn; rw [List.any_eq_false]; intro k hk; simp at hk; simpa using h k hk
theorem index_tab (k : Nat) (h : k < 64) (w : World) : (Instr.index 9 (.string { data := #[97, 98, 99, 100, 101, 102, 103, 104, 105, 106, 107, 108, 109, 110, 111, 112, 113, 114, 115, 116, 117, 118, 119, 120, 121, 122, 65, 66, 67, 68, 69, 70, 71, 72, 73, 74, 75, 76, 77, 78, 79, 80, 81, 82, 83, 84, 85, 86, 87, 88, 89, 90, 48, 49, 50, 51, 52, 53, 54, 55, 56, 57, 95, 45] }) (.int .i64 k)).run Try.prog w = .ok (.int .u8 (code k)) w := by
  rw [run_index_string _ _ _ _ _ Try.underlying9, dif_pos ⟨by omega, by show (k : Int) < 64; omega⟩]
  congr 2
  have key : ∀ m : Nat, (h : m < 64) → (((({ data := #[97, 98, 99, 100, 101, 102, 103, 104, 105, 106, 107, 108, 109, 110, 111, 112, 113, 114, 115, 116, 117, 118, 119, 120, 121, 122, 65, 66, 67, 68, 69, 70, 71, 72, 73, 74, 75, 76, 77, 78, 79, 80, 81, 82, 83, 84, 85, 86, 87, 88, 89, 90, 48, 49, 50, 51, 52, 53, 54, 55, 56, 57, 95, 45] } : ByteArray))[m]'(by exact h)).toNat : Int) = code m := by decide +kernel
  exact key k h
theorem model_any (a : Int) (w : World) (h0 : 0 < a) (h1 : a < 128) : Calls Try.prog 12 #[.int .i32 a] w fun e w' => e = .returned (.bool (isIn a)) ∧ w = w' := by
  have e0 : (a == 0) = false := by simp; omega
  go_enter Try.func12, Try.ntmps12
  go_wp2
  go_loop [3] (fun i => ∃ k : Nat, k ≤ 64 ∧ i = .int .i64 k ∧ ∀ j, j < k → code j ≠ a) (fun i => 64 - (intOf i).toNat)
  case atStart => exact ⟨0, by omega, rfl, by omega⟩
  case round =>
    obtain ⟨k, hk, rfl, hn⟩ := hrel
    have hN := Lib.hid hn
    clear hn
    by_cases hlt : k < 64
    · have hi := index_tab k hlt
      have hb := code_bd k
      by_cases hq : code k = a
      · have hq' : (code k == a) = true := by simp [hq]
        have HQ := Lib.hid hq
        clear hq
        go_wp2
        go_ret
        exact ⟨by rw [← HQ.out, isIn_yes k hlt]; rfl, rfl⟩
      · have hq' : (code k == a) = false := by simp [hq]
        have HQ := Lib.hid hq
        clear hq
        go_wp2
        go_round
        case rel => exact ⟨k + 1, by omega, by go_num, fun j hj => by rcases Nat.lt_succ_iff_lt_or_eq.1 hj with h | rfl; exact hN.out j h; exact HQ.out⟩
        case measure => simp [intOf]; omega
    · go_wp2
      go_ret
      exact ⟨by rw [isIn_no a fun j hj => hN.out j (by omega)]; rfl, rfl⟩
theorem cont_any (a : Int) (w : World) : Calls Try.prog 11 #[.int .i32 a] w fun e w' => e = .returned (.bool (cont a)) ∧ w = w' := by
  go_enter Try.func11, Try.ntmps11
  go_wp2
  all_goals go_ret
  all_goals refine ⟨?_, rfl⟩
  all_goals (refine congrArg (fun b => Ending.returned (.bool b)) ?_; rw [Bool.eq_iff_iff]; simp [cont]; try omega)
/-! ### STEP 1: THE WALK: the Go text returns true. 'Grown w w'': the world has at most new blocks (Derived/RowKit3.lean). Part the cases AHEAD of 'go_enter' where a test parts the walk; take each callee by a contract of your own. -/
theorem walk (a0 : Int) (w0 : (Lit.int .i32 a0).wf = true) (w : World) :
    Calls Try.prog 4 #[.int .i32 a0] w fun e w' => e = .returned (.bool true) ∧ Grown w w' := by
  have hx : -2147483648 ≤ a0 ∧ a0 ≤ 2147483647 := by simpa [Lit.wf, IntKind.min, IntKind.max, IntKind.signed, IntKind.bits] using w0
  clear w0
  by_cases h1 : a0 < 0
  · have e : cont a0 = false := by unfold cont; simp; omega
    go_enter Try.func4, Try.ntmps4
    go_wp2_with (go_at_call 11; refine (cont_any _ _).mono ?_; rintro e w' ⟨rfl, rfl⟩; rw [e])
    go_wp2
    go_ret
    exact ⟨rfl, by go_grown⟩
  by_cases h2 : 128 ≤ a0
  · have e : cont a0 = true := by unfold cont; simp; omega
    go_enter Try.func4, Try.ntmps4
    go_wp2_with (go_at_call 11; refine (cont_any _ _).mono ?_; rintro e w' ⟨rfl, rfl⟩; rw [e])
    go_wp2
    go_ret
    exact ⟨rfl, by go_grown⟩
  by_cases h3 : a0 = 0
  · subst h3
    have e : cont 0 = true := by decide
    go_enter Try.func4, Try.ntmps4
    go_wp2_with (go_at_call 11; refine (cont_any _ _).mono ?_; rintro e w' ⟨rfl, rfl⟩; rw [e])
    go_wp2
    go_ret
    exact ⟨rfl, by go_grown⟩
  · have e := isIn_cont a0 (by omega) (by omega)
    have E := Lib.hid e
    have hp : 0 < a0 := by omega
    clear e h3
    go_enter Try.func4, Try.ntmps4
    go_wp2_with fail
    refine (cont_any _ _).mono ?_
    rintro e w' ⟨rfl, rfl⟩
    go_wp2_with fail
    refine (model_any a0 _ (by omega) (by omega)).mono ?_
    rintro e w' ⟨rfl, rfl⟩
    rw [E.out]
    go_wp2_with fail
    go_ret
    exact ⟨by simp, by go_grown⟩

/-! ### THE ROW's STEP: WRITTEN OUT: LEAVE IT -/
set_option maxRecDepth 100000 in
theorem lifted (os : Os) (started : os.Started) (H : Type) (enc : TypeId × Value → H) :
    ReturnsInHanded {} Try.checked os 4 .any (Rows.fnIsNameContinueMatchesCharsetModelSpec.pre6 enc Try.prog Try.f4 Rows.fnIsNameContinueMatchesCharsetModelRow.domain false) (Rows.fnIsNameContinueMatchesCharsetModelSpec.post enc Try.prog Try.f4 false true false false) := by
  refine returnsInHanded_of_change (C := Try.checked) own started (by kernel_rfl) Try.func4
    (ChangeSpec.witness6 (enc := enc) (C := Try.checked) false ⟨#[], #[.int .i32 0], []⟩ 8 (by kernel_rfl) (by kernel_rfl) (by kernel_rfl) (by kernel_rfl)) ?_
  intro W base args ds gs before hval0 hW hcnd _
  have hval : ∀ (j : Nat) t v, Try.f4.params[j]? = some t → args[j]? = some v → Value.okWide Try.prog W .any base t v := hval0
  have hW' := hW
  obtain ⟨p, q, hA0, hV, rfl, hfz, hnd⟩ := hW
  have hA : DataW.TrodAll enc Try.prog W 0 (fun _ => true) true Try.f4.params.toList args.toList ds p := hA0
  rw [Try.params4] at hA hval
  obtain ⟨v0, vs0, d0, ds0, p0, q0, hargs, rfl, rfl, h0, r0⟩ := trodAll_cons hA
  obtain ⟨rfl, rfl, rfl⟩ := trodAll_nil r0
  obtain rfl : args = #[v0] := by cases args; simp_all
  obtain ⟨rfl, rfl⟩ := trodVars_none hV
  obtain ⟨a0, rfl, rfl, rfl, w0⟩ := open_int Try.underlying21 (hval 0 21 v0 rfl rfl) h0
  clear hA0 hval0
  simp only [List.append_nil] at hW'
  refine (walk a0 w0 W).mono fun e W' ⟨he, hg⟩ => ?_
  subst he
  exact ⟨_, rfl, post_of_same (pa := []) (pv := []) hW' (fun _ _ _ => (trodAll_cons_mk (shut_bool Try.underlying4 _) trodAll_mk0)) (fun sp _ => (trodAll_cons_mk (shut_int Try.underlying21 w0) trodAll_mk0)) (fun _ _ => rfl) rfl
    (hg.frame _) hg.2.1 (ok_one (by kernel_rfl) rfl (okWide_bool_mk Try.underlying4 _))⟩

theorem over : Rows.fnIsNameContinueMatchesCharsetModelRow.holds Try.pinned (OpenSpec.ofChange Rows.fnIsNameContinueMatchesCharsetModelSpec) :=
  OpenClaim.holds_of_wide 4 Try.f4 rfl rfl rfl rfl rfl rfl rfl ⟨rfl, rfl, rfl, rfl, rfl⟩ rfl rfl rfl rfl rfl (by kernel_rfl) Try.func4 (by kernel_rfl)
    (of_decide_eq_true (by kernel_rfl)) (by unfold Func.isWrapper; first | (rw [if_pos (by decide +kernel)]; kernel_rfl) | (rw [if_neg (by decide +kernel)]; exact ⟨rfl, rfl⟩))
    (fun os started H enc _ => lifted os started H enc)

/-- ████ THE STATEMENT ████ -/
theorem proved : Rows.FnIsNameContinueMatchesCharsetModelSaid :=
  over
#print axioms proved
end Go.Proofs.Ytedjaffefkahiaa.fnIsNameContinueMatchesCharsetModel
