/-
  Proved: the law FnIsNameStartTable of folder n011_311 returns true for every argument that its parameter types allow, with no further condition.
  The frame is the kit's proof skeleton at this function's number and types.
-/
import Derived.Test.YtajoaaodnjlocabRows
import Derived.WalkKit
import Derived.ProofKit
import Derived.OpenShut
import Derived.Handy
import Derived.Lib.Hide
namespace Go.Proofs.Ytajoaaodnjlocab.fnIsNameStartTable
open Go.ChangeShapes Go.WideShapes Go.ChangeAt Go.RowKit
set_option linter.unusedVariables false      -- a walk need not use every 'w<i>' (that an integer argument fits its kind)

theorem own : ownKnob Try.prog.godebug = none := by kernel_rfl

def tab : List UInt8 := [97, 98, 99, 100, 101, 102, 103, 104, 105, 106, 107, 108, 109, 110, 111, 112, 113, 114, 115, 116, 117, 118, 119, 120, 121, 122, 65, 66, 67, 68, 69, 70, 71, 72, 73, 74, 75, 76, 77, 78, 79, 80, 81, 82, 83, 84, 85, 86, 87, 88, 89, 90, 95]
def code (k : Nat) : Int := ((tab.getD k 0).toNat : Int)
def isIn (n : Nat) (c : Int) : Bool := (List.range n).any fun k => code k == c
def start (c : Int) : Bool := decide (97 ≤ c ∧ c ≤ 122 ∨ 65 ≤ c ∧ c ≤ 90 ∨ c = 95 ∨ 128 ≤ c ∨ c = 0)
theorem isIn_start (c : Int) (h0 : 0 < c) (h1 : c < 128) : isIn 53 c = start c := by
  obtain ⟨n, rfl⟩ := Int.eq_ofNat_of_zero_le (Int.le_of_lt h0)
  have key : ∀ m : Nat, m < 128 → isIn 53 (Int.ofNat m) = (start (Int.ofNat m) && !(m == 0)) := by decide +kernel
  have := key n (by omega)
  rw [show ((n : Nat) : Int) = Int.ofNat n from rfl, this]
  have : (n == 0) = false := by simp; omega
  rw [this]; simp
theorem code_bd (k : Nat) : 0 ≤ code k ∧ code k ≤ 255 := by unfold code; have := (tab.getD k 0).toNat_lt; omega
theorem isIn_succ (k : Nat) (a : Int) : isIn (k + 1) a = (isIn k a || code k == a) := by
  unfold isIn; rw [List.range_succ, List.any_append]; simp
theorem index_tab (k : Nat) (h : k < 53) (w : World) : (Instr.index 9 (.string { data := #[97, 98, 99, 100, 101, 102, 103, 104, 105, 106, 107, 108, 109, 110, 111, 112, 113, 114, 115, 116, 117, 118, 119, 120, 121, 122, 65, 66, 67, 68, 69, 70, 71, 72, 73, 74, 75, 76, 77, 78, 79, 80, 81, 82, 83, 84, 85, 86, 87, 88, 89, 90, 95] }) (.int .i64 k)).run Try.prog w = .ok (.int .u8 (code k)) w := by
  rw [run_index_string _ _ _ _ _ Try.underlying9, dif_pos ⟨by omega, by show (k : Int) < 53; omega⟩]
  congr 2
  have key : ∀ m : Nat, (h : m < 53) → (((({ data := #[97, 98, 99, 100, 101, 102, 103, 104, 105, 106, 107, 108, 109, 110, 111, 112, 113, 114, 115, 116, 117, 118, 119, 120, 121, 122, 65, 66, 67, 68, 69, 70, 71, 72, 73, 74, 75, 76, 77, 78, 79, 80, 81, 82, 83, 84, 85, 86, 87, 88, 89, 90, 95] } : ByteArray))[m]'(by exact h)).toNat : Int) = code m := by decide +kernel
  exact key k h
theorem start_any (a : Int) (w : World) : Calls Try.prog 9 #[.int .i32 a] w fun e w' => e = .returned (.bool (start a)) ∧ w = w' := by
  go_enter Try.func9, Try.ntmps9
  go_wp2
  all_goals go_ret
  all_goals refine ⟨?_, rfl⟩
  all_goals (refine congrArg (fun b => Ending.returned (.bool b)) ?_; rw [Bool.eq_iff_iff]; simp [start]; try omega)
/-! ### STEP 1: THE WALK: the Go text returns true. 'Grown w w'': the world has at most new blocks (Derived/RowKit3.lean). Part the cases AHEAD of 'go_enter' where a test parts the walk; take each callee by a contract of your own. -/
theorem walk (a0 : Int) (w0 : (Lit.int .i32 a0).wf = true) (w : World) :
    Calls Try.prog 3 #[.int .i32 a0] w fun e w' => e = .returned (.bool true) ∧ Grown w w' := by
  have hx : -2147483648 ≤ a0 ∧ a0 ≤ 2147483647 := by simpa [Lit.wf, IntKind.min, IntKind.max, IntKind.signed, IntKind.bits] using w0
  clear w0
  by_cases h1 : a0 < 0
  · have e : start a0 = false := by unfold start; simp; omega
    have e0 : (a0 == 0) = false := by simp; omega
    go_enter Try.func3, Try.ntmps3
    go_wp2_with (go_at_call 9; refine (start_any _ _).mono ?_; rintro e w' ⟨rfl, rfl⟩; rw [e])
    go_ret
    exact ⟨rfl, by go_grown⟩
  by_cases h2 : 128 ≤ a0
  · have e : start a0 = true := by unfold start; simp; omega
    go_enter Try.func3, Try.ntmps3
    go_wp2_with (go_at_call 9; refine (start_any _ _).mono ?_; rintro e w' ⟨rfl, rfl⟩; rw [e])
    go_ret
    exact ⟨rfl, by go_grown⟩
  by_cases h3 : a0 = 0
  · subst h3
    have e : start 0 = true := by decide
    go_enter Try.func3, Try.ntmps3
    go_wp2_with (go_at_call 9; refine (start_any _ _).mono ?_; rintro e w' ⟨rfl, rfl⟩; rw [e])
    go_ret
    exact ⟨rfl, by go_grown⟩
  · have e := isIn_start a0 (by omega) (by omega)
    have E := Lib.hid e
    have e0 : (a0 == 0) = false := by simp; omega
    have hp : 0 < a0 := by omega
    clear e h3
    go_enter Try.func3, Try.ntmps3
    go_wp2_with fail
    go_loop [3, 4] (fun b i => ∃ k : Nat, k ≤ 53 ∧ i = .int .i64 k ∧ b = .bool (isIn k a0)) (fun _ i => 53 - (intOf i).toNat)
    case atStart => exact ⟨0, by omega, rfl, rfl⟩
    case round =>
      obtain ⟨k, hk, rfl, rfl⟩ := hrel
      by_cases hlt : k < 53
      · have hi := index_tab k hlt
        have hb := code_bd k
        have hs := Lib.hid (isIn_succ k a0)
        by_cases hq : code k = a0
        · have hq' : (code k == a0) = true := by simp [hq]
          have HQ := Lib.hid hq'
          clear hq
          go_wp2
          go_round
          case rel => exact ⟨k + 1, by omega, by go_num, by rw [hs.out, HQ.out]; simp⟩
          case measure => simp [intOf]; omega
        · have hq' : (code k == a0) = false := by simp [hq]
          have HQ := Lib.hid hq'
          clear hq
          go_wp2
          go_round
          case rel => exact ⟨k + 1, by omega, by go_num, by rw [hs.out, HQ.out]; simp⟩
          case measure => simp [intOf]; omega
      · have hk53 : k = 53 := by omega
        subst hk53
        go_wp2_with fail
        refine (start_any a0 _).mono ?_
        rintro e w' ⟨rfl, rfl⟩
        rw [← E.out]
        go_wp2_with fail
        go_ret
        exact ⟨by simp, by go_grown⟩

/-! ### THE ROW's STEP: WRITTEN OUT: LEAVE IT -/
set_option maxRecDepth 100000 in
theorem lifted (os : Os) (started : os.Started) (H : Type) (enc : TypeId × Value → H) :
    ReturnsInHanded {} Try.checked os 3 .any (Rows.fnIsNameStartTableSpec.pre6 enc Try.prog Try.f3 Rows.fnIsNameStartTableRow.domain false) (Rows.fnIsNameStartTableSpec.post enc Try.prog Try.f3 false true false false) := by
  refine returnsInHanded_of_change (C := Try.checked) own started (by kernel_rfl) Try.func3
    (ChangeSpec.witness6 (enc := enc) (C := Try.checked) false ⟨#[], #[.int .i32 0], []⟩ 8 (by kernel_rfl) (by kernel_rfl) (by kernel_rfl) (by kernel_rfl)) ?_
  intro W base args ds gs before hval0 hW hcnd _
  have hval : ∀ (j : Nat) t v, Try.f3.params[j]? = some t → args[j]? = some v → Value.okWide Try.prog W .any base t v := hval0
  have hW' := hW
  obtain ⟨p, q, hA0, hV, rfl, hfz, hnd⟩ := hW
  have hA : DataW.TrodAll enc Try.prog W 0 (fun _ => true) true Try.f3.params.toList args.toList ds p := hA0
  rw [Try.params3] at hA hval
  obtain ⟨v0, vs0, d0, ds0, p0, q0, hargs, rfl, rfl, h0, r0⟩ := trodAll_cons hA
  obtain ⟨rfl, rfl, rfl⟩ := trodAll_nil r0
  obtain rfl : args = #[v0] := by cases args; simp_all
  obtain ⟨rfl, rfl⟩ := trodVars_none hV
  obtain ⟨a0, rfl, rfl, rfl, w0⟩ := open_int Try.underlying21 (hval 0 21 v0 rfl rfl) h0
  clear hA0 hval0
  simp only [List.append_nil] at hW'
  refine (walk a0 w0 W).mono fun e W' ⟨he, hg⟩ => ?_
  subst he
  exact ⟨_, rfl, post_of_same (pa := []) (pv := []) hW' (fun _ _ _ => (trodAll_cons_mk (shut_bool Try.underlying4 _) trodAll_mk0)) (fun sp _ => (trodAll_cons_mk (shut_int Try.underlying21 w0) trodAll_mk0)) (fun _ _ => rfl) rfl
    (hg.frame _) hg.2.1 (ok_one (by kernel_rfl) rfl (okWide_bool_mk Try.underlying4 _))⟩

theorem over : Rows.fnIsNameStartTableRow.holds Try.pinned (OpenSpec.ofChange Rows.fnIsNameStartTableSpec) :=
  OpenClaim.holds_of_wide 3 Try.f3 rfl rfl rfl rfl rfl rfl rfl ⟨rfl, rfl, rfl, rfl, rfl⟩ rfl rfl rfl rfl rfl (by kernel_rfl) Try.func3 (by kernel_rfl)
    (of_decide_eq_true (by kernel_rfl)) (by unfold Func.isWrapper; first | (rw [if_pos (by decide +kernel)]; kernel_rfl) | (rw [if_neg (by decide +kernel)]; exact ⟨rfl, rfl⟩))
    (fun os started H enc _ => lifted os started H enc)

/-- ████ THE STATEMENT ████ -/
theorem proved : Rows.FnIsNameStartTableSaid :=
  over
#print axioms proved
end Go.Proofs.Ytajoaaodnjlocab.fnIsNameStartTable
