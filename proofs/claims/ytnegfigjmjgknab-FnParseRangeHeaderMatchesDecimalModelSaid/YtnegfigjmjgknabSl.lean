/-
  Contracts for the library's HasPrefix and IndexByte. No condition but sizes.
-/
import Derived.Test.YtnegfigjmjgknabRows
import Derived.Test.YtnegfigjmjgknabStr
import Derived.WalkKit
import Derived.Handy
import Derived.Lib.Hide
import Derived.Laws.Externs
import Derived.WalkSpells
import Derived.Deep.QuietTactic
import Derived.BigQuiet
namespace Go.Proofs.Ytnegfigjmjgknab.Sl
open Go.RowKit Go.PlainAid Str
set_option linter.unusedVariables false

theorem hasPrefix_any (s p : ByteArray) (w : World) (hs : s.size ≤ maxLen) (hp : p.size ≤ maxLen) : Calls Try.prog 32 #[.string s, .string p] w fun e w' => e = .returned (.bool (preB s p)) ∧ w = w' := by
  unfold maxLen at hs hp
  by_cases h : p.size ≤ s.size
  · have hb := toList_beq (s.extract 0 p.size) p
    go_enter Try.func32, Try.ntmps32
    go_wp2
    all_goals go_ret
    all_goals refine ⟨?_, rfl⟩
    all_goals (refine congrArg (fun b => Ending.returned (.bool b)) ?_; unfold preB; simp [h])
  · have h' : decide (p.size ≤ s.size) = false := by simp; omega
    go_enter Try.func32, Try.ntmps32
    go_wp2
    all_goals go_ret
    all_goals refine ⟨?_, rfl⟩
    all_goals (refine congrArg (fun b => Ending.returned (.bool b)) ?_; unfold preB; rw [h']; simp; try omega)

theorem indexByte_any (s : ByteArray) (c : Int) (w : World) : Calls Try.prog 33 #[.string s, .int .u8 c] w fun e w' => e = .returned (.int .i64 (firstIdx s c.toNat.toUInt8)) ∧ w = w' := by
  have hx := fun args W => run_callFunc_extern (P := Try.prog) Try.func51 (by kernel_rfl) (by kernel_rfl) (by kernel_rfl) (e := Extern.BytealgIndexByte.indexByte) (by kernel_rfl) args W
  have hy := fun W => run_indexByte_string (P := Try.prog) s c W
  go_enter Try.func33, Try.ntmps33
  go_wp2
  go_ret
  exact ⟨rfl, rfl⟩

theorem first_ways (s : ByteArray) (c : Nat) (hc : c < 256) : (firstIdx s c.toUInt8 = -1 ∧ hasB s c = false) ∨ ∃ i : Nat, i < s.size ∧ firstIdx s c.toUInt8 = i ∧ bt s i = c ∧ (∀ j, j < i → bt s j ≠ c) ∧ hasB s c = true := by
  have hbc : ∀ i (h : i < s.size), (s[i]! == c.toUInt8) = (bt s i == (c : Int)) := fun i h => by
    rw [bt_get s i h, getElem!_pos s i h, Bool.eq_iff_iff]
    simp only [beq_iff_eq]
    constructor
    · intro e; rw [e]; simp; omega
    · intro e
      refine UInt8.toNat_inj.1 ?_
      simp; omega
  unfold firstIdx
  cases hf : (List.range s.size).find? (fun i => s[i]! == c.toUInt8) with
  | none =>
    left
    refine ⟨rfl, ?_⟩
    rw [hasB_no]
    intro i hi
    have := List.find?_eq_none.1 hf i (by simpa using hi)
    rw [hbc i hi] at this
    simpa using this
  | some i =>
    right
    have h1 := List.find?_some hf
    have h2 : i < s.size := by simpa using List.mem_of_find?_eq_some hf
    rw [hbc i h2] at h1
    have e : bt s i = c := by simpa using h1
    refine ⟨i, h2, rfl, e, ?_, (hasB_iff s c).2 ⟨i, h2, e⟩⟩
    intro j hj hjc
    obtain ⟨_, l1, l2, hab, hno⟩ := List.find?_eq_some_iff_append.1 hf
    have hjm : j ∈ l1 := by
      have hl : l1.length = i := by
        have hget : (List.range s.size)[l1.length]? = some i := by rw [hab]; simp
        have : l1.length < (List.range s.size).length := by rw [hab]; simp
        rw [List.getElem?_eq_getElem this, List.getElem_range] at hget
        simpa using hget
      have hjl : j < l1.length := by omega
      have hg : (List.range s.size)[j]? = some l1[j] := by rw [hab, List.getElem?_append_left hjl, List.getElem?_eq_getElem hjl]
      have hjs : j < (List.range s.size).length := by simp; omega
      rw [List.getElem?_eq_getElem hjs, List.getElem_range] at hg
      have : j = l1[j] := by simpa using hg
      rw [this]; exact List.getElem_mem hjl
    have := hno j hjm
    rw [hbc j (by omega)] at this
    simp [hjc] at this

end Go.Proofs.Ytnegfigjmjgknab.Sl
