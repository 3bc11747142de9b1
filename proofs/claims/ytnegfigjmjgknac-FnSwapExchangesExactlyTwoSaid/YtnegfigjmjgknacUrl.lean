/-
  Contracts for the law on data URLs: the library's HasPrefix, HasSuffix, IndexByte, the law's own three models, ParseDataURL. No condition but sizes.
-/
import Derived.Test.YtnegfigjmjgknacRows
import Derived.Test.YtnegfigjmjgknacStr
import Derived.WalkKit
import Derived.Handy
import Derived.Lib.Hide
import Derived.Laws.Externs
import Derived.WalkSpells
import Derived.Deep.QuietTactic
import Derived.BigQuiet
namespace Go.Proofs.Ytnegfigjmjgknac.Url
open Go.RowKit Go.PlainAid Str
set_option linter.unusedVariables false

theorem size_ok (s : ByteArray) (w : World) : Calls Try.prog 18 #[.string s] w fun e w' => e = .returned (.bool (decide (s.size ≤ 1048576))) ∧ w = w' := by
  go_enter Try.func18, Try.ntmps18
  go_wp2
  all_goals go_ret
  all_goals refine ⟨?_, rfl⟩
  all_goals (refine congrArg (fun b => Ending.returned (.bool b)) ?_; simp; try omega)

theorem hasPrefix_any (s p : ByteArray) (w : World) (hs : s.size ≤ maxLen) (hp : p.size ≤ maxLen) : Calls Try.prog 39 #[.string s, .string p] w fun e w' => e = .returned (.bool (preB s p)) ∧ w = w' := by
  unfold maxLen at hs hp
  by_cases h : p.size ≤ s.size
  · have hb := toList_beq (s.extract 0 p.size) p
    go_enter Try.func39, Try.ntmps39
    go_wp2
    all_goals go_ret
    all_goals refine ⟨?_, rfl⟩
    all_goals (refine congrArg (fun b => Ending.returned (.bool b)) ?_; unfold preB; simp [h])
  · have h' : decide (p.size ≤ s.size) = false := by simp; omega
    go_enter Try.func39, Try.ntmps39
    go_wp2
    all_goals go_ret
    all_goals refine ⟨?_, rfl⟩
    all_goals (refine congrArg (fun b => Ending.returned (.bool b)) ?_; unfold preB; rw [h']; simp; try omega)

theorem hasSuffix_any (s p : ByteArray) (w : World) (hs : s.size ≤ maxLen) (hp : p.size ≤ maxLen) : Calls Try.prog 41 #[.string s, .string p] w fun e w' => e = .returned (.bool (sufB s p)) ∧ w = w' := by
  unfold maxLen at hs hp
  by_cases h : p.size ≤ s.size
  · have hb := toList_beq (s.extract (s.size - p.size) s.size) p
    go_enter Try.func41, Try.ntmps41
    go_wp2
    all_goals go_ret
    all_goals refine ⟨?_, rfl⟩
    all_goals (refine congrArg (fun b => Ending.returned (.bool b)) ?_; unfold sufB; simp [h])
  · have h' : decide (p.size ≤ s.size) = false := by simp; omega
    go_enter Try.func41, Try.ntmps41
    go_wp2
    all_goals go_ret
    all_goals refine ⟨?_, rfl⟩
    all_goals (refine congrArg (fun b => Ending.returned (.bool b)) ?_; unfold sufB; rw [h']; simp; try omega)

theorem indexByte_any (s : ByteArray) (c : Int) (w : World) : Calls Try.prog 40 #[.string s, .int .u8 c] w fun e w' => e = .returned (.int .i64 (firstIdx s c.toNat.toUInt8)) ∧ w = w' := by
  have hx := fun args W => run_callFunc_extern (P := Try.prog) Try.func47 (by kernel_rfl) (by kernel_rfl) (by kernel_rfl) (e := Extern.BytealgIndexByte.indexByte) (by kernel_rfl) args W
  have hy := fun W => run_indexByte_string (P := Try.prog) s c W
  go_enter Try.func40, Try.ntmps40
  go_wp2
  go_ret
  exact ⟨rfl, rfl⟩

theorem first_ways (s : ByteArray) (c : Nat) (hc : c < 256) : (firstIdx s c.toUInt8 = -1 ∧ hasB s c = false) ∨ ∃ i : Nat, i < s.size ∧ firstIdx s c.toUInt8 = i ∧ bt s i = c ∧ (∀ j, j < i → bt s j ≠ c) ∧ hasB s c = true := by
  have hbc : ∀ i (h : i < s.size), (s[i]! == c.toUInt8) = (bt s i == (c : Int)) := fun i h => by
    rw [bt_get s i h, getElem!_pos s i h, Bool.eq_iff_iff]
    simp only [beq_iff_eq]
    constructor
    · intro e; rw [e]; simp; omega
    · intro e
      refine UInt8.toNat_inj.1 ?_
      simp; omega
  unfold firstIdx
  cases hf : (List.range s.size).find? (fun i => s[i]! == c.toUInt8) with
  | none =>
    left
    refine ⟨rfl, ?_⟩
    rw [hasB_no]
    intro i hi
    have := List.find?_eq_none.1 hf i (by simpa using hi)
    rw [hbc i hi] at this
    simpa using this
  | some i =>
    right
    have h1 := List.find?_some hf
    have h2 : i < s.size := by simpa using List.mem_of_find?_eq_some hf
    rw [hbc i h2] at h1
    have e : bt s i = c := by simpa using h1
    refine ⟨i, h2, rfl, e, ?_, (hasB_iff s c).2 ⟨i, h2, e⟩⟩
    intro j hj hjc
    obtain ⟨_, l1, l2, hab, hno⟩ := List.find?_eq_some_iff_append.1 hf
    have hjm : j ∈ l1 := by
      have hl : l1.length = i := by
        have hget : (List.range s.size)[l1.length]? = some i := by rw [hab]; simp
        have : l1.length < (List.range s.size).length := by rw [hab]; simp
        rw [List.getElem?_eq_getElem this, List.getElem_range] at hget
        simpa using hget
      have hjl : j < l1.length := by omega
      have hg : (List.range s.size)[j]? = some l1[j] := by rw [hab, List.getElem?_append_left hjl, List.getElem?_eq_getElem hjl]
      have hjs : j < (List.range s.size).length := by simp; omega
      rw [List.getElem?_eq_getElem hjs, List.getElem_range] at hg
      have : j = l1[j] := by simpa using hg
      rw [this]; exact List.getElem_mem hjl
    have := hno j hjm
    rw [hbc j (by omega)] at this
    simp [hjc] at this

theorem zzHasByte_any (s : ByteArray) (c : Int) (w : World) (hs : s.size ≤ maxLen) : Calls Try.prog 22 #[.string s, .int .u8 c] w fun e w' => e = .returned (.bool (hasB s c)) ∧ w = w' := by
  unfold maxLen at hs
  have hb := get_bt s
  go_enter Try.func22, Try.ntmps22
  go_wp2
  go_loop [5] (fun i => ∃ k : Nat, k ≤ s.size ∧ i = .int .i64 k ∧ ∀ j, j < k → bt s j ≠ c) (fun i => s.size - (intOf i).toNat)
  case atStart => exact ⟨0, by omega, rfl, by omega⟩
  case round =>
    obtain ⟨k, hk, rfl, hn⟩ := hrel
    have hN := Lib.hid hn
    clear hn
    by_cases hlt : k < s.size
    · by_cases hq : bt s k = c
      · have hq' : (bt s k == c) = true := by simp [hq]
        have hy := (hasB_iff s c).2 ⟨k, hlt, hq⟩
        have HY := Lib.hid hy
        clear hq hy
        go_wp2
        go_ret
        exact ⟨by rw [HY.out]; rfl, rfl⟩
      · have hq' : (bt s k == c) = false := by simp [hq]
        have HQ := Lib.hid hq
        clear hq
        go_wp2
        go_round
        case rel => exact ⟨k + 1, by omega, by go_num, fun j hj => by rcases Nat.lt_succ_iff_lt_or_eq.1 hj with h | rfl; exact hN.out j h; exact HQ.out⟩
        case measure => simp [intOf]; omega
    · go_wp2
      go_ret
      exact ⟨by rw [(hasB_no s c).2 fun j hj => hN.out j (by omega)]; rfl, rfl⟩

set_option maxHeartbeats 1000000 in
theorem zzHasPrefix_any (s p : ByteArray) (w : World) (hs : s.size ≤ maxLen) (hp : p.size ≤ maxLen) : Calls Try.prog 21 #[.string s, .string p] w fun e w' => e = .returned (.bool (preB s p)) ∧ ∃ n, w' = w.drewN n := by
  unfold maxLen at hs hp
  have hb := get_bt s
  have hc := get_bt p
  by_cases h : p.size ≤ s.size
  · go_enter Try.func21, Try.ntmps21
    go_wp2
    go_loopw [5] (fun i wr => ∃ k : Nat, k ≤ p.size ∧ i = .int .i64 k ∧ (∀ j, j < k → bt s j = bt p j) ∧ ∃ n, wr = w.drewN n) (fun i _ => p.size - (intOf i).toNat)
    case atStart => exact ⟨0, by omega, rfl, by omega, 0, rfl⟩
    case round =>
      obtain ⟨k, hk, rfl, hn, n, rfl⟩ := hrel
      have hN := Lib.hid hn
      clear hn
      by_cases hlt : k < p.size
      · have b1 : (0 : Int) ≤ (k : Int) := by omega
        have b2 : (k : Int) < (s.size : Int) := by omega
        have b3 : (k : Int) < (p.size : Int) := by omega
        by_cases hq : bt s k = bt p k
        · have hq' : (bt s k != bt p k) = false := by simp [hq]
          have HQ := Lib.hid hq
          clear hq
          go_wp2
          go_quiet (fail)
          go_wp2
          go_roundw
          case rel => exact ⟨k + 1, by omega, by go_num, fun j hj => by rcases Nat.lt_succ_iff_lt_or_eq.1 hj with h | rfl; exact hN.out j h; exact HQ.out, _, rfl⟩
          case measure => simp [intOf]; omega
        · have hq' : (bt s k != bt p k) = true := by simp [hq]
          have HQ := Lib.hid hq
          clear hq
          go_wp2
          go_quiet (fail)
          go_wp2
          go_ret
          have : preB s p = false := by
            rw [← Bool.not_eq_true, preB_iff]
            exact fun hh => HQ.out (hh.2 k hlt)
          exact ⟨by rw [this]; rfl, n + nq, by rw [World.drewN_drewN]⟩
      · go_wp2
        go_ret
        exact ⟨by rw [(preB_iff s p).2 ⟨h, fun j hj => hN.out j (by omega)⟩]; rfl, _, rfl⟩
  · go_enter Try.func21, Try.ntmps21
    go_wp2
    go_ret
    have : preB s p = false := by
      rw [← Bool.not_eq_true, preB_iff]
      exact fun hh => by omega
    exact ⟨by rw [this]; rfl, 0, rfl⟩

set_option maxHeartbeats 1000000 in
theorem zzHasSuffix_any (s p : ByteArray) (w : World) (hs : s.size ≤ maxLen) (hp : p.size ≤ maxLen) : Calls Try.prog 23 #[.string s, .string p] w fun e w' => e = .returned (.bool (sufB s p)) ∧ ∃ n, w' = w.drewN n := by
  unfold maxLen at hs hp
  have hb := get_bt s
  have hc := get_bt p
  by_cases h : p.size ≤ s.size
  · go_enter Try.func23, Try.ntmps23
    go_wp2
    go_loopw [6] (fun i wr => ∃ k : Nat, k ≤ p.size ∧ i = .int .i64 k ∧ (∀ j, j < k → bt s (s.size - p.size + j) = bt p j) ∧ ∃ n, wr = w.drewN n) (fun i _ => p.size - (intOf i).toNat)
    case atStart => exact ⟨0, by omega, rfl, by omega, 0, rfl⟩
    case round =>
      obtain ⟨k, hk, rfl, hn, n, rfl⟩ := hrel
      have hN := Lib.hid hn
      clear hn
      by_cases hlt : k < p.size
      · have b1 : (0 : Int) ≤ (k : Int) := by omega
        have b2 : (0 : Int) ≤ (s.size : Int) - (p.size : Int) + (k : Int) := by omega
        have b4 : (s.size : Int) - (p.size : Int) + (k : Int) < (s.size : Int) := by omega
        have b3 : (k : Int) < (p.size : Int) := by omega
        have e1 : IntKind.i64.wrap ((s.size : Int) - (p.size : Int) + (k : Int)) = (s.size : Int) - (p.size : Int) + (k : Int) := IntWalk.i64_in _ (by omega)
        have e2 : ((s.size : Int) - (p.size : Int) + (k : Int)).toNat = s.size - p.size + k := by omega
        by_cases hq : bt s (s.size - p.size + k) = bt p k
        · have hq' : (bt s (s.size - p.size + k) != bt p k) = false := by simp [hq]
          have HQ := Lib.hid hq
          clear hq
          go_wp2
          go_quiet (fail)
          clear e1 e2
          go_wp2
          go_roundw
          case rel => exact ⟨k + 1, by omega, by go_num, fun j hj => by rcases Nat.lt_succ_iff_lt_or_eq.1 hj with h | rfl; exact hN.out j h; exact HQ.out, _, rfl⟩
          case measure => simp [intOf]; omega
        · have hq' : (bt s (s.size - p.size + k) != bt p k) = true := by simp [hq]
          have HQ := Lib.hid hq
          clear hq
          go_wp2
          go_quiet (fail)
          clear e1 e2
          go_wp2
          go_ret
          have : sufB s p = false := by
            rw [← Bool.not_eq_true, sufB_iff]
            exact fun hh => HQ.out (hh.2 k hlt)
          exact ⟨by rw [this]; rfl, n + nq, by rw [World.drewN_drewN]⟩
      · go_wp2
        go_ret
        exact ⟨by rw [(sufB_iff s p).2 ⟨h, fun j hj => hN.out j (by omega)⟩]; rfl, _, rfl⟩
  · go_enter Try.func23, Try.ntmps23
    go_wp2
    go_ret
    have : sufB s p = false := by
      rw [← Bool.not_eq_true, sufB_iff]
      exact fun hh => by omega
    exact ⟨by rw [this]; rfl, 0, rfl⟩
end Go.Proofs.Ytnegfigjmjgknac.Url
