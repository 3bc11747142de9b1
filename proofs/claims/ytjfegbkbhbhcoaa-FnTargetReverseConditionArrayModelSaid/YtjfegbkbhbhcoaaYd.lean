/-
  The conditions' map of the law on reverse resolution: a map from every condition to true; what a look-up says. Conditions: sizes alone.
-/
import Derived.Test.YtjfegbkbhbhcoaaYc
namespace Go.Proofs.Ytjfegbkbhbhcoaa.Yd
open Go.RowKit Go.PlainAid Str Mem Rws Ex Go.Maps Ya Yb Yc
open Go.WideMaps
set_option linter.unusedVariables false
theorem law : Keyed Try.prog 9 := string_keyed Try.underlying9
abbrev kl (s : ByteArray) : Lit := .string s.data.toList
/-- The first k conditions. -/
def Dm (S : Nat → ByteArray) (k : Nat) : DataW Unit := setOf (.lit (.bool true)) ((List.range k).map fun j => kl (S j))
theorem Dm_zero (S : Nat → ByteArray) : Dm S 0 = .map [] := rfl
theorem Dm_succ (S : Nat → ByteArray) (k : Nat) : Dm S (k + 1) = (Dm S k).put (kl (S k)) (.lit (.bool true)) := by
  unfold Dm
  rw [List.range_succ, List.map_append]
  exact setOf_snoc _ _ _
theorem Dm_isMap (S : Nat → ByteArray) : ∀ k, IsMap (Dm S k)
  | 0 => isMap_empty
  | k + 1 => by rw [Dm_succ]; exact (Dm_isMap S k).put _ _
theorem same_str (s q : ByteArray) : (s.toList == q.toList) = decide (s = q) := toList_beq s q
theorem Dm_at (S : Nat → ByteArray) (q : ByteArray) : ∀ n, (Dm S n).atKey (kl q) (.lit (.bool false)) = .lit (.bool (inS S n q))
  | 0 => rfl
  | n + 1 => by
    rw [Dm_succ]
    by_cases h : S n = q
    · rw [← h, atKey_put_same (Dm_isMap S n) (by exact trivial), inS_yes (k := n) (by omega) (by rw [same_str]; simp [h])]
    · rw [atKey_put_other (fun e => h (list_inj (by injection e with e; exact e.symm))), Dm_at S q n]
      congr 2
      unfold inS
      rw [List.range_succ, List.any_append]
      simp [same_str, h]
set_option maxRecDepth 100000 in
theorem plainBool_inv {v : Value} {b : Bool} {ps : List MemPlace} (h : plainElem (H := Unit) Try.prog 4 v = some (.lit (.bool b), ps)) : v = .bool b := by
  unfold plainElem at h
  rw [Try.underlying4] at h
  cases v <;> simp at h
  rw [h.1]
set_option maxRecDepth 100000 in
theorem cnd_of {w : World} {b n k : Nat} {S : Nat → ByteArray} (h : w.ownsMap Try.prog 9 (plainElem (H := Unit) Try.prog 4) b k (Dm S n)) : Cnd (.map (some b)) (inS S n) w := fun W hW q hq => by
  have hlt := h.lt
  obtain ⟨es, clock, hb, F, hs, hD⟩ := h
  have hown : W.ownsMap Try.prog 9 (plainElem (H := Unit) Try.prog 4) b k (Dm S n) := ⟨es, clock, (hW.block b hlt).trans hb, F, hs, hD⟩
  obtain ⟨v, ps, hrun, hv⟩ := hown.lookup law Try.underlying44 (z := .bool false) (by kernel_rfl) (plainElem_bool Try.underlying4 false) (keyOf_string_mk Try.underlying9 hq)
  rw [Dm_at] at hv
  rw [hrun, plainBool_inv hv]
end Go.Proofs.Ytjfegbkbhbhcoaa.Yd
