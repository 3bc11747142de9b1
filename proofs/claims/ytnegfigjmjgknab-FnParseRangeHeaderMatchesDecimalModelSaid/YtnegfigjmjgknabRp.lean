/-
  Plain lemmas on decimal numbers: a text of digits as a number, digits compared place by place, the digits that the printer writes. No condition.
-/
import Derived.Test.YtnegfigjmjgknabIt
import Derived.Test.YtnegfigjmjgknabStr
namespace Go.Proofs.Ytnegfigjmjgknab.Rp
open Go.PlainAid Str It
/-- The bytes of a string, as integers. -/
def tl (t : ByteArray) : List Int := (List.range t.size).map (bt t)
theorem tl_len (t : ByteArray) : (tl t).length = t.size := by simp [tl]
theorem tl_get (t : ByteArray) (k : Nat) (h : k < t.size) : (tl t)[k]'(by rw [tl_len]; exact h) = bt t k := by simp [tl]
theorem tl_extract (t : ByteArray) (s : Nat) (hs : s ≤ t.size) : tl (t.extract s t.size) = (tl t).drop s := by
  refine List.ext_getElem (by rw [tl_len, List.length_drop, tl_len, size_extract]; omega) fun k h1 h2 => ?_
  rw [tl_len, size_extract] at h1
  rw [tl_get _ _ (by rw [size_extract]; exact h1), List.getElem_drop, tl_get _ _ (by omega), bt_extract _ _ _ _ (by omega)]
/-- A range number: digits alone, at least one, at most M. -/
def Rn (t : ByteArray) (M : Int) : Prop := 0 < t.size ∧ digs (tl t) ∧ valF 0 (tl t) ≤ M
theorem valF_lt (a : Int) (D : List Int) (hD : digs D) : valF a D < (a + 1) * 10 ^ D.length := by
  induction D generalizing a with
  | nil => simp [valF]; omega
  | cons d D ih =>
    have hd := hD d (by simp)
    have h2 := ih (a * 10 + (d - 48)) fun x hx => hD x (by simp [hx])
    rw [valF_cons]
    refine Int.lt_of_lt_of_le h2 ?_
    rw [List.length_cons, Int.pow_succ, Int.mul_comm (10 ^ D.length) 10, ← Int.mul_assoc]
    exact Int.mul_le_mul_of_nonneg_right (by omega) (Int.pow_nonneg (by omega))
theorem pow_mono {m n : Nat} (h : m ≤ n) : (10 : Int) ^ m ≤ 10 ^ n := by exact_mod_cast Nat.pow_le_pow_right (by omega : 0 < 10) h
/-- No leading zero, but for the one digit 0. -/
def Lead (D : List Int) : Prop := D.length ≤ 1 ∨ ∃ d r, D = d :: r ∧ 49 ≤ d
theorem Lead.ge {D : List Int} (h : Lead D) (hD : digs D) (hl : 2 ≤ D.length) : 10 ^ (D.length - 1) ≤ valF 0 D := by
  rcases h with h | ⟨d, r, rfl, hd⟩
  · omega
  · rw [valF_cons]
    have h1 := valF_ge (0 * 10 + (d - 48)) (by omega) r fun x hx => hD x (by simp [hx])
    have h2 : (1 : Int) * 10 ^ r.length ≤ (0 * 10 + (d - 48)) * 10 ^ r.length := Int.mul_le_mul_of_nonneg_right (by omega) (Int.pow_nonneg (by omega))
    simp only [List.length_cons, Nat.add_sub_cancel]
    omega
theorem longer {D N : List Int} (hD : digs D) (hN : digs N) (lD : Lead D) (hn : 0 < N.length) (h : N.length < D.length) : valF 0 N < valF 0 D := by
  have h1 := valF_lt 0 N hN
  have h2 := lD.ge hD (by omega)
  have h3 := pow_mono (show N.length ≤ D.length - 1 by omega)
  omega
theorem first_diff {D N : List Int} (hD : digs D) (hN : digs N) (hl : D.length = N.length) {i : Nat} (hi : i < D.length) (hp : D.take i = N.take i) (hd : D[i] < N[i]'(by omega)) : valF 0 D < valF 0 N := by
  have e1 : D = D.take i ++ D[i] :: D.drop (i + 1) := by rw [← List.drop_eq_getElem_cons hi, List.take_append_drop]
  have e2 : N = N.take i ++ N[i]'(by omega) :: N.drop (i + 1) := by rw [← List.drop_eq_getElem_cons (by omega), List.take_append_drop]
  have v1 : valF 0 D = valF (valF 0 (D.take i) * 10 + (D[i] - 48)) (D.drop (i + 1)) := by
    have h := congrArg (valF 0) e1
    rw [valF_append, valF_cons] at h
    exact h
  have v2 : valF 0 N = valF (valF 0 (D.take i) * 10 + (N[i]'(by omega) - 48)) (N.drop (i + 1)) := by
    have h := congrArg (valF 0) e2
    rw [valF_append, valF_cons, ← hp] at h
    exact h
  have dD : digs (D.drop (i + 1)) := fun x hx => hD x (List.mem_of_mem_drop hx)
  have dN : digs (N.drop (i + 1)) := fun x hx => hN x (List.mem_of_mem_drop hx)
  have p0 : 0 ≤ valF 0 (D.take i) := valF_mono 0 (by omega) _ fun x hx => hD x (List.mem_of_mem_take hx)
  have hNi := hN _ (List.getElem_mem (show i < N.length by omega))
  have l1 := valF_lt (valF 0 (D.take i) * 10 + (D[i] - 48)) _ dD
  have l2 := valF_ge (valF 0 (D.take i) * 10 + (N[i]'(by omega) - 48)) (by omega) _ dN
  have el : (D.drop (i + 1)).length = (N.drop (i + 1)).length := by rw [List.length_drop, List.length_drop, hl]
  rw [el] at l1
  have l3 : (valF 0 (D.take i) * 10 + (D[i] - 48) + 1) * 10 ^ (N.drop (i + 1)).length ≤ (valF 0 (D.take i) * 10 + (N[i]'(by omega) - 48)) * 10 ^ (N.drop (i + 1)).length :=
    Int.mul_le_mul_of_nonneg_right (by omega) (Int.pow_nonneg (by omega))
  omega
theorem zeros {D : List Int} {s : Nat} (hs : s ≤ D.length) (hz : ∀ j, j < s → (hj : j < D.length) → D[j] = 48) : valF 0 (D.drop s) = valF 0 D := by
  induction s with
  | zero => rw [List.drop_zero]
  | succ s ih =>
    rw [← ih (by omega) fun j hj h => hz j (by omega) h, List.drop_eq_getElem_cons (show s < D.length by omega), valF_cons, hz s (by omega) (by omega)]
    rfl
theorem valF_digsOf (m : Nat) (acc : List Int) : valF 0 (digsOf m acc) = valF m acc := by
  induction m using Nat.strongRecOn generalizing acc with
  | ind m ih =>
    rw [digsOf]
    by_cases h : m = 0
    · subst h; rfl
    · rw [if_neg h, ih (m / 10) (by omega), valF_cons]
      congr 1
      omega
theorem digs_digsOf (m : Nat) (acc : List Int) (h : digs acc) : digs (digsOf m acc) := by
  induction m using Nat.strongRecOn generalizing acc with
  | ind m ih =>
    rw [digsOf]
    by_cases h0 : m = 0
    · rw [if_pos h0]; exact h
    · rw [if_neg h0]
      refine ih (m / 10) (by omega) _ fun x hx => ?_
      rcases List.mem_cons.1 hx with rfl | hx
      · omega
      · exact h x hx
theorem lead_digsOf (m : Nat) (hm : 0 < m) (acc : List Int) : ∃ d r, digsOf m acc = d :: r ∧ 49 ≤ d := by
  induction m using Nat.strongRecOn generalizing acc with
  | ind m ih =>
    rw [digsOf, if_neg (by omega)]
    by_cases h : m / 10 = 0
    · rw [h, digsOf_zero]
      exact ⟨_, _, rfl, by omega⟩
    · exact ih (m / 10) (by omega) (by omega) _
theorem len_digsOf (m : Nat) (acc : List Int) : (digsOf m acc).length ≤ m + acc.length := by
  induction m using Nat.strongRecOn generalizing acc with
  | ind m ih =>
    rw [digsOf]
    by_cases h : m = 0
    · rw [if_pos h]; omega
    · rw [if_neg h]
      have := ih (m / 10) (by omega) ((48 + (m : Int) % 10) :: acc)
      simp only [List.length_cons] at this
      omega
theorem itD_facts (M : Int) (h : 0 ≤ M) : digs (itD M) ∧ Lead (itD M) ∧ valF 0 (itD M) = M ∧ 0 < (itD M).length ∧ ((itD M).length : Int) ≤ M + 1 := by
  by_cases h0 : M ≤ 0
  · obtain rfl : M = 0 := by omega
    rw [itD_zero h0]
    exact ⟨by intro d hd; simp at hd; omega, .inl (by simp), rfl, by simp, by simp⟩
  · rw [itD_pos (by omega)]
    obtain ⟨d, r, e, hd⟩ := lead_digsOf M.toNat (by omega) []
    refine ⟨digs_digsOf _ _ (by intro d hd; simp at hd), .inr ⟨d, r, e, hd⟩, ?_, by rw [e]; simp, ?_⟩
    · rw [valF_digsOf]
      show ((M.toNat : Nat) : Int) = M
      omega
    · have := len_digsOf M.toNat []
      simp only [List.length_nil] at this
      omega
theorem take_val (E : List Int) (k : Nat) (hk : k < E.length) : valF 0 (E.take (k + 1)) = valF 0 (E.take k) * 10 + (E[k] - 48) := by
  rw [List.take_succ_eq_append_getElem hk, valF_append]
  rfl
theorem take_digs {E : List Int} (hE : digs E) (k : Nat) : digs (E.take k) := fun d hd => hE d (List.mem_of_mem_take hd)
theorem take_le (E : List Int) (hE : digs E) (k : Nat) : valF 0 (E.take k) ≤ valF 0 E := by
  have h := valF_append 0 (E.take k) (E.drop k)
  rw [List.take_append_drop] at h
  rw [h]
  exact valF_mono _ (valF_mono 0 (by omega) _ (take_digs hE k)) _ (fun d hd => hE d (List.mem_of_mem_drop hd))
theorem take_digs_succ {t : ByteArray} {k : Nat} (hk : k < t.size) (h : digs ((tl t).take k)) (h1 : 48 ≤ bt t k) (h2 : bt t k ≤ 57) : digs ((tl t).take (k + 1)) := by
  rw [List.take_succ_eq_append_getElem (by rw [tl_len]; exact hk)]
  intro x hx
  rcases List.mem_append.1 hx with hx | hx
  · exact h x hx
  · simp only [List.mem_singleton] at hx
    rw [hx, tl_get t k hk]
    exact ⟨h1, h2⟩
theorem tl_val {t : ByteArray} {k : Nat} (hk : k < t.size) : valF 0 ((tl t).take (k + 1)) = valF 0 ((tl t).take k) * 10 + (bt t k - 48) := by
  rw [take_val _ _ (by rw [tl_len]; exact hk), tl_get t k hk]
theorem tl_take (t : ByteArray) : (tl t).take t.size = tl t := by rw [← tl_len, List.take_length]
theorem not_digs {t : ByteArray} {k : Nat} (hk : k < t.size) (h : bt t k < 48 ∨ 57 < bt t k) : ¬ digs (tl t) := fun hd => by
  have := hd _ (List.getElem_mem (show k < (tl t).length by rw [tl_len]; exact hk))
  rw [tl_get t k hk] at this
  omega
end Go.Proofs.Ytnegfigjmjgknab.Rp
