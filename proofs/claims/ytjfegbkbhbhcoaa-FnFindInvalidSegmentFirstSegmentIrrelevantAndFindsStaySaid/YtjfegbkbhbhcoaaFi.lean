/-
  Plain lemmas on the search for an invalid segment, over lists of bytes. Proved: the first segment does not matter, a find stays. No condition.
-/
import Derived.Lib.IndexAny
namespace Go.Proofs.Ytjfegbkbhbhcoaa.Fi
def isSep (c : UInt8) : Bool := c == 47 || c == 92
def nodeM : List UInt8 := [110, 111, 100, 101, 95, 109, 111, 100, 117, 108, 101, 115]
def bad (l : List UInt8) : Bool := l == [46] || l == [46, 46] || l == nodeM
/-- The first bad segment; acc is what has been read of the segment at hand. -/
def fb (acc : List UInt8) : List UInt8 → List UInt8
  | [] => if bad acc then acc else []
  | c :: cs => if isSep c then (if bad acc then acc else fb [] cs) else fb (acc ++ [c]) cs
def fis : List UInt8 → List UInt8
  | [] => []
  | c :: cs => if isSep c then fb [] cs else fis cs
theorem fb_seg (xs : List UInt8) (hx : ∀ c ∈ xs, isSep c = false) (acc : List UInt8) (c : UInt8) (hc : isSep c = true) (ys : List UInt8) : fb acc (xs ++ c :: ys) = if bad (acc ++ xs) then acc ++ xs else fb [] ys := by
  induction xs generalizing acc with
  | nil => simp [fb, hc]
  | cons x xs ih =>
    have h1 := hx x (by simp)
    rw [List.cons_append, fb, h1]
    simp only [Bool.false_eq_true, if_false]
    rw [ih (fun c h => hx c (by simp [h]))]
    simp
theorem fb_last (xs : List UInt8) (hx : ∀ c ∈ xs, isSep c = false) (acc : List UInt8) : fb acc xs = if bad (acc ++ xs) then acc ++ xs else [] := by
  induction xs generalizing acc with
  | nil => simp [fb]
  | cons x xs ih =>
    have h1 := hx x (by simp)
    rw [fb, h1]
    simp only [Bool.false_eq_true, if_false]
    rw [ih (fun c h => hx c (by simp [h]))]
    simp
theorem fis_seg (xs : List UInt8) (hx : ∀ c ∈ xs, isSep c = false) (c : UInt8) (hc : isSep c = true) (ys : List UInt8) : fis (xs ++ c :: ys) = fb [] ys := by
  induction xs with
  | nil => simp [fis, hc]
  | cons x xs ih =>
    rw [List.cons_append, fis, hx x (by simp)]
    simp only [Bool.false_eq_true, if_false]
    exact ih fun c h => hx c (by simp [h])
theorem fis_none (xs : List UInt8) (hx : ∀ c ∈ xs, isSep c = false) : fis xs = [] := by
  induction xs with
  | nil => rfl
  | cons x xs ih =>
    rw [fis, hx x (by simp)]
    simp only [Bool.false_eq_true, if_false]
    exact ih fun c h => hx c (by simp [h])
theorem fb_bad (p : List UInt8) : ∀ acc, fb acc p = [] ∨ bad (fb acc p) = true := by
  induction p with
  | nil => intro acc; unfold fb; by_cases h : bad acc = true <;> simp [h]
  | cons c p ih =>
    intro acc
    unfold fb
    by_cases hc : isSep c = true
    · rw [if_pos hc]
      by_cases h : bad acc = true
      · simp [h]
      · rw [if_neg h]; exact ih []
    · rw [if_neg hc]; exact ih _
theorem fb_stays (p : List UInt8) (c : UInt8) (hc : isSep c = true) (more : List UInt8) : ∀ acc, fb acc p ≠ [] → fb acc (p ++ c :: more) = fb acc p := by
  induction p with
  | nil =>
    intro acc h
    unfold fb at h
    by_cases hb : bad acc = true
    · simp [fb, hc, hb]
    · rw [if_neg hb] at h; exact absurd rfl h
  | cons x p ih =>
    intro acc h
    rw [List.cons_append]
    unfold fb at h ⊢
    by_cases hx : isSep x = true
    · rw [if_pos hx] at h ⊢
      rw [if_pos hx]
      by_cases hb : bad acc = true
      · rw [if_pos hb, if_pos hb]
      · rw [if_neg hb] at h ⊢
        rw [if_neg hb]
        exact ih [] h
    · rw [if_neg hx] at h ⊢
      rw [if_neg hx]
      exact ih _ h
/-- How the library's index answers: no separator, or the first one. -/
def chars : List UInt8 := [47, 92]
theorem chars_sep (c : UInt8) : chars.contains c = isSep c := by
  unfold chars isSep
  simp only [List.contains_cons, List.contains_nil, Bool.or_false]
theorem idx_ways (s : List UInt8) : (Lib.indexAny s chars = -1 ∧ ∀ c ∈ s, isSep c = false) ∨ ∃ d : Nat, ∃ c, d < s.length ∧ Lib.indexAny s chars = d ∧ isSep c = true ∧ s = s.take d ++ c :: s.drop (d + 1) ∧ ∀ x ∈ s.take d, isSep x = false := by
  induction s with
  | nil => exact .inl ⟨rfl, by simp⟩
  | cons b s ih =>
    by_cases hb : isSep b = true
    · refine .inr ⟨0, b, by simp, ?_, hb, by simp, by simp⟩
      rw [Lib.indexAny, if_pos (by rw [chars_sep]; exact hb)]
      rfl
    · have hb' : isSep b = false := by simpa using hb
      rcases ih with ⟨h1, h2⟩ | ⟨d, c, hd, hi, hc, he, hx⟩
      · refine .inl ⟨?_, fun c hc => ?_⟩
        · rw [Lib.indexAny, if_neg (by rw [chars_sep]; exact hb), h1]; rfl
        · rcases List.mem_cons.1 hc with rfl | hc
          · exact hb'
          · exact h2 c hc
      · refine .inr ⟨d + 1, c, by simp; omega, ?_, hc, ?_, ?_⟩
        · rw [Lib.indexAny, if_neg (by rw [chars_sep]; exact hb), hi, if_neg (fun h => by have := beq_iff_eq.1 h; omega)]
          push_cast; rfl
        · simp only [List.take_succ_cons, List.drop_succ_cons, List.cons_append]
          rw [← he]
        · intro x hx'
          simp only [List.take_succ_cons] at hx'
          rcases List.mem_cons.1 hx' with rfl | hx'
          · exact hb'
          · exact hx x hx'
end Go.Proofs.Ytjfegbkbhbhcoaa.Fi
