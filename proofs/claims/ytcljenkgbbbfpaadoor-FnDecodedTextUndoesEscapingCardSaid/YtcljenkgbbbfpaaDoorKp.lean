/-
  Plain mathematics of the law on DecodedText: a text of escapes and raw runes is decoded to the runes' encodings, at any place in a text, with or without the last space. No program in sight.
-/
import Derived.Test.YtcljenkgbbbfpaaDoorHp
import Derived.Test.YtcljenkgbbbfpaaDoorDx
namespace Go.Proofs.YtcljenkgbbbfpaaDoor.Kp
open Go.PlainAid Str De Df Dg Hp
set_option linter.unusedVariables false
/-- Is the i-th rune written raw? -/
def rawB (i : Nat) (c : Int) : Bool := decide (i % 2 = 1) && (decide (c ≠ 92) && !wsB c)
def pc (up : Bool) (i : Nat) (c : Int) : List Int := if rawB i c then Lib.encodeRuneZ c else piece up false true c
def E2 (up : Bool) (Z : Nat → Int) (k : Nat) : List Int := (List.range k).flatMap fun i => pc up i (Z i)
theorem E2_succ (up : Bool) (Z : Nat → Int) (k : Nat) : E2 up Z (k + 1) = E2 up Z k ++ pc up k (Z k) := by
  unfold E2; rw [List.range_succ, List.flatMap_append]; simp
def Vd (c : Int) : Prop := 1 ≤ c ∧ c ≤ 1114111 ∧ (c < 55296 ∨ 57343 < c)
theorem raw_parts {i : Nat} {c : Int} (h : rawB i c = true) : i % 2 = 1 ∧ c ≠ 92 ∧ wsB c = false := by
  unfold rawB at h; simp at h; exact ⟨h.1, h.2.1, h.2.2⟩
theorem enc_bytes {c : Int} (h0 : 0 ≤ c) : ∀ b ∈ Lib.encodeRuneZ c, (b = c ∧ c < 128) ∨ 128 ≤ b := by
  intro b hb
  unfold Lib.encodeRuneZ at hb
  split at hb
  · simp at hb; omega
  split at hb
  · simp at hb; omega
  split at hb
  · simp at hb; omega
  split at hb
  · simp at hb; omega
  · simp at hb; omega
theorem ws_not {c : Int} (h : wsB c = false) : c ≠ 10 ∧ c ≠ 12 ∧ c ≠ 13 ∧ c ≠ 32 ∧ c ≠ 9 := by
  unfold wsB at h; simp at h; omega
theorem ws_high {c : Int} (h : 128 ≤ c) : wsB c = false := by
  unfold wsB; simp; omega
theorem pc_range (up : Bool) (i : Nat) (c : Int) (h0 : 0 ≤ c) : ∀ b ∈ pc up i c, (0 ≤ b ∧ b < 256) ∧ b ≠ 10 ∧ b ≠ 12 ∧ b ≠ 13 := by
  intro b hb
  unfold pc at hb
  cases hr : rawB i c
  · rw [hr] at hb; exact piece_range _ _ _ _ b hb
  · rw [hr] at hb
    simp only [if_true] at hb
    have := Dx.enc_range c b hb
    have hw := ws_not (raw_parts hr).2.2
    rcases enc_bytes h0 b hb with ⟨rfl, _⟩ | h
    · exact ⟨this, hw.1, hw.2.1, hw.2.2.1⟩
    · omega
theorem pc_len (up : Bool) (i : Nat) (c : Int) (h : 1 ≤ c) : 1 ≤ (pc up i c).length ∧ (pc up i c).length ≤ 8 := by
  unfold pc
  split
  · have := enc_len c; omega
  · have := piece_len up false true c h
    unfold piece at this ⊢
    simp at this ⊢
    omega
theorem E2_range (up : Bool) (Z : Nat → Int) (k : Nat) (hZ : ∀ i, i < k → Vd (Z i)) : ∀ b ∈ E2 up Z k, (0 ≤ b ∧ b < 256) ∧ b ≠ 10 ∧ b ≠ 12 ∧ b ≠ 13 := by
  intro b hb
  unfold E2 at hb
  obtain ⟨i, hi, h⟩ := List.mem_flatMap.1 hb
  exact pc_range _ _ _ (by have := (hZ i (List.mem_range.1 hi)).1; omega) b h
theorem E2_len (up : Bool) (Z : Nat → Int) : ∀ k, (∀ i, i < k → Vd (Z i)) → k ≤ (E2 up Z k).length ∧ (E2 up Z k).length ≤ 8 * k
  | 0, _ => by simp [E2]
  | k + 1, h => by
    have := E2_len up Z k fun i hi => h i (by omega)
    have := pc_len up k (Z k) (h k (by omega)).1
    rw [E2_succ, List.length_append]; omega
theorem At.take {s : ByteArray} {o : Nat} {a b : List Int} (h : At s o (a ++ b)) : At s o a := h.left
theorem E2_at {s : ByteArray} {o : Nat} (up : Bool) (Z : Nat → Int) (m : Nat) (h : At s o (E2 up Z m)) : ∀ j k, k + j = m → At s o (E2 up Z k)
  | 0, k, e => by obtain rfl : k = m := by omega
                  exact h
  | j + 1, k, e => by
    have := E2_at up Z m h j (k + 1) (by omega)
    rw [E2_succ] at this
    exact this.left
theorem step2 {s : ByteArray} {o : Nat} (up : Bool) (Z : Nat → Int) (k : Nat) (h : At s o (E2 up Z (k + 1))) (hZ : Vd (Z k)) :
    D s (o + (E2 up Z k).length) = Lib.encodeRuneZ (Z k) ++ D s (o + (E2 up Z (k + 1)).length) := by
  have h1 := h
  rw [E2_succ] at h1
  have ha := h1.right
  have hl : (E2 up Z (k + 1)).length = (E2 up Z k).length + (pc up k (Z k)).length := by rw [E2_succ, List.length_append]
  rw [hl, ← Nat.add_assoc]
  unfold pc at ha ⊢
  cases hr : rawB k (Z k)
  · rw [hr] at ha
    simp only [Bool.false_eq_true, if_false] at ha ⊢
    have dl := digits_len up false (Z k) hZ.1
    unfold piece at ha ⊢
    rw [D_hex (H := digits up false (Z k)) (sp := [32]) ha (digits_hex _ _ _) dl.1 dl.2 (.inl rfl), digits_fold _ _ _ hZ.1 hZ.2.1, fixR_valid hZ.1 hZ.2.1 hZ.2.2]
    congr 2
    simp
    omega
  · rw [hr] at ha
    simp only [if_true] at ha ⊢
    exact D_raw (by have := hZ.1; omega) hZ.2.1 hZ.2.2 (raw_parts hr).2.1 ha
theorem whole2 {s : ByteArray} {o : Nat} (up : Bool) (Z : Nat → Int) (m : Nat) (h : At s o (E2 up Z m)) (hZ : ∀ i, i < m → Vd (Z i)) : ∀ j k, k + j = m → V Z k ++ D s (o + (E2 up Z k).length) = V Z m ++ D s (o + (E2 up Z m).length)
  | 0, k, e => by obtain rfl : k = m := by omega
                  rfl
  | j + 1, k, e => by
    rw [step2 up Z k (E2_at up Z m h j (k + 1) (by omega)) (hZ k (by omega)), ← List.append_assoc, ← V_succ]
    exact whole2 up Z m h hZ j (k + 1) (by omega)
/-- The whole text. -/
theorem decoded2 {s : ByteArray} {o : Nat} (up : Bool) (Z : Nat → Int) (m : Nat) (h : At s o (E2 up Z m)) (hs : s.size = o + (E2 up Z m).length) (hZ : ∀ i, i < m → Vd (Z i)) : D s o = V Z m := by
  have := whole2 up Z m h hZ m 0 (by omega)
  rw [D_end (i := o + (E2 up Z m).length) (by omega), List.append_nil] at this
  simpa [E2, V] using this
/-- The text without its last space. -/
def E3 (up : Bool) (Z : Nat → Int) (m : Nat) : List Int := E2 up Z m ++ (92 :: digits up false (Z m))
theorem decoded3 {s : ByteArray} {o : Nat} (up : Bool) (Z : Nat → Int) (m : Nat) (h : At s o (E3 up Z m)) (hs : s.size = o + (E3 up Z m).length) (hZ : ∀ i, i < m + 1 → Vd (Z i)) : D s o = V Z (m + 1) := by
  have h1 := At.left (a := E2 up Z m) h
  have h2 := At.right (a := E2 up Z m) h
  have hw := whole2 up Z m h1 (fun i hi => hZ i (by omega)) m 0 (by omega)
  have hv := hZ m (by omega)
  have dl := digits_len up false (Z m) hv.1
  have hsz : s.size = o + (E2 up Z m).length + 1 + (digits up false (Z m)).length := by
    rw [hs]; unfold E3; simp; omega
  have hd : D s (o + (E2 up Z m).length) = Lib.encodeRuneZ (Z m) := by
    rw [D_hex (i := o + (E2 up Z m).length) (H := digits up false (Z m)) (sp := []) (by simpa using h2) (digits_hex _ _ _) dl.1 dl.2 (.inr ⟨rfl, fun hlt => by omega⟩), digits_fold _ _ _ hv.1 hv.2.1, fixR_valid hv.1 hv.2.1 hv.2.2, D_end (by simp; omega), List.append_nil]
  rw [hd, ← V_succ] at hw
  simpa [E2, V] using hw
theorem E2_head {s : ByteArray} {o : Nat} (up : Bool) (Z : Nat → Int) (m : Nat) (hm : 0 < m) (h : At s o (E2 up Z m)) : bt s o = 92 := by
  have := E2_at up Z m h (m - 1) 1 (by omega)
  rw [E2_succ] at this
  have h0 : E2 up Z 0 = [] := rfl
  rw [h0, List.nil_append] at this
  unfold pc at this
  have hr : rawB 0 (Z 0) = false := by unfold rawB; simp
  rw [hr] at this
  simp only [Bool.false_eq_true, if_false] at this
  unfold piece at this
  exact this.head.2
/-- The last piece is raw: its last byte is no white space. -/
theorem last_raw (up : Bool) (Z : Nat → Int) (m : Nat) (hZ : Vd (Z m)) (hr : rawB m (Z m) = true) : ∃ a b, E2 up Z (m + 1) = a ++ [b] ∧ wsB b = false := by
  have hl := (enc_len (Z m)).1
  obtain ⟨l, b, e⟩ : ∃ l b, Lib.encodeRuneZ (Z m) = l ++ [b] := by
    rcases List.eq_nil_or_concat (Lib.encodeRuneZ (Z m)) with h | ⟨l, b, h⟩
    · rw [h] at hl; simp at hl
    · exact ⟨l, b, by simpa using h⟩
  refine ⟨E2 up Z m ++ l, b, ?_, ?_⟩
  · rw [E2_succ]; unfold pc; rw [hr]; simp [e]
  · have hb : b ∈ Lib.encodeRuneZ (Z m) := by rw [e]; simp
    rcases enc_bytes (by have := hZ.1; omega) b hb with ⟨rfl, _⟩ | h
    · exact (raw_parts hr).2.2
    · exact ws_high h
/-- The last piece is an escape: a space behind a digit. -/
theorem last_esc (up : Bool) (Z : Nat → Int) (m : Nat) (hZ : Vd (Z m)) (hr : rawB m (Z m) = false) : E2 up Z (m + 1) = E3 up Z m ++ [32] ∧ ∃ a b, E3 up Z m = a ++ [b] ∧ wsB b = false := by
  refine ⟨?_, ?_⟩
  · rw [E2_succ]; unfold pc piece E3; rw [hr]; simp
  · have hl := (digits_len up false (Z m) hZ.1).1
    rcases List.eq_nil_or_concat (digits up false (Z m)) with h | ⟨l, b, h⟩
    · rw [h] at hl; simp at hl
    · have h' : digits up false (Z m) = l ++ [b] := by simpa using h
      refine ⟨E2 up Z m ++ (92 :: l), b, by unfold E3; simp [h'], ?_⟩
      have := hexV_asc (digits_hex up false (Z m) b (by rw [h']; simp))
      unfold wsB; simp; omega
end Go.Proofs.YtcljenkgbbbfpaaDoor.Kp
