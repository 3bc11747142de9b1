/-
  Plain mathematics of decodeEscapesInToken on texts written as escapes and raw runes: each piece gives its rune back. No program in sight.
-/
import Derived.Test.YtcljenkgbbbfpaaDoorDe
namespace Go.Proofs.YtcljenkgbbbfpaaDoor.Df
open Go.PlainAid Str De
set_option linter.unusedVariables false
/-- The bytes of s from i on begin with l. -/
def At (s : ByteArray) (i : Nat) (l : List Int) : Prop := i + l.length ≤ s.size ∧ ∀ j (h : j < l.length), bt s (i + j) = l[j]
theorem At.left {s : ByteArray} {i : Nat} {a b : List Int} (h : At s i (a ++ b)) : At s i a := by
  refine ⟨by have := h.1; rw [List.length_append] at this; omega, fun j hj => ?_⟩
  rw [h.2 j (by rw [List.length_append]; omega), List.getElem_append_left hj]
theorem At.right {s : ByteArray} {i : Nat} {a b : List Int} (h : At s i (a ++ b)) : At s (i + a.length) b := by
  refine ⟨by have := h.1; rw [List.length_append] at this; omega, fun j hj => ?_⟩
  rw [Nat.add_assoc, h.2 (a.length + j) (by rw [List.length_append]; omega), List.getElem_append_right (by omega)]
  congr 1; omega
theorem At.head {s : ByteArray} {i : Nat} {a : Int} {l : List Int} (h : At s i (a :: l)) : i < s.size ∧ bt s i = a := by
  refine ⟨by have := h.1; rw [List.length_cons] at this; omega, ?_⟩
  have := h.2 0 (by simp)
  simpa using this
theorem At.tail {s : ByteArray} {i : Nat} {a : Int} {l : List Int} (h : At s i (a :: l)) : At s (i + 1) l := by
  refine ⟨by have := h.1; rw [List.length_cons] at this; omega, fun j hj => ?_⟩
  have := h.2 (j + 1) (by simp; omega)
  rw [show i + 1 + j = i + (j + 1) by omega, this]; rfl
theorem At.nil {s : ByteArray} {i : Nat} (h : i ≤ s.size) : At s i [] := ⟨by simpa using h, fun j hj => by simp at hj⟩
theorem At.cut {s : ByteArray} {i : Nat} {l : List Int} (h : At s i l) {a b : Nat} (hab : a ≤ i) (hb : i + l.length ≤ b) (hbs : b ≤ s.size) : At (s.extract a b) (i - a) l := by
  refine ⟨by rw [size_extract]; omega, fun j hj => ?_⟩
  rw [bt_extract _ _ _ _ (by omega), show a + (i - a + j) = i + j by omega]
  exact h.2 j hj
def fold (h : Int) (l : List Int) : Int := l.foldl (fun a c => a * 16 + hexV c) h
theorem fold_cons (h c : Int) (l : List Int) : fold h (c :: l) = fold (h * 16 + hexV c) l := rfl
/-- Is there no digit at i? -/
def Stop (s : ByteArray) (i : Nat) : Prop := i < s.size → hexV (bt s i) < 0
theorem rc_hex {s : ByteArray} {i : Nat} (h : i < s.size) : 0 ≤ hexV (rc s i) ↔ 0 ≤ hexV (bt s i) := by
  by_cases ha : bt s i < 128
  · rw [(rd_asc h ha).1]
  · have hh := rd_high h (by omega)
    constructor
    · intro h1; have := hexV_asc h1; omega
    · intro h1; have := hexV_asc h1; omega
theorem hexRun_stop {s : ByteArray} {n i : Nat} {h : Int} (hs : Stop s i) : hexRun s n i h = (i, h) := by
  cases n with
  | zero => rfl
  | succ n =>
    unfold hexRun
    rw [if_neg]
    rintro ⟨h1, h2⟩
    have := (rc_hex h1).1 h2
    have := hs h1
    omega
theorem hexRun_at {s : ByteArray} : ∀ (l : List Int) (n i : Nat) (h : Int), At s i l → (∀ c ∈ l, 0 ≤ hexV c) → l.length ≤ n → (l.length = n ∨ Stop s (i + l.length)) → hexRun s n i h = (i + l.length, fold h l)
  | [], n, i, h, ha, hx, hn, hst => by
    rcases hst with e | e
    · simp at e; subst e; rfl
    · exact hexRun_stop (by simpa using e)
  | c :: l, n, i, h, ha, hx, hn, hst => by
    obtain ⟨h1, h2⟩ := ha.head
    have hc := hx c (by simp)
    have hca := hexV_asc hc
    obtain ⟨r1, r2⟩ := rd_asc h1 (by omega)
    cases n with
    | zero => simp at hn
    | succ n =>
      unfold hexRun
      rw [r1, r2, h2, if_pos ⟨h1, hc⟩, hexRun_at l n (i + 1) _ ha.tail (fun x hx' => hx x (by simp [hx'])) (by simpa using hn) (hst.elim (fun e => .inl (by simpa using e)) (fun e => .inr (by rw [List.length_cons] at e; rw [show i + 1 + l.length = i + (l.length + 1) by omega]; exact e))), fold_cons, List.length_cons]
      congr 1; omega
/-- An escape: a backslash, one to six digits, perhaps a space; without it no digit and no white space follows. -/
theorem D_esc {s : ByteArray} {i : Nat} {c : Int} {l sp : List Int} (ha : At s i (92 :: c :: l ++ sp)) (hc : 0 ≤ hexV c) (hx : ∀ c ∈ l, 0 ≤ hexV c) (hl : l.length ≤ 5)
    (hsp : sp = [32] ∨ (sp = [] ∧ (i + 2 + l.length < s.size → hexV (bt s (i + 2 + l.length)) < 0 ∧ wsB (bt s (i + 2 + l.length)) = false ∧ bt s (i + 2 + l.length) < 128))) :
    D s i = Lib.encodeRuneZ (fixR (fold (hexV c) l)) ++ D s (i + 2 + l.length + sp.length) := by
  have a1 := At.left (a := 92 :: c :: l) (b := sp) ha
  have a2 := At.right (a := 92 :: c :: l) (b := sp) ha
  obtain ⟨h1, h2⟩ := a1.head
  obtain ⟨h3, h4⟩ := a1.tail.head
  have hca := hexV_asc hc
  obtain ⟨r1, r2⟩ := rd_asc h1 (by omega)
  obtain ⟨r3, r4⟩ := rd_asc h3 (by omega)
  have al := a1.tail.tail
  have hst : Stop s (i + 1 + 1 + l.length) := by
    intro hlt
    rcases hsp with rfl | ⟨rfl, he⟩
    · have := a2.head.2
      rw [List.length_cons, List.length_cons] at this
      rw [show i + 1 + 1 + l.length = i + (l.length + 1 + 1) by omega, this]
      decide
    · have := he (by omega)
      rw [show i + 1 + 1 + l.length = i + 2 + l.length by omega]; exact this.1
  have hr := hexRun_at l 5 (i + 1 + 1) (hexV c) al hx hl (.inr hst)
  have hk : skipWs s (i + 1 + 1 + l.length) = i + 2 + l.length + sp.length := by
    unfold skipWs
    rcases hsp with rfl | ⟨rfl, he⟩
    · have := a2.head
      rw [List.length_cons, List.length_cons] at this
      rw [show i + (l.length + 1 + 1) = i + 1 + 1 + l.length by omega] at this
      obtain ⟨q1, q2⟩ := rd_asc this.1 (by omega)
      rw [q1, q2, this.2, if_pos ⟨this.1, rfl⟩, List.length_cons, List.length_nil]
    · rw [if_neg]
      · simp
      · rintro ⟨q1, q2⟩
        have := he (by omega)
        rw [show i + 2 + l.length = i + 1 + 1 + l.length by omega] at this
        rw [(rd_asc q1 this.2.2).1, this.2.1] at q2
        cases q2
  rw [D_step h1]
  have e : stepD s i = (i + 2 + l.length + sp.length, fixR (fold (hexV c) l)) := by
    unfold stepD
    rw [r1, r2, h2, if_pos rfl, if_pos h3, r3, h4, if_pos hc, r4, hr, hk]
  rw [e]
/-- A raw rune. -/
theorem rd_raw {s : ByteArray} {i : Nat} {c : Int} (h0 : 0 ≤ c) (h1 : c ≤ 1114111) (hs : c < 55296 ∨ 57343 < c) (ha : At s i (Lib.encodeRuneZ c)) : rc s i = c ∧ rw' s i = (Lib.encodeRuneZ c).length := by
  have gb : ∀ j, (s.get! j).toNat = (bt s j).toNat := by
    intro j
    by_cases h : j < s.size
    · rw [bt_get s j h]
      have : s.get! j = s[j]'h := by
        show s.data[j]! = _
        rw [getElem!_pos s.data j (by simpa using h)]
        rfl
      rw [this]; omega
    · rw [bt_end s (by omega)]
      have : s.get! j = 0 := by
        show s.data[j]! = _
        rw [getElem!_neg s.data j (by simpa using h)]
        rfl
      rw [this]; rfl
  have hlen := ha.1
  have hi : i < s.size := by have := (enc_len c).1; omega
  unfold rc rw'
  rw [rd_at hi, Lib.decode_at, gb, gb, gb, gb]
  unfold Lib.decodeN
  by_cases c1 : c ≤ 127
  · rw [Lib.encodeRuneZ_one h0 c1] at ha ⊢
    have b0 := ha.head.2
    rw [if_pos (by omega)]
    exact ⟨by simp only []; omega, rfl⟩
  by_cases c2 : c ≤ 2047
  · have e := Lib.encodeRuneZ_two (r := c) (by omega) c2
    rw [e] at ha hlen ⊢
    have b0 := ha.head.2
    have b1 := ha.tail.head.2
    simp only [List.length_cons, List.length_nil] at hlen
    rw [if_neg (by omega), if_pos (by omega), if_pos (by omega)]
    exact ⟨by simp only []; omega, rfl⟩
  by_cases c3 : c ≤ 65535
  · have e := Lib.encodeRuneZ_three (r := c) (by omega)
    rw [e] at ha hlen ⊢
    have b0 := ha.head.2
    have b1 := ha.tail.head.2
    have b2 : bt s (i + 2) = 128 + c % 64 := ha.tail.tail.head.2
    simp only [List.length_cons, List.length_nil] at hlen
    rw [if_neg (by omega), if_neg (by omega), if_pos (by refine ⟨?_, ⟨?_, ?_⟩, ?_, ?_⟩ <;> omega), if_pos (by refine ⟨?_, ?_⟩ <;> omega)]
    exact ⟨by simp only []; omega, rfl⟩
  · have e : Lib.encodeRuneZ c = [240 + c / 262144, 128 + c / 4096 % 64, 128 + c / 64 % 64, 128 + c % 64] := by
      unfold Lib.encodeRuneZ
      rw [if_neg (by omega), if_neg (by omega), if_neg (by omega), if_pos (by omega)]
    rw [e] at ha hlen ⊢
    have b0 := ha.head.2
    have b1 := ha.tail.head.2
    have b2 : bt s (i + 2) = 128 + c / 64 % 64 := ha.tail.tail.head.2
    have b3 : bt s (i + 3) = 128 + c % 64 := ha.tail.tail.tail.head.2
    simp only [List.length_cons, List.length_nil] at hlen
    rw [if_neg (by omega), if_neg (by omega), if_neg (by omega), if_pos (by refine ⟨?_, ⟨?_, ?_⟩, ⟨?_, ?_⟩, ?_, ?_⟩ <;> omega), if_pos (by refine ⟨?_, ?_⟩ <;> omega)]
    exact ⟨by simp only []; omega, rfl⟩
theorem D_raw {s : ByteArray} {i : Nat} {c : Int} (h0 : 0 < c) (h1 : c ≤ 1114111) (hs : c < 55296 ∨ 57343 < c) (h92 : c ≠ 92) (ha : At s i (Lib.encodeRuneZ c)) : D s i = Lib.encodeRuneZ c ++ D s (i + (Lib.encodeRuneZ c).length) := by
  obtain ⟨r1, r2⟩ := rd_raw (by omega) h1 hs ha
  have hi : i < s.size := by have := (enc_len c).1; have := ha.1; omega
  rw [D_step hi]
  have e : stepD s i = (i + (Lib.encodeRuneZ c).length, c) := by
    unfold stepD
    rw [r1, r2, if_neg h92, if_neg (by omega)]
  rw [e]
end Go.Proofs.YtcljenkgbbbfpaaDoor.Df
