/-
  Plain mathematics of the law on hexadecimal escaping: the text of escapes is decoded to the runes' encodings. No program in sight.
-/
import Derived.Test.YtcljenkgbbbfpaaDoorDg
import Derived.Laws.BytesArg
namespace Go.Proofs.YtcljenkgbbbfpaaDoor.Hp
open Go.PlainAid Str De Df Dg
set_option linter.unusedVariables false
theorem bt_nums {l : List Int} (hr : ∀ c ∈ l, 0 ≤ c ∧ c < 256) (j : Nat) (h : j < l.length) : bt (strOfNums l) j = l[j] := by
  rw [bt_list, strOfNums_data, List.getD_eq_getElem?_getD, List.getElem?_map, List.getElem?_eq_getElem h]
  have := hr l[j] (List.getElem_mem h)
  simp only [Option.map_some, Option.getD_some]
  rw [UInt8.toNat_ofNat']; omega
theorem at_nums {l a b c : List Int} (hr : ∀ c ∈ l, 0 ≤ c ∧ c < 256) (e : l = a ++ (b ++ c)) : At (strOfNums l) a.length b := by
  refine ⟨by rw [strOfNums_size, e]; simp, fun j hj => ?_⟩
  have hl : a.length + j < l.length := by rw [e]; simp; omega
  rw [bt_nums hr _ hl]
  subst e
  rw [List.getElem_append_right (by omega)]
  simp only [Nat.add_sub_cancel_left]
  rw [List.getElem_append_left hj]
/-- The digits of v: its case, padded or not. -/
def digits (up pad : Bool) (v : Int) : List Int := (if pad then List.replicate (6 - (dl up 6 v).length) 48 else []) ++ (dl up 6 v).reverse
def piece (up pad sp : Bool) (v : Int) : List Int := 92 :: (digits up pad v ++ (if sp then [32] else []))
theorem dl_pos (up : Bool) (v : Int) (h : 1 ≤ v) : 1 ≤ (dl up 6 v).length := by
  unfold dl; rw [if_pos (by omega)]; simp
theorem digits_len (up pad : Bool) (v : Int) (h : 1 ≤ v) : 1 ≤ (digits up pad v).length ∧ (digits up pad v).length ≤ 6 := by
  have a := dl_len up 6 v
  have b := dl_pos up v h
  unfold digits
  cases pad
  · simp; omega
  · simp; omega
theorem digits_hex (up pad : Bool) (v : Int) : ∀ c ∈ digits up pad v, 0 ≤ hexV c := by
  intro c hc
  unfold digits at hc
  rcases List.mem_append.1 hc with h | h
  · cases pad
    · simp at h
    · have := (List.mem_replicate.1 h).2
      subst this; decide
  · exact dl_hex up 6 v c (List.mem_reverse.1 h)
theorem digits_fold (up pad : Bool) (v : Int) (h0 : 1 ≤ v) (h1 : v ≤ 1114111) : fold 0 (digits up pad v) = v := by
  have e := fold_dl up 6 v (by omega) (by have : (16 : Int) ^ 6 = 16777216 := by decide
                                          omega)
  unfold digits
  cases pad
  · exact e
  · exact (fold_zeros _ _).trans e
theorem piece_range (up pad sp : Bool) (v : Int) : ∀ c ∈ piece up pad sp v, (0 ≤ c ∧ c < 256) ∧ c ≠ 10 ∧ c ≠ 12 ∧ c ≠ 13 := by
  intro c hc
  unfold piece at hc
  rcases List.mem_cons.1 hc with rfl | hc
  · decide
  rcases List.mem_append.1 hc with h | h
  · have := hexV_asc (digits_hex up pad v c h); omega
  · cases sp
    · simp at h
    · simp at h; subst h; decide
theorem piece_len (up pad sp : Bool) (v : Int) (h : 1 ≤ v) : (piece up pad sp v).length ≤ 8 := by
  have := digits_len up pad v h
  unfold piece
  cases sp
  · simp; omega
  · simp; omega
/-- The escaped text of the first k values, and the text wanted. -/
def E (U P S : Nat → Bool) (Z : Nat → Int) (k : Nat) : List Int := (List.range k).flatMap fun i => piece (U i) (P i) (S i) (Z i)
def V (Z : Nat → Int) (k : Nat) : List Int := (List.range k).flatMap fun i => Lib.encodeRuneZ (Z i)
theorem E_succ (U P S : Nat → Bool) (Z : Nat → Int) (k : Nat) : E U P S Z (k + 1) = E U P S Z k ++ piece (U k) (P k) (S k) (Z k) := by
  unfold E; rw [List.range_succ, List.flatMap_append]; simp
theorem V_succ (Z : Nat → Int) (k : Nat) : V Z (k + 1) = V Z k ++ Lib.encodeRuneZ (Z k) := by
  unfold V; rw [List.range_succ, List.flatMap_append]; simp
theorem E_range (U P S : Nat → Bool) (Z : Nat → Int) (k : Nat) : ∀ c ∈ E U P S Z k, (0 ≤ c ∧ c < 256) ∧ c ≠ 10 ∧ c ≠ 12 ∧ c ≠ 13 := by
  intro c hc
  unfold E at hc
  obtain ⟨i, _, h⟩ := List.mem_flatMap.1 hc
  exact piece_range _ _ _ _ c h
theorem E_len (U P S : Nat → Bool) (Z : Nat → Int) : ∀ k, (∀ i, i < k → 1 ≤ Z i) → (E U P S Z k).length ≤ 8 * k
  | 0, _ => by simp [E]
  | k + 1, h => by
    have := E_len U P S Z k fun i hi => h i (by omega)
    have := piece_len (U k) (P k) (S k) (Z k) (h k (by omega))
    rw [E_succ, List.length_append]; omega
theorem V_len (Z : Nat → Int) : ∀ k, (V Z k).length ≤ 4 * k
  | 0 => by simp [V]
  | k + 1 => by
    have := V_len Z k
    have := (enc_len (Z k)).2
    rw [V_succ, List.length_append]; omega
/-- What stands behind the first k pieces. -/
theorem E_rest (U P S : Nat → Bool) (Z : Nat → Int) (k : Nat) : ∀ m, ∃ rest, E U P S Z (k + m) = E U P S Z k ++ rest ∧ (m = 0 → rest = []) ∧ (0 < m → ∃ t, rest = 92 :: t)
  | 0 => ⟨[], by simp, fun _ => rfl, fun h => absurd h (by omega)⟩
  | m + 1 => by
    obtain ⟨rest, e, h0, h1⟩ := E_rest U P S Z k m
    refine ⟨rest ++ piece (U (k + m)) (P (k + m)) (S (k + m)) (Z (k + m)), ?_, fun h => absurd h (by omega), fun _ => ?_⟩
    · rw [show k + (m + 1) = k + m + 1 by omega, E_succ, e, List.append_assoc]
    · by_cases hm : m = 0
      · rw [h0 hm]; exact ⟨_, rfl⟩
      · obtain ⟨t, ht⟩ := h1 (by omega)
        rw [ht]; exact ⟨_, rfl⟩
theorem step (U P S : Nat → Bool) (Z : Nat → Int) (n k : Nat) (hk : k < n) (hZ : 1 ≤ Z k ∧ Z k ≤ 1114111 ∧ (Z k < 55296 ∨ 57343 < Z k)) :
    D (strOfNums (E U P S Z n)) (E U P S Z k).length = Lib.encodeRuneZ (Z k) ++ D (strOfNums (E U P S Z n)) (E U P S Z (k + 1)).length := by
  obtain ⟨rest, e, h0, h1⟩ := E_rest U P S Z (k + 1) (n - (k + 1))
  rw [show k + 1 + (n - (k + 1)) = n by omega] at e
  have hr : ∀ c ∈ E U P S Z n, 0 ≤ c ∧ c < 256 := fun c hc => (E_range U P S Z n c hc).1
  have ha : At (strOfNums (E U P S Z n)) (E U P S Z k).length (piece (U k) (P k) (S k) (Z k)) := at_nums hr (c := rest) (by rw [e, E_succ, List.append_assoc])
  have hrest : At (strOfNums (E U P S Z n)) (E U P S Z (k + 1)).length rest := at_nums hr (c := []) (by rw [e, List.append_nil])
  have hsz : (strOfNums (E U P S Z n)).size = (E U P S Z (k + 1)).length + rest.length := by rw [strOfNums_size, e, List.length_append]
  have hlen : (E U P S Z (k + 1)).length = (E U P S Z k).length + 1 + (digits (U k) (P k) (Z k)).length + (if S k then [32] else [] : List Int).length := by
    rw [E_succ, List.length_append]; unfold piece; simp; omega
  have dl := digits_len (U k) (P k) (Z k) hZ.1
  rw [D_hex (H := digits (U k) (P k) (Z k)) (sp := if S k then [32] else []) ha (digits_hex _ _ _) dl.1 dl.2 ?_, digits_fold _ _ _ hZ.1 hZ.2.1, fixR_valid hZ.1 hZ.2.1 hZ.2.2, ← hlen]
  cases hS : S k
  · refine .inr ⟨rfl, fun hlt => ?_⟩
    rw [hS] at hlen
    have hlen' : (E U P S Z (k + 1)).length = (E U P S Z k).length + 1 + (digits (U k) (P k) (Z k)).length := by simpa using hlen
    rw [← hlen'] at hlt ⊢
    have hpos : 0 < n - (k + 1) := by
      by_cases h : n - (k + 1) = 0
      · rw [h0 h] at hsz; simp at hsz; omega
      · omega
    obtain ⟨t, ht⟩ := h1 hpos
    rw [ht] at hrest
    rw [hrest.head.2]
    decide
  · exact .inl rfl
theorem whole (U P S : Nat → Bool) (Z : Nat → Int) (n : Nat) (hZ : ∀ i, i < n → 1 ≤ Z i ∧ Z i ≤ 1114111 ∧ (Z i < 55296 ∨ 57343 < Z i)) : ∀ m k, k + m = n → V Z k ++ D (strOfNums (E U P S Z n)) (E U P S Z k).length = V Z n
  | 0, k, h => by
    obtain rfl : k = n := by omega
    rw [D_end (by rw [strOfNums_size]; exact Nat.le_refl _), List.append_nil]
  | m + 1, k, h => by
    rw [step U P S Z n k (by omega) (hZ k (by omega)), ← List.append_assoc, ← V_succ]
    exact whole U P S Z n hZ m (k + 1) (by omega)
theorem decoded (U P S : Nat → Bool) (Z : Nat → Int) (n : Nat) (hZ : ∀ i, i < n → 1 ≤ Z i ∧ Z i ≤ 1114111 ∧ (Z i < 55296 ∨ 57343 < Z i)) : D (strOfNums (E U P S Z n)) 0 = V Z n := by
  have := whole U P S Z n hZ n 0 (by omega)
  simpa [E, V] using this
theorem of_nums {l : List UInt8} {v : List Int} (h : l.map (fun b => (b.toNat : Int)) = v) : (⟨l.toArray⟩ : ByteArray) = strOfNums v := by
  subst h
  unfold strOfNums
  rw [List.map_map]
  congr 1
  congr 1
  induction l with
  | nil => rfl
  | cons a l ih =>
    rw [List.map_cons, ← ih]
    congr 1
    simp
end Go.Proofs.YtcljenkgbbbfpaaDoor.Hp
