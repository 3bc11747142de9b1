/-
  Plain mathematics of hexadecimal escapes: the digits of a number read back as the number; a text of escapes is decoded to its runes. No program in sight.
-/
import Derived.Test.YtcljenkgbbbfpaaDoorDf
namespace Go.Proofs.YtcljenkgbbbfpaaDoor.Dg
open Go.PlainAid Str De Df
set_option linter.unusedVariables false
/-- The digit d, upper or lower case. -/
def hd (up : Bool) (d : Int) : Int := if d < 10 then 48 + d else if up then 55 + d else 87 + d
theorem hexV_hd (up : Bool) (d : Int) (h0 : 0 ≤ d) (h1 : d < 16) : hexV (hd up d) = d := by
  unfold hd hexV
  cases up
  · repeat' split
    all_goals first | omega | simp_all
  · repeat' split
    all_goals first | omega | simp_all
theorem hd_range (up : Bool) (d : Int) (h0 : 0 ≤ d) (h1 : d < 16) : 48 ≤ hd up d ∧ hd up d ≤ 102 := by
  unfold hd
  cases up
  · repeat' split
    all_goals first | omega | simp_all
  · repeat' split
    all_goals first | omega | simp_all
/-- The digits of x, the lowest first, n at most. -/
def dl (up : Bool) : Nat → Int → List Int
  | 0, _ => []
  | n + 1, x => if 0 < x then hd up (x % 16) :: dl up n (x / 16) else []
theorem dl_len (up : Bool) : ∀ (n : Nat) (x : Int), (dl up n x).length ≤ n
  | 0, x => by simp [dl]
  | n + 1, x => by
    unfold dl; split
    · have := dl_len up n (x / 16); simp; omega
    · simp
theorem dl_hex (up : Bool) : ∀ (n : Nat) (x : Int), ∀ c ∈ dl up n x, 0 ≤ hexV c
  | 0, x, c, h => by simp [dl] at h
  | n + 1, x, c, h => by
    unfold dl at h
    split at h
    · rcases List.mem_cons.1 h with rfl | h
      · rw [hexV_hd _ _ (by omega) (by omega)]; omega
      · exact dl_hex up n _ c h
    · simp at h
theorem fold_append (h : Int) (a b : List Int) : fold h (a ++ b) = fold (fold h a) b := by unfold fold; rw [List.foldl_append]
theorem fold_dl (up : Bool) : ∀ (n : Nat) (x : Int), 0 ≤ x → x < 16 ^ n → fold 0 (dl up n x).reverse = x
  | 0, x, h0, h1 => by simp [dl, fold]; simp at h1; omega
  | n + 1, x, h0, h1 => by
    unfold dl
    split
    · rw [List.reverse_cons, fold_append, fold_dl up n (x / 16) (by omega) (by rw [Int.pow_succ] at h1; omega)]
      show x / 16 * 16 + hexV (hd up (x % 16)) = x
      rw [hexV_hd _ _ (by omega) (by omega)]; omega
    · simp [fold]; omega
theorem fold_zeros (k : Nat) (l : List Int) : fold 0 (List.replicate k 48 ++ l) = fold 0 l := by
  induction k with
  | zero => rfl
  | succ k ih => rw [List.replicate_succ, List.cons_append, fold_cons]; exact ih
/-- An escape of one to six digits. -/
theorem D_hex {s : ByteArray} {i : Nat} {H sp : List Int} (ha : At s i (92 :: (H ++ sp))) (hx : ∀ c ∈ H, 0 ≤ hexV c) (h1 : 1 ≤ H.length) (h6 : H.length ≤ 6)
    (hsp : sp = [32] ∨ (sp = [] ∧ (i + 1 + H.length < s.size → hexV (bt s (i + 1 + H.length)) < 0 ∧ wsB (bt s (i + 1 + H.length)) = false ∧ bt s (i + 1 + H.length) < 128))) :
    D s i = Lib.encodeRuneZ (fixR (fold 0 H)) ++ D s (i + 1 + H.length + sp.length) := by
  cases H with
  | nil => simp at h1
  | cons c l =>
    rw [List.length_cons] at h6 hsp ⊢
    rw [show i + 1 + (l.length + 1) = i + 2 + l.length by omega] at hsp ⊢
    rw [D_esc (c := c) (l := l) (sp := sp) (by simpa using ha) (hx c (by simp)) (fun x hx' => hx x (by simp [hx'])) (by omega) hsp, fold_cons, Int.zero_mul, Int.zero_add]
theorem fixR_valid {v : Int} (h0 : 1 ≤ v) (h1 : v ≤ 1114111) (hs : v < 55296 ∨ 57343 < v) : fixR v = v := by unfold fixR; rw [if_neg (by omega)]
end Go.Proofs.YtcljenkgbbbfpaaDoor.Dg
