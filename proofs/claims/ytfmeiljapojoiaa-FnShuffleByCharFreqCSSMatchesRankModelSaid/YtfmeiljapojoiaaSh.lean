/-
  Proved: order2, median, medianAdjacent and choosePivot on entries of three cells give a pivot in range. Conditions: those that each theorem names as
  its hypotheses, and no others.
-/
import Derived.Test.YtfmeiljapojoiaaSg
namespace Go.Proofs.Ytfmeiljapojoiaa.Sh
open Go.RowKit Mem Rws Sa Sc
set_option linter.unusedVariables false
set_option linter.unusedSimpArgs false
/-- The row, and the box s of the swaps counted, at most k. -/
def Bx (w : World) (g s : Nat) (d : Array El) (k : Nat) (W : World) : Prop :=
  ∃ n : Nat, n ≤ k ∧ Own W s 3 #[.int .i64 (n : Int)] ∧ Rw g d W ∧ Below w.heap.size w W ∧ w.heap.size ≤ s ∧ g ≠ s
theorem Bx.mono {w : World} {g s : Nat} {d : Array El} {k k' : Nat} {W : World} (h : Bx w g s d k W) (hk : k ≤ k') : Bx w g s d k' W := by
  obtain ⟨n, h1, h2⟩ := h
  exact ⟨n, Nat.le_trans h1 hk, h2⟩
theorem Bx.bel {w : World} {g s : Nat} {d : Array El} {k : Nat} {W W' : World} (h : Bx w g s d k W) (hb : Below W.heap.size W W') : Bx w g s d k W' := by
  obtain ⟨n, h1, h2, h3, h4, h5, h6⟩ := h
  exact ⟨n, h1, h2.below hb h2.lt, h3.below hb, h4.trans (hb.mono h4.size), h5, h6⟩
def Two (w : World) (g s : Nat) (d : Array El) (k a b : Nat) (e : Ending) (w' : World) : Prop :=
  ∃ x y : Nat, e = .returned (.tuple #[.int .i64 (x : Int), .int .i64 (y : Int)]) ∧ ((x = a ∧ y = b) ∨ (x = b ∧ y = a)) ∧ Bx w g s d k w'
set_option maxRecDepth 100000 in
set_option maxHeartbeats 4000000 in
theorem order28 (w : World) (g s : Nat) (d : Array El) (k a b : Nat) (W : World) (h : Bx w g s d k W) (ha : a < 64) (hb : b < 64) (hk : k ≤ 1000) :
    Calls Try.prog 28 #[IV g, .int .i64 a, .int .i64 b, .pointer (some ⟨s, 0, none⟩)] W (Two w g s d (k + 1) a b) := by
  obtain ⟨n, h1, h2, h3, h4, h5, h6⟩ := h
  have H2 := Lib.hid h2
  have H3 := Lib.hid h3
  have H4 := Lib.hid h4
  have n0 : (0 : Int) ≤ (n : Int) := by omega
  have n1 : (n : Int) ≤ 1000 := by omega
  have a0 : (0 : Int) ≤ (a : Int) := by omega
  have a1 : (a : Int) ≤ 64 := by omega
  have b0 : (0 : Int) ≤ (b : Int) := by omega
  have b1 : (b : Int) ≤ 64 := by omega
  clear h2 h3 h4
  go_enter Try.func28, Try.ntmps28
  go_wp2_with fail
  refine (less47 g b a d _ H3.out hb ha).mono ?_
  rintro e w1 ⟨rfl, hb1⟩
  have hs : s < W.heap.size := H2.out.lt
  have O1 := Lib.hid (H2.out.below hb1 hs)
  have R1 := Lib.hid (H3.out.below hb1)
  have B1 := Lib.hid (H4.out.trans (hb1.mono H4.out.size))
  clear hb1 H2 H3 H4 hs
  have c0 : w1.cell? ⟨s, 0, none⟩ = some (.int .i64 (n : Int)) := (O1.out.cell 0).trans rfl
  have f0 := O1.out.frozen 0
  cases hv : Sa.lt d[b]! d[a]!
  · clear hv
    go_wp2_with fail
    refine bodyPost_ret (v := .tuple #[.int .i64 (a : Int), .int .i64 (b : Int)]) (by simp [results, Try.results28, go_sem]) rfl ?_
    exact ⟨a, b, rfl, Or.inl ⟨rfl, rfl⟩, n, by omega, O1.out, R1.out, B1.out, h5, h6⟩
  · clear hv
    go_wp2_with fail
    refine bodyPost_ret (v := .tuple #[.int .i64 (b : Int), .int .i64 (a : Int)]) (by simp [results, Try.results28, go_sem]) rfl ?_
    exact ⟨b, a, rfl, Or.inr ⟨rfl, rfl⟩, n + 1, by omega, O1.out.set 0 (.int .i64 ((n : Int) + 1)), ⟨R1.out.cells.far h6 0 [.int .i64 ((n : Int) + 1)], R1.out.sz⟩, B1.out.setCell (by exact h5) _, h5, h6⟩
def Med (w : World) (g s : Nat) (d : Array El) (k : Nat) (lo hi : Nat) (e : Ending) (w' : World) : Prop :=
  ∃ x : Nat, e = .returned (.int .i64 (x : Int)) ∧ (lo ≤ x ∧ x < hi) ∧ Bx w g s d k w'
set_option maxRecDepth 100000 in
set_option maxHeartbeats 4000000 in
theorem median27 (w : World) (g s : Nat) (d : Array El) (k a b c lo hi : Nat) (W : World) (h : Bx w g s d k W) (ha : lo ≤ a ∧ a < hi) (hb : lo ≤ b ∧ b < hi) (hc : lo ≤ c ∧ c < hi) (hh : hi ≤ 64) (hk : k ≤ 900) :
    Calls Try.prog 27 #[IV g, .int .i64 a, .int .i64 b, .int .i64 c, .pointer (some ⟨s, 0, none⟩)] W (Med w g s d (k + 3) lo hi) := by
  have H := Lib.hid h
  clear h
  go_enter Try.func27, Try.ntmps27
  go_wp2_with fail
  refine (order28 w g s d k a b _ H.out (by omega) (by omega) (by omega)).mono ?_
  rintro e w1 ⟨x1, y1, rfl, hxy, h1⟩
  have H1 := Lib.hid h1
  have r1 : (lo ≤ x1 ∧ x1 < hi) ∧ lo ≤ y1 ∧ y1 < hi := by omega
  clear h1 H hxy
  go_wp2_with fail
  refine (order28 w g s d (k + 1) y1 c _ H1.out (by omega) (by omega) (by omega)).mono ?_
  rintro e w2 ⟨x2, y2, rfl, hxy, h2⟩
  have H2 := Lib.hid h2
  have r2 : (lo ≤ x2 ∧ x2 < hi) ∧ lo ≤ y2 ∧ y2 < hi := by omega
  clear h2 H1 hxy
  go_wp2_with fail
  refine (order28 w g s d (k + 2) x1 x2 _ H2.out (by omega) (by omega) (by omega)).mono ?_
  rintro e w3 ⟨x3, y3, rfl, hxy, h3⟩
  have H3 := Lib.hid h3
  have r3 : lo ≤ y3 ∧ y3 < hi := by omega
  clear h3 H2 hxy
  go_wp2_with fail
  go_ret
  exact ⟨y3, rfl, r3, H3.out⟩
set_option maxRecDepth 100000 in
set_option maxHeartbeats 4000000 in
theorem medAdj26 (w : World) (g s : Nat) (d : Array El) (k a lo hi : Nat) (W : World) (h : Bx w g s d k W) (ha : lo < a ∧ a + 1 < hi) (hh : hi ≤ 64) (hk : k ≤ 900) :
    Calls Try.prog 26 #[IV g, .int .i64 a, .pointer (some ⟨s, 0, none⟩)] W (Med w g s d (k + 3) lo hi) := by
  have H := Lib.hid h
  clear h
  have E1 := Lib.hid (show (a : Int) - 1 = ((a - 1 : Nat) : Int) by omega)
  have E2 := Lib.hid (show (a : Int) + 1 = ((a + 1 : Nat) : Int) by omega)
  have a0 : (1 : Int) ≤ (a : Int) := by omega
  have a1 : (a : Int) ≤ 64 := by omega
  go_enter Try.func26, Try.ntmps26
  go_wp2_with fail
  rw [E1.out, E2.out]
  refine (median27 w g s d k (a - 1) a (a + 1) lo hi _ H.out (by omega) (by omega) (by omega) hh hk).mono ?_
  rintro e w1 ⟨x, rfl, hx, h1⟩
  have H1 := Lib.hid h1
  clear h1 H
  go_wp2_with fail
  go_ret
  exact ⟨x, rfl, hx, H1.out⟩
/-- A pivot in range, and a hint. -/
def Piv (a b : Nat) (w : World) (e : Ending) (w' : World) : Prop :=
  ∃ p h : Nat, e = .returned (.tuple #[.int .i64 (p : Int), .int .i64 (h : Int)]) ∧ (a ≤ p ∧ p < b ∧ h ≤ 2) ∧ Below w.heap.size w w'
theorem Bx.below {w : World} {g s : Nat} {d : Array El} {k : Nat} {W : World} (h : Bx w g s d k W) : Below w.heap.size w W := by
  obtain ⟨n, h1, h2, h3, h4, h5, h6⟩ := h
  exact h4
set_option maxRecDepth 100000 in
set_option maxHeartbeats 16000000 in
theorem pivot18 (g a b : Nat) (d : Array El) (w : World) (h : Rw g d w) (hab : a + 12 < b) (hb : b ≤ 64) :
    Calls Try.prog 18 #[IV g, .int .i64 a, .int .i64 b] w (Piv a b w) := by
  have H := Lib.hid h
  clear h
  obtain ⟨L, hL⟩ : ∃ L, L = b - a := ⟨_, rfl⟩
  obtain ⟨Q, hQ⟩ : ∃ Q, Q = L / 4 := ⟨_, rfl⟩
  have EL := Lib.hid (show (b : Int) - (a : Int) = (L : Int) by omega)
  have EQ := Lib.hid (show (L : Int) / 4 = (Q : Int) by omega)
  obtain ⟨i, hi⟩ : ∃ i, i = a + Q := ⟨_, rfl⟩
  obtain ⟨j, hj⟩ : ∃ j, j = a + Q * 2 := ⟨_, rfl⟩
  obtain ⟨k, hk⟩ : ∃ k, k = a + Q * 3 := ⟨_, rfl⟩
  have Ei := Lib.hid (show (a : Int) + (Q : Int) = (i : Int) by omega)
  have Ej := Lib.hid (show (a : Int) + (Q : Int) * 2 = (j : Int) by omega)
  have Ek := Lib.hid (show (a : Int) + (Q : Int) * 3 = (k : Int) by omega)
  have ri : a < i ∧ i + 1 < b := by omega
  have rj : a < j ∧ j + 1 < b := by omega
  have rk : a < k ∧ k + 1 < b := by omega
  have l0 : (13 : Int) ≤ (L : Int) := by omega
  have l1 : (L : Int) ≤ 64 := by omega
  have q0 : (0 : Int) ≤ (Q : Int) := by omega
  have q1 : (Q : Int) ≤ 16 := by omega
  have a0 : (0 : Int) ≤ (a : Int) := by omega
  have a1 : (a : Int) ≤ 64 := by omega
  have b0 : (0 : Int) ≤ (b : Int) := by omega
  have b1 : (b : Int) ≤ 64 := by omega
  clear hL hQ hi hj hk
  go_enter Try.func18, Try.ntmps18
  go_upto_region 2 with fail
  rw [EL.out]
  go_upto_region 4 with fail
  rw [EQ.out]
  go_upto_region 6 with fail
  simp only [EQ.out, Int.mul_one]
  rw [Ei.out, Ej.out, Ek.out]
  generalize hW : w.alloc _ = w1
  have hB1 : Bx w g w.heap.size d 0 w1 := by
    rw [← hW]
    exact ⟨0, Nat.le_refl _, Own.new _ _ _, H.out.alloc _, (Below.refl _ _).alloc (Nat.le_refl _) _, Nat.le_refl _, Nat.ne_of_lt H.out.lt⟩
  have HB1 := Lib.hid hB1
  clear hW hB1 EL EQ Ei Ej Ek H
  have t8 : decide ((8 : Int) ≤ (L : Int)) = true := decide_eq_true (by omega)
  by_cases h50 : 50 ≤ L
  · have t50 : decide ((50 : Int) ≤ (L : Int)) = true := decide_eq_true (by omega)
    clear h50
    go_wp2_with fail
    refine (medAdj26 w g w.heap.size d 0 i a b _ HB1.out ri hb (by omega)).mono ?_
    rintro e w2 ⟨i2, rfl, ri2, h2⟩
    have HB2 := Lib.hid h2
    clear h2 HB1
    go_wp2_with fail
    refine (medAdj26 w g w.heap.size d 3 j a b _ HB2.out rj hb (by omega)).mono ?_
    rintro e w3 ⟨j2, rfl, rj2, h3⟩
    have HB3 := Lib.hid h3
    clear h3 HB2
    go_wp2_with fail
    refine (medAdj26 w g w.heap.size d 6 k a b _ HB3.out rk hb (by omega)).mono ?_
    rintro e w4 ⟨k2, rfl, rk2, h4⟩
    have HB4 := Lib.hid h4
    clear h4 HB3
    go_wp2_with fail
    refine (median27 w g w.heap.size d 9 i2 j2 k2 a b _ HB4.out ri2 rj2 rk2 hb (by omega)).mono ?_
    rintro e w5 ⟨x, rfl, rx, h5⟩
    clear HB4
    obtain ⟨n, hn, ho, hr, hbe, hh5, hh6⟩ := h5
    have HBE := Lib.hid hbe
    have c0 : w5.cell? ⟨w.heap.size, 0, none⟩ = some (.int .i64 (n : Int)) := (ho.cell 0).trans rfl
    clear ho hr hbe hh5 hh6
    by_cases n0 : n = 0
    · subst n0
      go_wp2_with fail
      refine bodyPost_ret (v := .tuple #[.int .i64 (x : Int), .int .i64 1]) (by simp [results, Try.results18, go_sem]) rfl ?_
      exact ⟨x, 1, rfl, by omega, HBE.out⟩
    · have s0 : ((n : Int) == 0) = false := beq_eq_false_iff_ne.2 (by omega)
      by_cases n12 : n = 12
      · subst n12
        clear n0 s0
        go_wp2_with fail
        refine bodyPost_ret (v := .tuple #[.int .i64 (x : Int), .int .i64 2]) (by simp [results, Try.results18, go_sem]) rfl ?_
        exact ⟨x, 2, rfl, by omega, HBE.out⟩
      · have s1 : ((n : Int) == 12) = false := beq_eq_false_iff_ne.2 (by omega)
        clear n0 n12
        go_wp2_with fail
        refine bodyPost_ret (v := .tuple #[.int .i64 (x : Int), .int .i64 0]) (by simp [results, Try.results18, go_sem]) rfl ?_
        exact ⟨x, 0, rfl, by omega, HBE.out⟩
  · have t50 : decide ((50 : Int) ≤ (L : Int)) = false := decide_eq_false (by omega)
    have t51 : ¬ ((50 : Int) ≤ (L : Int)) := by omega
    clear h50
    go_wp2_with fail
    refine (median27 w g w.heap.size d 0 i j k a b _ HB1.out (by omega) (by omega) (by omega) hb (by omega)).mono ?_
    rintro e w5 ⟨x, rfl, rx, h5⟩
    clear HB1
    obtain ⟨n, hn, ho, hr, hbe, hh5, hh6⟩ := h5
    have HBE := Lib.hid hbe
    have c0 : w5.cell? ⟨w.heap.size, 0, none⟩ = some (.int .i64 (n : Int)) := (ho.cell 0).trans rfl
    clear ho hr hbe hh5 hh6
    by_cases n0 : n = 0
    · subst n0
      go_wp2_with fail
      refine bodyPost_ret (v := .tuple #[.int .i64 (x : Int), .int .i64 1]) (by simp [results, Try.results18, go_sem]) rfl ?_
      exact ⟨x, 1, rfl, by omega, HBE.out⟩
    · have s0 : ((n : Int) == 0) = false := beq_eq_false_iff_ne.2 (by omega)
      by_cases n12 : n = 12
      · subst n12
        clear n0 s0
        go_wp2_with fail
        refine bodyPost_ret (v := .tuple #[.int .i64 (x : Int), .int .i64 2]) (by simp [results, Try.results18, go_sem]) rfl ?_
        exact ⟨x, 2, rfl, by omega, HBE.out⟩
      · have s1 : ((n : Int) == 12) = false := beq_eq_false_iff_ne.2 (by omega)
        clear n0 n12
        go_wp2_with fail
        refine bodyPost_ret (v := .tuple #[.int .i64 (x : Int), .int .i64 0]) (by simp [results, Try.results18, go_sem]) rfl ?_
        exact ⟨x, 0, rfl, by omega, HBE.out⟩
end Go.Proofs.Ytfmeiljapojoiaa.Sh
