/-
  Proved: the size guard of the law answers true only when files, parts and dependencies together are at most 1048576. Conditions: those that each
  theorem names as its hypotheses, and no others.
-/
import Derived.Test.YtmjfdhgfpgeboacGa
namespace Go.Proofs.Ytmjfdhgfpgeboac.Gb
open Go.RowKit Go.PlainAid Mem Ho Rws Orw Fs Ga
set_option linter.unusedVariables false
set_option linter.unusedSimpArgs false
def sd (m : Fl) : Nat → Nat
  | 0 => 0
  | j + 1 => sd m j + (m.pt j).nd
def sp (F : Nat → Fl) : Nat → Nat
  | 0 => 0
  | i + 1 => sp F i + (F i).np + sd (F i) (F i).np
theorem sd_le (m : Fl) : ∀ n j, j < n → (m.pt j).nd ≤ sd m n
  | 0, j, h => absurd h (by omega)
  | n + 1, j, h => by
    unfold sd
    rcases Nat.lt_or_ge j n with h1 | h1
    · have := sd_le m n j h1; omega
    · obtain rfl : j = n := by omega
      omega
theorem sp_le (F : Nat → Fl) : ∀ n i, i < n → (F i).np + sd (F i) (F i).np ≤ sp F n
  | 0, i, h => absurd h (by omega)
  | n + 1, i, h => by
    unfold sp
    rcases Nat.lt_or_ge i n with h1 | h1
    · have := sp_le F n i h1; omega
    · obtain rfl : i = n := by omega
      omega
def Ok4 (n : Nat) (F : Nat → Fl) (w : World) (e : Ending) (w' : World) : Prop := Below w.heap.size w w' ∧ ∃ b, e = .returned (.bool b) ∧ (b = true → n + sp F n ≤ 1048576)
theorem Ok4.no {n : Nat} {F : Nat → Fl} {w w' : World} (h : Below w.heap.size w w') : Ok4 n F w (.returned (.bool false)) w' := ⟨h, false, rfl, fun h => (by cases h)⟩
set_option maxRecDepth 100000 in
set_option maxHeartbeats 4000000 in
theorem zz4 (A : Option Addr) (n c : Nat) (F : Nat → Fl) (a b : Nat) (w : World) (hs : Src w A n F) (hn : n ≤ maxLen) : Calls Try.prog 4 #[.slice A n c, .agg #[.int .u32 (a : Int), .int .u32 (b : Int)]] w (Ok4 n F w) := by
  have HS := Lib.hid hs
  clear hs
  unfold maxLen at hn
  go_enter Try.func4, Try.ntmps4
  go_upto_region 2 with fail
  generalize hW : w.alloc _ = W
  have HB : Hid (Below w.heap.size w W) := Lib.hid (by rw [← hW]; exact (Below.refl _ _).alloc (Nat.le_refl _) _)
  have HS2 := Lib.hid (HS.out.below HB.out)
  clear hW
  rcases Bool.eq_false_or_eq_true (decide ((1048576 : Int) < n)) with t0 | t0
  · go_wp2_with fail
    go_ret
    exact Ok4.no HB.out
  have b1 : n ≤ 1048576 := by have := of_decide_eq_false t0; omega
  go_wp2_with fail
  clear t0
  go_loopw [5, 6] (fun z i wr => ∃ (x k : Nat), z = .int .i64 x ∧ i = .int .i64 k ∧ k ≤ n ∧ Hid (x = n + sp F k) ∧ x ≤ 1048576 ∧ wr = W) (fun _ i _ => n - (intOf i).toNat)
  case atStart => exact ⟨n, 0, rfl, rfl, by omega, Lib.hid rfl, b1, rfl⟩
  case round =>
    obtain ⟨x, k, rfl, rfl, hk, HX, hx, hwr⟩ := hrel
    have hwr2 := hwr.symm
    subst hwr2
    clear hwr
    by_cases hlt : k < n
    · obtain ⟨bl, off, rfl, hbl, hc⟩ := file_cell HS2.out (by omega)
      have hf := hc k hlt
      have hwf := HS2.out.2 k hlt
      obtain ⟨m, hm⟩ : ∃ m, m = F k := ⟨_, rfl⟩
      rw [← hm] at hf hwf
      obtain ⟨pA, np, pc, pt⟩ := m
      simp only [] at hf
      have HM := Lib.hid hm
      have HV := Lib.hid hwf
      have q0 : (0 : Int) ≤ (k : Int) := by omega
      have q1 : (k : Int) < (n : Int) := by omega
      clear hc hm hwf
      go_upto_region 10 with fail
      rcases Bool.eq_false_or_eq_true (decide ((1048576 : Int) < np)) with t0 | t0
      · go_wp2_with fail
        go_ret
        exact Ok4.no HB.out
      have b2 : np ≤ 1048576 := by have := of_decide_eq_false t0; omega
      go_upto_region 13 with fail
      obtain ⟨y, hy⟩ : ∃ y : Nat, (y : Int) = (x : Int) + ((np : Nat) : Int) := ⟨x + np, by omega⟩
      rw [← hy]
      have HY : Hid (y = n + sp F k + np) := Lib.hid (by have := HX.out; omega)
      clear hy t0
      rcases Bool.eq_false_or_eq_true (decide ((1048576 : Int) < (y : Int))) with t0 | t0
      · go_wp2_with fail
        go_ret
        exact Ok4.no HB.out
      have b3 : y ≤ 1048576 := by have := of_decide_eq_false t0; omega
      go_wp2_with fail
      clear t0
      go_loopw [5, 7] (fun z i wr => ∃ (x j : Nat), z = .int .i64 x ∧ i = .int .i64 j ∧ j ≤ np ∧ Hid (x = n + sp F k + np + sd (F k) j) ∧ x ≤ 1048576 ∧ wr = W) (fun _ i _ => np - (intOf i).toNat)
      case atStart => exact ⟨y, 0, rfl, rfl, by omega, HY, b3, rfl⟩
      case round =>
        clear HY b3
        obtain ⟨x2, j, rfl, rfl, hj, HX2, hx2, hwr⟩ := hrel
        have hwr2 := hwr.symm
        subst hwr2
        clear hwr
        by_cases hjl : j < np
        · obtain ⟨pb, poff, hpA, hpbl, hpc⟩ := part_cells HV.out (show 0 < np by omega)
          simp only [] at hpA
          subst hpA
          have hd := (hpc j hjl).2
          simp only [] at hd
          obtain ⟨nd, hnd⟩ : ∃ nd, nd = (pt j).nd := ⟨_, rfl⟩
          rw [← hnd] at hd
          generalize (pt j).dA = dA at hd
          generalize (pt j).dc = dc at hd
          have HND : Hid (sd (F k) (j + 1) = sd (F k) j + nd) := Lib.hid (by rw [hnd]; show sd (F k) j + ((F k).pt j).nd = _; rw [← HM.out])
          have p0 : (0 : Int) ≤ (j : Int) := by omega
          have p1 : (j : Int) < (np : Int) := by omega
          clear hpc hnd
          go_upto_region 18 with fail
          rcases Bool.eq_false_or_eq_true (decide ((1048576 : Int) < nd)) with t0 | t0
          · go_wp2_with fail
            go_ret
            exact Ok4.no HB.out
          have b4 : nd ≤ 1048576 := by have := of_decide_eq_false t0; omega
          go_upto_region 21 with fail
          obtain ⟨y2, hy2⟩ : ∃ y2 : Nat, (y2 : Int) = (x2 : Int) + ((nd : Nat) : Int) := ⟨x2 + nd, by omega⟩
          rw [← hy2]
          have HY2 : Hid (y2 = n + sp F k + np + sd (F k) (j + 1)) := Lib.hid (by have := HX2.out; have := HND.out; omega)
          clear hy2 t0
          rcases Bool.eq_false_or_eq_true (decide ((1048576 : Int) < (y2 : Int))) with t0 | t0
          · go_wp2_with fail
            go_ret
            exact Ok4.no HB.out
          have b5 : y2 ≤ 1048576 := by have := of_decide_eq_false t0; omega
          go_wp2_with fail
          go_roundw
          case rel => exact ⟨y2, j + 1, rfl, by go_num, by omega, HY2, b5, (by first | rfl | trivial)⟩
          case measure => simp [intOf]; omega
        · obtain rfl : np = j := by omega
          have y0 : decide ((np : Int) < np) = false := decide_eq_false (by omega)
          have HE : Hid (x2 = n + sp F (k + 1)) := Lib.hid (by
            have h1 := HX2.out
            show x2 = n + (sp F k + (F k).np + sd (F k) (F k).np)
            rw [← HM.out] at h1 ⊢
            simp only [] at h1 ⊢
            omega)
          go_wp2_with fail
          go_roundw
          case rel => exact ⟨x2, k + 1, rfl, by go_num, by omega, HE, hx2, (by first | rfl | trivial)⟩
          case measure => simp [intOf]; omega
    · obtain rfl : n = k := by omega
      have z0 : decide ((n : Int) < n) = false := decide_eq_false (by omega)
      go_wp2_with fail
      go_ret
      exact ⟨HB.out, true, rfl, fun _ => by have := HX.out; omega⟩
end Go.Proofs.Ytmjfdhgfpgeboac.Gb
