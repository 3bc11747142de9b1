/-
  Proved: breakPatterns on entries of three cells permutes the range it is given. Conditions: those that each theorem names as its hypotheses, and no
  others.
-/
import Derived.Test.YtfmeiljapojoiaaSh
import Derived.Test.YtfmeiljapojoiaaShelf
import Derived.Sort.Walk7
import Derived.Sort.LotD1
import Derived.Laws.Bits64b
namespace Go.Proofs.Ytfmeiljapojoiaa.Si
open Go.RowKit Mem Rws Sa Sc
set_option linter.unusedVariables false
set_option linter.unusedSimpArgs false
/-- The row is some permutation within [a, b); all else as it was. -/
def Pm (g a b : Nat) (d : Array El) (w : World) (e : Ending) (w' : World) : Prop := e = .returned (.tuple #[]) ∧ ∃ d', Sort.PermIn a b d d' ∧ Rw g d' w' ∧ Fr g w w'
/-- The box of the random number. -/
def Rn (w : World) (g s a b : Nat) (d : Array El) (W : World) : Prop :=
  ∃ (X : Nat) (d' : Array El), X < 18446744073709551616 ∧ Own W s 57 #[.int .u64 (X : Int)] ∧ Sort.PermIn a b d d' ∧ Rw g d' W ∧ Fr g w W
theorem setFr {g s : Nat} {w W : World} (h : Fr g w W) (hs : w.heap.size ≤ s) (v : Value) : Fr g w ((W.setCell ⟨s, 0, none⟩ v).drewN 3) :=
  ⟨h.os, h.tape, h.output, by show w.heap.size ≤ (W.setCell _ _).heap.size; rw [World.size_setCell]; exact h.size, fun b hb hne => (Below.heap_setCell W ⟨s, 0, none⟩ v b (by show b ≠ s; omega)).trans (h.block b hb hne)⟩
set_option maxRecDepth 100000 in
set_option maxHeartbeats 16000000 in
theorem brk17 (g a b : Nat) (d : Array El) (w : World) (h : Rw g d w) (hab : a + 12 < b) (hb : b ≤ 64) :
    Calls Try.prog 17 #[IV g, .int .i64 a, .int .i64 b] w (Pm g a b d w) := by
  have H := Lib.hid h
  have hds := h.sz
  clear h
  obtain ⟨L, hL⟩ : ∃ L, L = b - a := ⟨_, rfl⟩
  obtain ⟨Q, hQ⟩ : ∃ Q, Q = L / 4 := ⟨_, rfl⟩
  obtain ⟨I, hI⟩ : ∃ I, I = a + Q * 2 - 1 := ⟨_, rfl⟩
  obtain ⟨M, hM⟩ : ∃ M : Nat, M = 1 <<< Sort.bitsLen L := ⟨_, rfl⟩
  have hM1 : 1 ≤ M := by rw [hM, Nat.one_shiftLeft]; exact Nat.two_pow_pos _
  have hM2 : M ≤ 2 * L := by rw [hM, Nat.one_shiftLeft]; exact Sort.two_pow_bitsLen_le (by omega)
  have EL := Lib.hid (show (b : Int) - (a : Int) = (L : Int) by omega)
  have EI := Lib.hid (show (a : Int) + (Q : Int) * 2 - 1 = (I : Int) by omega)
  have EQ := Lib.hid (show (L : Int) / 4 = (Q : Int) by omega)
  have EJ := Lib.hid (show (a : Int) + (Q : Int) * 2 + 1 = ((I + 2 : Nat) : Int) by omega)
  have hNP : Hid (∀ w, Calls Try.prog 24 #[.int .i64 (L : Int)] w fun e w' => e = .returned (.int .u64 (M : Int)) ∧ w' = w) := Lib.hid (by rw [hM]; exact fun w => Try.nextPowerOfTwo L (by omega) w)
  have rI : a ≤ I ∧ I + 2 < b := by omega
  have l0 : (13 : Int) ≤ (L : Int) := by omega
  have l1 : (L : Int) ≤ 64 := by omega
  have q0 : (0 : Int) ≤ (Q : Int) := by omega
  have q1 : (Q : Int) ≤ 16 := by omega
  have a0 : (0 : Int) ≤ (a : Int) := by omega
  have a1 : (a : Int) ≤ 64 := by omega
  have b0 : (0 : Int) ≤ (b : Int) := by omega
  have b1 : (b : Int) ≤ 64 := by omega
  have m0 : (1 : Int) ≤ (M : Int) := by omega
  have m1 : (M : Int) ≤ 128 := by omega
  have hQ3 : 3 ≤ Q := by omega
  have hLb : a + L = b := by omega
  clear hL hQ hI hM
  go_enter Try.func17, Try.ntmps17
  go_upto_region 1 with fail
  rw [EL.out]
  have t8 : decide ((8 : Int) ≤ (L : Int)) = true := decide_eq_true (by omega)
  go_upto_region 3 with fail
  generalize hW : w.alloc _ = w1
  have hR1 : Rn w g w.heap.size a b d w1 := by
    rw [← hW]
    exact ⟨L, d, by omega, Own.new _ _ _, Sort.permIn_refl _ _ _, H.out.alloc _, Fr.of ((Below.refl _ _).alloc (Nat.le_refl _) _)⟩
  have HR1 := Lib.hid hR1
  obtain ⟨s, hs⟩ : ∃ s, s = w.heap.size := ⟨_, rfl⟩
  rw [← hs] at HR1 ⊢
  have hsg : g ≠ s := by have := H.out.lt; omega
  have hsw : w.heap.size ≤ s := by omega
  clear hW hR1 H EL hs
  go_wp2_with fail
  refine (hNP.out _).mono ?_
  rintro e w' ⟨rfl, rfl⟩
  go_upto_block 0 with fail
  rw [EQ.out, EI.out]
  go_wp2_with fail
  go_loopw [9, 10] (fun v9 v10 wr => ∃ i : Nat, v9 = .int .i64 (i : Int) ∧ Hid ((I ≤ i ∧ i ≤ I + 3) ∧ Rn w g s a b d wr)) (fun v9 _ _ => 70 - (intOf v9).toNat)
  case atStart => exact ⟨I, rfl, Lib.hid ⟨by omega, HR1.out⟩⟩
  case round =>
    clear HR1 hNP
    obtain ⟨i, rfl, HI⟩ := hrel
    obtain ⟨wo, rfl⟩ : ∃ x : World, x = wr := ⟨_, rfl⟩
    have hi9 := HI.out.1
    have y0 : (0 : Int) ≤ (i : Int) := by omega
    have y1 : (i : Int) ≤ 64 := by omega
    by_cases hle : i ≤ I + 2
    · have hpr : (i : Int) ≤ (a : Int) + (L : Int) / 4 * 2 + 1 := by have := EJ.out; have := EQ.out; omega
      have t1 : decide ((i : Int) ≤ (a : Int) + (L : Int) / 4 * 2 + 1) = true := decide_eq_true hpr
      obtain ⟨X, d', hX, ho, hp, hr, hf⟩ := HI.out.2
      obtain ⟨Y, hY⟩ : ∃ Y : Nat, Y = Sort.xorNextN X := ⟨_, rfl⟩
      have lY : Y < 18446744073709551616 := by rw [hY]; exact Sort.xorNextN_lt X hX
      obtain ⟨O, hO⟩ : ∃ O : Nat, O = Y &&& (M - 1) := ⟨_, rfl⟩
      have lO : O ≤ M - 1 := by rw [hO]; exact Nat.and_le_right
      have eAnd : bits .and .u64 (Y : Int) ((M : Int) - 1) = (O : Int) := by
        rw [show ((M : Int) - 1) = ((M - 1 : Nat) : Int) by omega, bits_and_u64_nat _ _ lY (by omega), hO]
      have hNX : Hid (Calls Try.prog 25 #[.pointer (some ⟨s, 0, none⟩)] wo fun e w' => e = .returned (.int .u64 (Y : Int)) ∧ w' = (wo.setCell ⟨s, 0, none⟩ (.int .u64 (Y : Int))).drewN 3) := Lib.hid (by
        rw [hY]; exact Try.xorshift_Next s 0 X hX wo ((ho.cell 0).trans rfl) (ho.frozen 0))
      have HR2 : Hid (Own ((wo.setCell ⟨s, 0, none⟩ (.int .u64 (Y : Int))).drewN 3) s 57 #[.int .u64 (Y : Int)] ∧ Rw g d' ((wo.setCell ⟨s, 0, none⟩ (.int .u64 (Y : Int))).drewN 3) ∧ Fr g w ((wo.setCell ⟨s, 0, none⟩ (.int .u64 (Y : Int))).drewN 3)) := Lib.hid
        ⟨(ho.set 0 (.int .u64 (Y : Int))).drewN 3, Rw.drewN ⟨hr.cells.far hsg 0 [.int .u64 (Y : Int)], hr.sz⟩ 3, setFr hf hsw _⟩
      have HP := Lib.hid hp
      have HLY := Lib.hid lY
      have o0 : (0 : Int) ≤ (O : Int) := by omega
      have o1 : (O : Int) ≤ 127 := by omega
      have hds' : d'.size = 64 := hr.sz
      generalize hw2 : (wo.setCell ⟨s, 0, none⟩ (.int .u64 (Y : Int))).drewN 3 = w2 at hNX HR2
      clear hX ho hp hr hf hY hO HI lY hw2
      go_wp2_with fail
      refine hNX.out.mono ?_
      rintro e w' ⟨rfl, rfl⟩
      have hM8 : (M : Int) - 1 ≤ 127 := by omega
      by_cases hLO : L ≤ O
      · have t2 : decide ((L : Int) ≤ (O : Int)) = true := decide_eq_true (by omega)
        have t2' : decide (L ≤ O) = true := decide_eq_true hLO
        have E1 := Lib.hid (show (a : Int) + ((O : Int) - (L : Int)) = ((a + (O - L) : Nat) : Int) by omega)
        have hlt : a + (O - L) < b := by omega
        go_wp2_with fail
        rw [E1.out]
        refine (swapT g i (a + (O - L)) d' _ HR2.out.2.1 (by omega) (by omega)).mono ?_
        rintro e w3 ⟨rfl, hr3, hf3⟩
        have HR3 : Hid (Rn w g s a b d w3) := Lib.hid ⟨Y, Sort.swp d' i (a + (O - L)), HLY.out, (hf3.block s HR2.out.1.lt (Ne.symm hsg)).trans HR2.out.1, Sort.permIn_trans _ _ _ _ _ HP.out (Sort.swp_permIn _ _ _ _ _ (by omega) (by omega) (by omega) hlt (by omega)), hr3, Fr.trans HR2.out.2.2 hf3⟩
        clear hr3 hf3 HR2 hNX
        go_wp2_with fail
        go_roundw
        case rel => exact ⟨i + 1, by go_num, Lib.hid ⟨by omega, HR3.out⟩⟩
        case measure => simp [intOf] <;> omega
      · have t2 : decide ((L : Int) ≤ (O : Int)) = false := decide_eq_false (by omega)
        have t2' : decide (L ≤ O) = false := decide_eq_false hLO
        have t3 : ¬ ((L : Int) ≤ (O : Int)) := by omega
        have E1 := Lib.hid (show (a : Int) + (O : Int) = ((a + O : Nat) : Int) by omega)
        have hlt : a + O < b := by omega
        go_wp2_with fail
        rw [E1.out]
        refine (swapT g i (a + O) d' _ HR2.out.2.1 (by omega) (by omega)).mono ?_
        rintro e w3 ⟨rfl, hr3, hf3⟩
        have HR3 : Hid (Rn w g s a b d w3) := Lib.hid ⟨Y, Sort.swp d' i (a + O), HLY.out, (hf3.block s HR2.out.1.lt (Ne.symm hsg)).trans HR2.out.1, Sort.permIn_trans _ _ _ _ _ HP.out (Sort.swp_permIn _ _ _ _ _ (by omega) (by omega) (by omega) hlt (by omega)), hr3, Fr.trans HR2.out.2.2 hf3⟩
        clear hr3 hf3 HR2 hNX
        go_wp2_with fail
        go_roundw
        case rel => exact ⟨i + 1, by go_num, Lib.hid ⟨by omega, HR3.out⟩⟩
        case measure => simp [intOf] <;> omega
    · have hpr : ¬ ((i : Int) ≤ (a : Int) + (L : Int) / 4 * 2 + 1) := by have := EJ.out; have := EQ.out; omega
      have t1 : decide ((i : Int) ≤ (a : Int) + (L : Int) / 4 * 2 + 1) = false := decide_eq_false hpr
      clear hle hi9
      go_wp2_with fail
      go_end0
      obtain ⟨X, d', hX, ho, hp, hr, hf⟩ := HI.out.2
      exact ⟨rfl, d', hp, hr, hf⟩
end Go.Proofs.Ytfmeiljapojoiaa.Si
