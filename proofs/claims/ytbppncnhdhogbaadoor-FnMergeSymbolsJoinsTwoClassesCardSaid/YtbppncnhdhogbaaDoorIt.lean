/-
  Contract of a decimal printer of a law's own (zzItoa). Proved: it returns the digits itD n, the greatest first, for every n up to 922337203685477580. No other condition.
-/
import Derived.Test.YtbppncnhdhogbaaDoorRows
import Derived.Test.YtbppncnhdhogbaaDoorMem
import Derived.WalkKit
import Derived.WalkSpells
import Derived.Handy
import Derived.Lib.Hide
import Derived.PlainAid
import Derived.Laws.BytesArg
import Derived.Laws.Slices
namespace Go.Proofs.YtbppncnhdhogbaaDoor.It
open Go.RowKit Go.PlainAid Mem
set_option linter.unusedVariables false
/-- The number that digits spell, the greatest first, behind the number a. -/
def valF (a : Int) : List Int → Int
  | [] => a
  | d :: r => valF (a * 10 + (d - 48)) r
def digs (D : List Int) : Prop := ∀ d ∈ D, 48 ≤ d ∧ d ≤ 57
theorem valF_cons (a d : Int) (r : List Int) : valF a (d :: r) = valF (a * 10 + (d - 48)) r := rfl
theorem valF_append (a : Int) (D E : List Int) : valF a (D ++ E) = valF (valF a D) E := by
  induction D generalizing a with
  | nil => rfl
  | cons d D ih => simp only [List.cons_append, valF_cons]; exact ih _
theorem valF_mono (a : Int) (h : 0 ≤ a) (D : List Int) (hD : digs D) : a ≤ valF a D := by
  induction D generalizing a with
  | nil => exact Int.le_refl _
  | cons d D ih =>
    have hd := hD d (by simp)
    have := ih (a * 10 + (d - 48)) (by omega) fun x hx => hD x (by simp [hx])
    rw [valF_cons]
    omega
theorem slice70 (g i : Nat) (hi : i < 24) (w : World) : (Instr.sliceAt 70 (.pointer (some ⟨g, 0, none⟩)) (some (.int .i64 (i : Int))) none none).run Tryd.prog w = .ok (.slice (some ⟨g, i, none⟩) (24 - i) (24 - i)) w := by
  have hal : Tryd.prog.arrayLen 70 = 24 := by kernel_rfl
  have hsz : ∀ W : World, (sizeOf (Tryd.prog.elem 70)).run Tryd.prog W = .ok 1 W := fun _ => by kernel_rfl
  rw [run_sliceAt_array_l (P := Tryd.prog) w 70 ⟨g, 0, none⟩ (by kernel_rfl) .i64 i (by omega) (by rw [hal]; omega), hsz, hal]
  simp [slicedAt]
  rw [if_neg (by omega), add_none, Nat.zero_add]
def digsOf (m : Nat) (acc : List Int) : List Int := if m = 0 then acc else digsOf (m / 10) ((48 + (m : Int) % 10) :: acc)
termination_by m
decreasing_by omega
theorem digsOf_zero (acc : List Int) : digsOf 0 acc = acc := by rw [digsOf]; rfl
theorem digsOf_pos (m : Int) (h : 0 < m) (acc : List Int) : digsOf m.toNat acc = digsOf (m / 10).toNat ((48 + m % 10) :: acc) := by
  rw [digsOf, if_neg (by omega), show m.toNat / 10 = (m / 10).toNat by omega, show ((m.toNat : Nat) : Int) = m by omega]
/-- The digits of n, the greatest first. -/
def itD (n : Int) : List Int := if n ≤ 0 then [48] else digsOf n.toNat []
theorem itD_zero {n : Int} (h : n ≤ 0) : itD n = [48] := if_pos h
theorem itD_pos {n : Int} (h : 0 < n) : itD n = digsOf n.toNat [] := if_neg (by omega)
def Printed (n : Int) (w : World) (e : Ending) (w' : World) : Prop :=
  e = .returned (.string (strOfNums (itD n))) ∧ Below w.heap.size w w'
theorem valF_ge (a : Int) (h : 0 ≤ a) (D : List Int) (hD : digs D) : a * 10 ^ D.length ≤ valF a D := by
  induction D generalizing a with
  | nil => simp [valF]
  | cons d D ih =>
    have hd := hD d (by simp)
    have h2 := ih (a * 10 + (d - 48)) (by omega) fun x hx => hD x (by simp [hx])
    rw [valF_cons]
    refine Int.le_trans ?_ h2
    rw [List.length_cons, Int.pow_succ, Int.mul_comm (10 ^ D.length) 10, ← Int.mul_assoc]
    exact Int.mul_le_mul_of_nonneg_right (by omega) (Int.pow_nonneg (by omega))
/-- What is left of the number, and the digits that lie in the buffer: together the number. -/
structure Left (n : Int) (i : Nat) (m : Int) (D : List Int) : Prop where
  nn : 0 ≤ m
  len : D.length = 24 - i
  dg : digs D
  val : valF m D = n
  dgs : digsOf m.toNat D = digsOf n.toNat []
theorem Left.room {n m : Int} {i : Nat} {D : List Int} (h : Left n i m D) (hn : n ≤ 922337203685477580) (hm : 0 < m) (hi : i ≤ 24) : 5 < i := by
  rcases Nat.lt_or_ge 5 i with h1 | h1
  · exact h1
  exfalso
  have h2 := valF_ge m h.nn D h.dg
  rw [h.val] at h2
  have h3 : (10 : Int) ^ 19 ≤ 10 ^ D.length := by
    have hl := h.len
    exact_mod_cast Nat.pow_le_pow_right (by omega : 0 < 10) (by omega : 19 ≤ D.length)
  have h4 : (1 : Int) * 10 ^ D.length ≤ m * 10 ^ D.length := Int.mul_le_mul_of_nonneg_right (by omega) (Int.pow_nonneg (by omega))
  omega
theorem Left.step {n m : Int} {p : Nat} {D : List Int} (h : Left n (p + 1) m D) (hp : p + 1 ≤ 24) (hm : 0 < m) : Left n p (m / 10) ((48 + m % 10) :: D) where
  nn := by have := h.nn; omega
  len := by have := h.len; simp only [List.length_cons]; omega
  dg := by
    intro d hd
    rcases List.mem_cons.1 hd with rfl | hd
    · have := h.nn; omega
    · exact h.dg d hd
  val := by
    rw [valF_cons, show m / 10 * 10 + (48 + m % 10 - 48) = m by omega]
    exact h.val
  dgs := by rw [← digsOf_pos m hm]; exact h.dgs
set_option maxHeartbeats 2000000 in
theorem itoa_any (n : Int) (hlo : -9000000000000000000 ≤ n) (h1 : n ≤ 922337203685477580) (w : World) : Calls Tryd.prog 28 #[.int .i64 n] w (Printed n w) := by
  by_cases hz : n ≤ 0
  · have HZ := Lib.hid (itD_zero hz)
    have t1 : decide (n ≤ 0) = true := by simp [hz]
    go_enter Tryd.func28, Tryd.ntmps28
    go_wp2
    go_ret
    exact ⟨by rw [HZ.out]; rfl, Below.refl _ _⟩
  have hz' : decide (n ≤ 0) = false := by simp [hz]
  have hpos : 0 < n := by omega
  have h0 : 0 ≤ n := by omega
  have HI := Lib.hid (itD_pos hpos)
  clear hz
  go_enter Tryd.func28, Tryd.ntmps28
  go_wp2
  go_loopw [0, 4] (fun a b wr => ∃ (m : Int) (i : Nat) (D : List Int) (cs : Array Value), a = .int .i64 m ∧ b = .int .i64 i ∧ i ≤ 24 ∧ m ≤ n ∧ Left n i m D ∧ Own wr w.heap.size 70 cs ∧ cs.size = 24 ∧ (∀ j, j < 24 → ∃ z, cs[j]? = some (.int .u8 z)) ∧ (∀ j, j < 24 - i → cs[i + j]? = some (.int .u8 (D.getD j 0))) ∧ Below w.heap.size w wr) (fun _ b _ => (intOf b).toNat)
  case atStart =>
    refine ⟨n, 24, [], _, rfl, rfl, by omega, Int.le_refl _, ⟨h0, rfl, by intro d hd; simp at hd, rfl, rfl⟩, Own.new _ _ _, rfl, ?_, by intro j hj; omega, by go_grown⟩
    have key : ∀ j : Nat, j < 24 → (List.replicate 24 (Value.int .u8 0)).toArray[j]? = some (.int .u8 0) := fun j hj => by
      rw [List.getElem?_toArray, List.getElem?_replicate, if_pos hj]
    exact fun j hj => ⟨0, key j hj⟩
  case round =>
    obtain ⟨m, i, D, cs, rfl, rfl, hi, hmn, hL, hO, hS, hE, hD, hB⟩ := hrel
    have HO := Lib.hid hO
    have HS := Lib.hid hS
    have HE := Lib.hid hE
    have HD := Lib.hid hD
    have HL := Lib.hid hL
    have hm0 := hL.nn
    clear hO hS hE hD hL
    by_cases hm : 0 < m
    · have h15 := HL.out.room h1 hm hi
      obtain ⟨p, rfl⟩ : ∃ p, i = p + 1 := ⟨i - 1, by omega⟩
      obtain ⟨z, hz⟩ := HE.out p (by omega)
      have hcell := (HO.out.cell p).trans hz
      have hfr := HO.out.frozen p
      have t1 : decide (0 < m) = true := by simp [hm]
      clear hz
      go_wp2
      refine ⟨⟨m / 10, p, (48 + m % 10) :: D, _, rfl, rfl, by omega, by omega, HL.out.step hi hm, HO.out.set p _, by simpa using HS.out, fun j hj => ?_, fun j hj => ?_, hB.setCell (Nat.le_refl _) _⟩, by simp [intOf]⟩
      · rw [Array.getElem?_setIfInBounds]
        by_cases e : p = j
        · subst e; exact ⟨48 + m % 10, by simp [HS.out, hj]⟩
        · rw [if_neg e]; exact HE.out j hj
      · rw [Array.getElem?_setIfInBounds]
        cases j with
        | zero => simp [HS.out]; omega
        | succ j =>
          rw [if_neg (by omega)]
          have := HD.out j (by omega)
          rw [show p + (j + 1) = p + 1 + j by omega, this]
          simp
    · obtain rfl : m = 0 := by omega
      have hlen := HL.out.len
      have hne : D ≠ [] := by
        intro e
        have := HL.out.val
        rw [e] at this
        simp [valF] at this
        omega
      have hpl : 0 < D.length := by
        cases D with
        | nil => exact absurd rfl hne
        | cons d D => simp
      have hsl := slice70 w.heap.size i (by omega) wr
      have hcv := run_convert_bytes_arg (P := Tryd.prog) wr 62 5 Tryd.underlying62 Tryd.underlying5 w.heap.size i (24 - i) (24 - i) D hlen (fun j hj => by rw [HO.out.cell]; exact HD.out j hj) 9 Tryd.underlying9
      have HLN := Lib.hid hlen
      clear hlen hne
      go_wp2
      go_ret
      refine ⟨?_, hB⟩
      rw [HI.out, ← HL.out.dgs]
      show _ = Ending.returned (.string (strOfNums (digsOf 0 D)))
      rw [digsOf_zero]
      rfl
end Go.Proofs.YtbppncnhdhogbaaDoor.It
