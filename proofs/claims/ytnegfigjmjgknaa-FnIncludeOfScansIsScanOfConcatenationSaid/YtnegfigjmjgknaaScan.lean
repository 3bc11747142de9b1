/-
  Contracts of CharFreq.Scan and CharFreq.Include: a histogram of 64 counts in one block. Conditions: sizes alone.
-/
import Derived.Test.YtnegfigjmjgknaaRows
import Derived.Test.YtnegfigjmjgknaaMem
import Derived.Test.YtnegfigjmjgknaaStr
import Derived.WalkKit
import Derived.Handy
import Derived.Lib.Hide
import Derived.RegionTactic
import Derived.BigRegion
import Derived.Deep.OwnRows
namespace Go.Proofs.Ytnegfigjmjgknaa.Scan
open Go.RowKit Go.PlainAid Str Mem
set_option linter.unusedVariables false
/-- The place of a byte in the histogram; 64: none. -/
def idx (c : Int) : Nat := if 97 ≤ c ∧ c ≤ 122 then (c - 97).toNat else if 65 ≤ c ∧ c ≤ 90 then (c - 39).toNat else if 48 ≤ c ∧ c ≤ 57 then (c + 4).toNat else if c = 95 then 62 else if c = 36 then 63 else 64
/-- How many of the first k bytes of s fall on place j. -/
def cnt (s : ByteArray) (j : Nat) : Nat → Int
  | 0 => 0
  | k + 1 => cnt s j k + if idx (bt s k) = j then 1 else 0
def hist (F : Nat → Int) (s : ByteArray) (d : Int) (k : Nat) : Nat → Int := fun j => wrap32 (F j + cnt s j k * d)
theorem wrap_add (x y : Int) : wrap32 (wrap32 x + y) = wrap32 (x + y) := by unfold wrap32; omega
theorem hist_hit (F : Nat → Int) (s : ByteArray) (d : Int) (k j : Nat) (h : idx (bt s k) = j) : hist F s d (k + 1) j = wrap32 (hist F s d k j + d) := by
  unfold hist
  rw [wrap_add]
  simp only [cnt, h, if_true]
  rw [Int.add_mul, Int.one_mul, Int.add_assoc]
theorem hist_miss (F : Nat → Int) (s : ByteArray) (d : Int) (k j : Nat) (h : idx (bt s k) ≠ j) : hist F s d (k + 1) j = hist F s d k j := by
  unfold hist
  simp only [cnt]
  rw [if_neg h, Int.add_zero]
/-- Block g holds the counts F, and nothing else; it may be written. -/
def Cnt (w : World) (g : Nat) (F : Nat → Int) : Prop := ∃ cs : Array Value, Own w g 44 cs ∧ cs.size = 64 ∧ ∀ j, j < 64 → cs[j]? = some (.int .i32 (F j))
theorem Cnt.cell {w : World} {g : Nat} {F : Nat → Int} (h : Cnt w g F) : ∀ j, j < 64 → w.cell? ⟨g, j, none⟩ = some (.int .i32 (F j)) := fun j hj => by
  obtain ⟨cs, ho, _, hc⟩ := h
  rw [ho.cell, hc j hj]
theorem Cnt.free {w : World} {g : Nat} {F : Nat → Int} (h : Cnt w g F) : ∀ j, w.frozen? ⟨g, j, none⟩ = false := fun j => by
  obtain ⟨cs, ho, _, hc⟩ := h
  exact ho.frozen j
theorem Cnt.lt {w : World} {g : Nat} {F : Nat → Int} (h : Cnt w g F) : g < w.heap.size := by
  obtain ⟨cs, ho, _, hc⟩ := h
  exact ho.lt
theorem Cnt.drew {w : World} {g : Nat} {F : Nat → Int} (h : Cnt w g F) : Cnt w.drew g F := h
theorem Cnt.drewN {w : World} {g : Nat} {F : Nat → Int} (h : Cnt w g F) (n : Nat) : Cnt (w.drewN n) g F := h
theorem Cnt.congr {w : World} {g : Nat} {F G : Nat → Int} (h : Cnt w g F) (e : ∀ j, j < 64 → F j = G j) : Cnt w g G := by
  obtain ⟨cs, ho, hs, hc⟩ := h
  exact ⟨cs, ho, hs, fun j hj => by rw [hc j hj, e j hj]⟩
theorem Cnt.block {w w' : World} {g : Nat} {F : Nat → Int} (h : Cnt w g F) (hb : w'.heap[g]? = w.heap[g]?) : Cnt w' g F := by
  obtain ⟨cs, ho, hs, hc⟩ := h
  exact ⟨cs, hb.trans ho, hs, hc⟩
theorem Cnt.set {w : World} {g : Nat} {F : Nat → Int} (h : Cnt w g F) {q : Nat} (hq : q < 64) (v : Int) : Cnt (w.setCell ⟨g, q, none⟩ (.int .i32 v)) g (fun j => if j = q then v else F j) := by
  obtain ⟨cs, ho, hs, hc⟩ := h
  refine ⟨_, ho.set q _, by simpa using hs, fun j hj => ?_⟩
  rw [Array.getElem?_setIfInBounds]
  by_cases e : j = q
  · subst e; simp [hs, hj]
  · rw [if_neg (Ne.symm e)]
    show cs[j]? = some (.int .i32 (if j = q then v else F j))
    rw [if_neg e]; exact hc j hj
theorem rep_at (n j : Nat) (v : Value) (h : j < n) : (List.replicate n v).toArray[j]? = some v := by simp [h]
theorem rep_size (n : Nat) (v : Value) : (List.replicate n v).toArray.size = n := by simp
theorem Cnt.zero {w : World} {g : Nat} (h : Own w g 44 (List.replicate 64 (Value.int .i32 0)).toArray) : Cnt w g (fun _ => 0) :=
  ⟨_, h, rep_size 64 _, fun j hj => rep_at 64 j _ hj⟩
theorem only_drew {a w : World} {row : Option Nat} (h : a.grownBy w row) : a.grownBy w.drew row := ⟨h.os, h.tape, h.output, h.size, h.block⟩
theorem only_drewN {a w : World} {row : Option Nat} (h : a.grownBy w row) (n : Nat) : a.grownBy (w.drewN n) row := ⟨h.os, h.tape, h.output, h.size, h.block⟩
theorem only_set {a w : World} {g : Nat} (h : a.grownBy w (some g)) (q : Nat) (u : Value) : a.grownBy (w.setCell ⟨g, q, none⟩ u) (some g) :=
  ⟨h.os, h.tape, h.output, by rw [World.size_setCell]; exact h.size, fun i hi hne => (Below.heap_setCell w ⟨g, q, none⟩ u i (by rintro rfl; exact hne rfl)).trans (h.block i hi hne)⟩
/-- One byte's step. -/
theorem Cnt.step {w : World} {g : Nat} {F : Nat → Int} {s : ByteArray} {d : Int} {k : Nat} (h : Cnt w g (hist F s d k)) {q : Nat} (hq : q < 64) (hi : idx (bt s k) = q) :
    Cnt (w.setCell ⟨g, q, none⟩ (.int .i32 (wrap32 (hist F s d k q + d)))) g (hist F s d (k + 1)) :=
  (h.set hq _).congr fun j _ => by
    by_cases e : j = q
    · subst e; simp only [if_true]; exact (hist_hit F s d k j hi).symm
    · rw [if_neg e]; exact (hist_miss F s d k j (by omega)).symm
def Scanned (g : Nat) (F : Nat → Int) (s : ByteArray) (d : Int) (w : World) (e : Ending) (w' : World) : Prop :=
  e = .returned (.tuple #[]) ∧ Cnt w' g (hist F s d s.size) ∧ w.grownBy w' (some g)
theorem byte_ways (c : Int) (h0 : 0 ≤ c) (h1 : c ≤ 255) :
    (∃ q : Nat, q ≤ 25 ∧ c = (q : Int) + 97 ∧ idx c = q) ∨ (∃ q : Nat, 26 ≤ q ∧ q ≤ 51 ∧ c = (q : Int) + 39 ∧ idx c = q) ∨ (∃ q : Nat, q ≤ 9 ∧ c = (q : Int) + 48 ∧ idx c = q + 52) ∨ (c = 95 ∧ idx c = 62) ∨ (c = 36 ∧ idx c = 63) ∨
    ((¬ (97 ≤ c ∧ c ≤ 122)) ∧ (¬ (65 ≤ c ∧ c ≤ 90)) ∧ (¬ (48 ≤ c ∧ c ≤ 57)) ∧ c ≠ 95 ∧ c ≠ 36 ∧ idx c = 64) := by
  by_cases a1 : 97 ≤ c ∧ c ≤ 122
  · exact .inl ⟨(c - 97).toNat, by omega, by omega, by unfold idx; rw [if_pos a1]⟩
  by_cases a2 : 65 ≤ c ∧ c ≤ 90
  · exact .inr (.inl ⟨(c - 39).toNat, by omega, by omega, by omega, by unfold idx; rw [if_neg a1, if_pos a2]⟩)
  by_cases a3 : 48 ≤ c ∧ c ≤ 57
  · exact .inr (.inr (.inl ⟨(c - 48).toNat, by omega, by omega, by unfold idx; rw [if_neg a1, if_neg a2, if_pos a3]; omega⟩))
  by_cases a4 : c = 95
  · exact .inr (.inr (.inr (.inl ⟨a4, by unfold idx; rw [if_neg a1, if_neg a2, if_neg a3, if_pos a4]⟩)))
  by_cases a5 : c = 36
  · exact .inr (.inr (.inr (.inr (.inl ⟨a5, by unfold idx; rw [if_neg a1, if_neg a2, if_neg a3, if_neg a4, if_pos a5]⟩))))
  exact .inr (.inr (.inr (.inr (.inr ⟨a1, a2, a3, a4, a5, by unfold idx; rw [if_neg a1, if_neg a2, if_neg a3, if_neg a4, if_neg a5]⟩))))
set_option maxRecDepth 100000 in
set_option maxHeartbeats 2000000 in
theorem scan_any (g : Nat) (F : Nat → Int) (s : ByteArray) (d : Int) (w : World) (hg : Cnt w g F) (hF : ∀ j, j < 64 → -2147483648 ≤ F j ∧ F j ≤ 2147483647) (hs : s.size ≤ 2097152) :
    Calls Try.prog 8 #[.pointer (some ⟨g, 0, none⟩), .string s, .int .i32 d] w (Scanned g F s d w) := by
  by_cases hd : d = 0
  · subst hd
    have HG := Lib.hid hg
    have HF := Lib.hid hF
    clear hg hF
    go_enter Try.func8, Try.ntmps8
    go_wp2
    go_returns
    refine ⟨rfl, HG.out.congr fun j hj => ?_, World.grownBy.refl _ _⟩
    unfold hist
    rw [Int.mul_zero, Int.add_zero, IntWalk.wrap32_in _ (HF.out j hj)]
  have hd0 : (d == 0) = false := by simp [hd]
  have hb := get_bt s
  have HG := Lib.hid hg
  have HF := Lib.hid hF
  clear hg hF hd
  go_enter Try.func8, Try.ntmps8
  go_wp2
  go_loopw [6] (fun i wr => ∃ k : Nat, k ≤ s.size ∧ i = .int .i64 k ∧ Cnt wr g (hist F s d k) ∧ w.grownBy wr (some g)) (fun i _ => s.size - (intOf i).toNat)
  case atStart =>
    refine ⟨0, by omega, rfl, HG.out.congr fun j hj => ?_, World.grownBy.refl _ _⟩
    unfold hist cnt
    rw [Int.zero_mul, Int.add_zero, IntWalk.wrap32_in _ (HF.out j hj)]
  case round =>
    obtain ⟨k, hk, rfl, hC, hO⟩ := hrel
    have HC := Lib.hid hC
    clear hC
    by_cases hlt : k < s.size
    · rcases byte_ways (bt s k) (bt_nonneg s k) (bt_le s k) with ⟨q, q1, q2, q3⟩ | ⟨q, q0, q1, q2, q3⟩ | ⟨q, q1, q2, q3⟩ | ⟨q2, q3⟩ | ⟨q2, q3⟩ | ⟨m1, m2, m3, m4, m5, q3⟩
      · have Q3 := Lib.hid q3
        have hcell := HC.out.cell q (by omega)
        have hfree := HC.out.free q
        clear q3
        have t0 : decide ((97 : Int) ≤ (q : Int) + 97) = true := by simp only [decide_eq_true_eq]; omega
        have t1 : decide ((q : Int) + 97 ≤ 122) = true := by simp only [decide_eq_true_eq]; omega
        go_wp2
        go_region
        go_wp2
        exact ⟨⟨k + 1, by omega, by go_num, (HC.out.step (by omega) Q3.out).drew, only_drew (only_set hO _ _)⟩, by simp [intOf]; omega⟩
      · have Q3 := Lib.hid q3
        have hcell := HC.out.cell q (by omega)
        have hfree := HC.out.free q
        clear q3
        have t0 : decide ((97 : Int) ≤ (q : Int) + 39) = false := by simp only [decide_eq_false_iff_not]; omega
        have t1 : decide ((65 : Int) ≤ (q : Int) + 39) = true := by simp only [decide_eq_true_eq]; omega
        have t2 : decide ((q : Int) + 39 ≤ 90) = true := by simp only [decide_eq_true_eq]; omega
        go_wp2
        go_region
        go_wp2
        exact ⟨⟨k + 1, by omega, by go_num, (HC.out.step (by omega) Q3.out).drew, only_drew (only_set hO _ _)⟩, by simp [intOf]; omega⟩
      · have Q3 := Lib.hid q3
        have hcell := HC.out.cell (q + 52) (by omega)
        have hfree := HC.out.free (q + 52)
        clear q3
        have t0 : decide ((97 : Int) ≤ (q : Int) + 48) = false := by simp only [decide_eq_false_iff_not]; omega
        have t1 : decide ((65 : Int) ≤ (q : Int) + 48) = false := by simp only [decide_eq_false_iff_not]; omega
        have t2 : decide ((48 : Int) ≤ (q : Int) + 48) = true := by simp only [decide_eq_true_eq]; omega
        have t3 : decide ((q : Int) + 48 ≤ 57) = true := by simp only [decide_eq_true_eq]; omega
        go_wp2
        go_region
        go_wp2
        exact ⟨⟨k + 1, by omega, by go_num, (HC.out.step (by omega) Q3.out).drew, only_drew (only_set hO _ _)⟩, by simp [intOf]; omega⟩
      · have Q3 := Lib.hid q3
        have hcell := HC.out.cell 62 (by omega)
        have hfree := HC.out.free 62
        clear q3
        go_wp2
        go_region
        go_wp2
        exact ⟨⟨k + 1, by omega, by go_num, (HC.out.step (by omega) Q3.out).drew, only_drew (only_set hO _ _)⟩, by simp [intOf]; omega⟩
      · have Q3 := Lib.hid q3
        have hcell := HC.out.cell 63 (by omega)
        have hfree := HC.out.free 63
        clear q3
        go_wp2
        go_region
        go_wp2
        exact ⟨⟨k + 1, by omega, by go_num, (HC.out.step (by omega) Q3.out).drew, only_drew (only_set hO _ _)⟩, by simp [intOf]; omega⟩
      · have Q3 := Lib.hid q3
        have e4 : (bt s k == 95) = false := by simp [m4]
        have e5 : (bt s k == 36) = false := by simp [m5]
        have HM1 := Lib.hid m1
        have HM2 := Lib.hid m2
        have HM3 := Lib.hid m3
        clear q3 m4 m5 m1 m2 m3
        have hst : Hid (Cnt wr g (hist F s d (k + 1))) := Lib.hid (HC.out.congr fun j hj => (hist_miss F s d k j (by have := Q3.out; omega)).symm)
        by_cases a1 : 97 ≤ bt s k
        · have a2 : ¬ bt s k ≤ 122 := fun h => HM1.out ⟨a1, h⟩
          have t1 : decide (97 ≤ bt s k) = true := by simpa using a1
          have t2 : decide (bt s k ≤ 122) = false := by simpa using a2
          have t3 : decide (65 ≤ bt s k) = true := by simp only [decide_eq_true_eq]; omega
          have t4 : decide (bt s k ≤ 90) = false := by simp only [decide_eq_false_iff_not]; omega
          have t5 : decide (48 ≤ bt s k) = true := by simp only [decide_eq_true_eq]; omega
          have t6 : decide (bt s k ≤ 57) = false := by simp only [decide_eq_false_iff_not]; omega
          go_wp2
          exact ⟨⟨k + 1, by omega, by go_num, hst.out, hO⟩, by simp [intOf]; omega⟩
        by_cases a2 : 65 ≤ bt s k
        · have a3 : ¬ bt s k ≤ 90 := fun h => HM2.out ⟨a2, h⟩
          have t1 : decide (97 ≤ bt s k) = false := by simpa using a1
          have t3 : decide (65 ≤ bt s k) = true := by simp only [decide_eq_true_eq]; omega
          have t4 : decide (bt s k ≤ 90) = false := by simp only [decide_eq_false_iff_not]; omega
          have t5 : decide (48 ≤ bt s k) = true := by simp only [decide_eq_true_eq]; omega
          have t6 : decide (bt s k ≤ 57) = false := by simp only [decide_eq_false_iff_not]; omega
          go_wp2
          exact ⟨⟨k + 1, by omega, by go_num, hst.out, hO⟩, by simp [intOf]; omega⟩
        by_cases a3 : 48 ≤ bt s k
        · have a4 : ¬ bt s k ≤ 57 := fun h => HM3.out ⟨a3, h⟩
          have t1 : decide (97 ≤ bt s k) = false := by simpa using a1
          have t3 : decide (65 ≤ bt s k) = false := by simpa using a2
          have t5 : decide (48 ≤ bt s k) = true := by simp only [decide_eq_true_eq]; omega
          have t6 : decide (bt s k ≤ 57) = false := by simp only [decide_eq_false_iff_not]; omega
          go_wp2
          exact ⟨⟨k + 1, by omega, by go_num, hst.out, hO⟩, by simp [intOf]; omega⟩
        · have t1 : decide (97 ≤ bt s k) = false := by simpa using a1
          have t3 : decide (65 ≤ bt s k) = false := by simpa using a2
          have t5 : decide (48 ≤ bt s k) = false := by simpa using a3
          go_wp2
          exact ⟨⟨k + 1, by omega, by go_num, hst.out, hO⟩, by simp [intOf]; omega⟩
    · obtain rfl : s.size = k := by omega
      go_wp2
      go_returns
      exact ⟨rfl, HC.out, hO⟩

set_option maxHeartbeats 2000000 in
theorem include_any (g h : Nat) (F G : Nat → Int) (w : World) (hgh : g ≠ h) (hg : Cnt w g F) (hh : Cnt w h G) :
    Calls Try.prog 9 #[.pointer (some ⟨g, 0, none⟩), .pointer (some ⟨h, 0, none⟩)] w fun e w' => e = .returned (.tuple #[]) ∧ Cnt w' g (fun j => wrap32 (F j + G j)) ∧ w.grownBy w' (some g) := by
  have HG := Lib.hid hg
  have HH := Lib.hid hh
  clear hg hh
  go_enter Try.func9, Try.ntmps9
  go_wp2
  go_loopw [4] (fun i wr => ∃ k : Nat, k ≤ 64 ∧ i = .int .i64 k ∧ Cnt wr g (fun j => if j < k then wrap32 (F j + G j) else F j) ∧ w.grownBy wr (some g)) (fun i _ => 64 - (intOf i).toNat)
  case atStart => exact ⟨0, by omega, rfl, HG.out.congr fun j hj => by rw [if_neg (by omega)], World.grownBy.refl _ _⟩
  case round =>
    obtain ⟨k, hk, rfl, hC, hO⟩ := hrel
    have HC := Lib.hid hC
    clear hC
    by_cases hlt : k < 64
    · have c1 : wr.cell? ⟨g, k, none⟩ = some (.int .i32 (F k)) := by rw [HC.out.cell k hlt, if_neg (by omega)]
      have f1 := HC.out.free k
      have c2 : wr.cell? ⟨h, k, none⟩ = some (.int .i32 (G k)) := (World.cell?_of_block (w := w) (hO.block h HH.out.lt (by simpa using Ne.symm hgh))).trans (HH.out.cell k hlt)
      have b1 : (0 : Int) ≤ (k : Int) := by omega
      have b2 : (k : Int) < 64 := by omega
      have hP : Hid (Cnt (wr.setCell ⟨g, k, none⟩ (.int .i32 (wrap32 (F k + G k)))) g (fun j => if j < k + 1 then wrap32 (F j + G j) else F j)) := Lib.hid ((HC.out.set hlt _).congr fun j hj => by
        by_cases e : j = k
        · subst e; rw [if_pos rfl, if_pos (by omega)]
        · rw [if_neg e]
          by_cases e2 : j < k
          · rw [if_pos e2, if_pos (by omega)]
          · rw [if_neg e2, if_neg (by omega)])
      go_wp2
      go_region
      go_wp2
      exact ⟨⟨k + 1, by omega, by go_num, hP.out.drew, only_drew (only_set hO _ _)⟩, by simp [intOf]; omega⟩
    · obtain rfl : k = 64 := by omega
      go_wp2
      go_returns
      exact ⟨rfl, HC.out.congr fun j hj => by rw [if_pos hj], hO⟩
end Go.Proofs.Ytnegfigjmjgknaa.Scan
