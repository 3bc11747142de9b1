/-
  Contracts for the law on the meta of a file: the copiers of argument slices, the guard. Conditions: sizes alone.
-/
import Derived.Test.YtnchgmomfhollaaDoorRows
import Derived.Test.YtnchgmomfhollaaDoorMem
import Derived.Test.YtnchgmomfhollaaDoorRow
import Derived.WalkKit
import Derived.WalkSpells
import Derived.Handy
import Derived.Lib.Hide
import Derived.PlainAid
import Derived.OwnWalk
namespace Go.Proofs.YtnchgmomfhollaaDoor.Ka
open Go.RowKit Go.PlainAid Mem Rws
set_option linter.unusedVariables false
def NewSl (n : Nat) (f : Nat → Value) (w : World) (e : Ending) (w' : World) : Prop :=
  ∃ (A : Option Addr) (c : Nat), e = .returned (.slice A n c) ∧ n ≤ c ∧ c ≤ 9223372036854775807 ∧ (A = none → n = 0 ∧ c = 0) ∧ Rd w' w'.heap.size 1 A n f ∧ Below w.heap.size w w'

theorem info5 : (Tryd.prog.info? 5).map (fun i => (i.zero, i.size, i.bytes)) = some (some (Value.int .u8 0), 1, 1) := by kernel_rfl
set_option maxHeartbeats 1000000 in
theorem clone6 (A : Option Addr) (n c : Nat) (Z : Nat → Int) (w : World) (hA : Rd w w.heap.size 1 A n (fun j => Value.int .u8 (Z j))) (h0 : A = none → n = 0 ∧ c = 0) (hn : n ≤ 1048576) :
    Calls Tryd.prog 6 #[.slice A n c] w (NewSl n (fun j => Value.int .u8 (Z j)) w) := by
  have hnil := fun W => Lib.run_eql_slice_nil (P := Tryd.prog) W 22 5 A n c 0 0 Tryd.underlying22
  cases A with
  | none =>
    obtain ⟨rfl, rfl⟩ := h0 rfl
    clear h0
    go_enter Tryd.func6, Tryd.ntmps6
    go_wp2
    go_ret
    exact ⟨none, 0, rfl, by omega, by omega, fun _ => ⟨rfl, rfl⟩, Rd.zero _ _ _ _ _, Below.refl _ _⟩
  | some a =>
    have hmk := run_mk (P := Tryd.prog) 22 5 _ _ _ Tryd.underlying22 info5 n n (Nat.le_refl _) (by omega) (by omega)
    have HA := Lib.hid hA
    clear h0 hA
    go_enter Tryd.func6, Tryd.ntmps6
    go_wp2
    go_loopw [4] (fun i wr => ∃ (k : Nat) (cs : Array Value), k ≤ n ∧ i = .int .i64 k ∧ Own wr w.heap.size 5 cs ∧ cs.size = n ∧ (∀ j, j < k → cs[j]? = some (Value.int .u8 (Z j))) ∧ (∀ j, j < n → ∃ s, cs[j]? = some (Value.int .u8 s)) ∧ Below w.heap.size w wr) (fun i _ => n - (intOf i).toNat)
    case atStart =>
      refine ⟨0, _, by omega, rfl, Own.new _ _ _, by simp [size_madeCells], by omega, fun j hj => ⟨0, ?_⟩, by go_grown⟩
      rw [made_at _ _ _ (by omega)]
      show some ((#[Value.int .u8 0] : Array Value)[j % 1]!) = _
      rw [Nat.mod_one]
      rfl
    case round =>
      obtain ⟨k, cs, hk, rfl, ho, hsz, hd, he, hb⟩ := hrel
      clear hmk
      have HD := Lib.hid hd
      have HE := Lib.hid he
      have HSZ := Lib.hid hsz
      clear hd he hsz
      by_cases hlt : k < n
      · obtain ⟨b, off, ha, hbb, hc⟩ := HA.out (by omega)
        obtain rfl : a = ⟨b, off, none⟩ := by simpa using ha
        have hck := (hb.cell (p := ⟨b, off + k, none⟩) hbb).trans (hc k (by omega))
        obtain ⟨s0, hs0⟩ := HE.out k hlt
        have hcg := (ho.cell k).trans hs0
        have hfr := ho.frozen k
        clear hc ha hs0 hnil
        have hne : b ≠ w.heap.size := by omega
        go_wp2
        go_roundw
        case rel =>
          refine ⟨k + 1, _, by omega, by go_num, ho.set k _, by simpa using HSZ.out, fun j hj => ?_, fun j hj => ?_, hb.setCell (Nat.le_refl _) _⟩
          · rw [Array.getElem?_setIfInBounds]
            by_cases hjk : k = j
            · subst hjk; simp [HSZ.out, hlt]
            · rw [if_neg hjk]; exact HD.out j (by omega)
          · rw [Array.getElem?_setIfInBounds]
            by_cases hjk : k = j
            · subst hjk; exact ⟨Z k, by simp [HSZ.out, hlt]⟩
            · rw [if_neg hjk]; exact HE.out j hj
        case measure => simp [intOf]; omega
      · go_wp2
        go_ret
        refine ⟨some ⟨w.heap.size, 0, none⟩, n, rfl, by omega, by omega, (fun h => by cases h), ho.rd fun j hj => HD.out j (by omega), hb⟩

theorem info4 : (Tryd.prog.info? 4).map (fun i => (i.zero, i.size, i.bytes)) = some (some (Value.bool false), 1, 1) := by kernel_rfl
set_option maxHeartbeats 1000000 in
theorem clone7 (A : Option Addr) (n c : Nat) (Z : Nat → Bool) (w : World) (hA : Rd w w.heap.size 1 A n (fun j => Value.bool (Z j))) (h0 : A = none → n = 0 ∧ c = 0) (hn : n ≤ 1048576) :
    Calls Tryd.prog 7 #[.slice A n c] w (NewSl n (fun j => Value.bool (Z j)) w) := by
  have hnil := fun W => Lib.run_eql_slice_nil (P := Tryd.prog) W 23 4 A n c 0 0 Tryd.underlying23
  cases A with
  | none =>
    obtain ⟨rfl, rfl⟩ := h0 rfl
    clear h0
    go_enter Tryd.func7, Tryd.ntmps7
    go_wp2
    go_ret
    exact ⟨none, 0, rfl, by omega, by omega, fun _ => ⟨rfl, rfl⟩, Rd.zero _ _ _ _ _, Below.refl _ _⟩
  | some a =>
    have hmk := run_mk (P := Tryd.prog) 23 4 _ _ _ Tryd.underlying23 info4 n n (Nat.le_refl _) (by omega) (by omega)
    have HA := Lib.hid hA
    clear h0 hA
    go_enter Tryd.func7, Tryd.ntmps7
    go_wp2
    go_loopw [4] (fun i wr => ∃ (k : Nat) (cs : Array Value), k ≤ n ∧ i = .int .i64 k ∧ Own wr w.heap.size 4 cs ∧ cs.size = n ∧ (∀ j, j < k → cs[j]? = some (Value.bool (Z j))) ∧ (∀ j, j < n → ∃ s, cs[j]? = some (Value.bool s)) ∧ Below w.heap.size w wr) (fun i _ => n - (intOf i).toNat)
    case atStart =>
      refine ⟨0, _, by omega, rfl, Own.new _ _ _, by simp [size_madeCells], by omega, fun j hj => ⟨false, ?_⟩, by go_grown⟩
      rw [made_at _ _ _ (by omega)]
      show some ((#[Value.bool false] : Array Value)[j % 1]!) = _
      rw [Nat.mod_one]
      rfl
    case round =>
      obtain ⟨k, cs, hk, rfl, ho, hsz, hd, he, hb⟩ := hrel
      clear hmk
      have HD := Lib.hid hd
      have HE := Lib.hid he
      have HSZ := Lib.hid hsz
      clear hd he hsz
      by_cases hlt : k < n
      · obtain ⟨b, off, ha, hbb, hc⟩ := HA.out (by omega)
        obtain rfl : a = ⟨b, off, none⟩ := by simpa using ha
        have hck := (hb.cell (p := ⟨b, off + k, none⟩) hbb).trans (hc k (by omega))
        obtain ⟨s0, hs0⟩ := HE.out k hlt
        have hcg := (ho.cell k).trans hs0
        have hfr := ho.frozen k
        clear hc ha hs0 hnil
        have hne : b ≠ w.heap.size := by omega
        go_wp2
        go_roundw
        case rel =>
          refine ⟨k + 1, _, by omega, by go_num, ho.set k _, by simpa using HSZ.out, fun j hj => ?_, fun j hj => ?_, hb.setCell (Nat.le_refl _) _⟩
          · rw [Array.getElem?_setIfInBounds]
            by_cases hjk : k = j
            · subst hjk; simp [HSZ.out, hlt]
            · rw [if_neg hjk]; exact HD.out j (by omega)
          · rw [Array.getElem?_setIfInBounds]
            by_cases hjk : k = j
            · subst hjk; exact ⟨Z k, by simp [HSZ.out, hlt]⟩
            · rw [if_neg hjk]; exact HE.out j hj
        case measure => simp [intOf]; omega
      · go_wp2
        go_ret
        refine ⟨some ⟨w.heap.size, 0, none⟩, n, rfl, by omega, by omega, (fun h => by cases h), ho.rd fun j hj => HD.out j (by omega), hb⟩

theorem info35 : (Tryd.prog.info? 35).map (fun i => (i.zero, i.size, i.bytes)) = some (some (Value.int .u32 0), 1, 4) := by kernel_rfl
set_option maxHeartbeats 1000000 in
theorem clone8 (A : Option Addr) (n c : Nat) (Z : Nat → Int) (w : World) (hA : Rd w w.heap.size 1 A n (fun j => Value.int .u32 (Z j))) (h0 : A = none → n = 0 ∧ c = 0) (hn : n ≤ 1048576) :
    Calls Tryd.prog 8 #[.slice A n c] w (NewSl n (fun j => Value.int .u32 (Z j)) w) := by
  have hnil := fun W => Lib.run_eql_slice_nil (P := Tryd.prog) W 24 35 A n c 0 0 Tryd.underlying24
  cases A with
  | none =>
    obtain ⟨rfl, rfl⟩ := h0 rfl
    clear h0
    go_enter Tryd.func8, Tryd.ntmps8
    go_wp2
    go_ret
    exact ⟨none, 0, rfl, by omega, by omega, fun _ => ⟨rfl, rfl⟩, Rd.zero _ _ _ _ _, Below.refl _ _⟩
  | some a =>
    have hmk := run_mk (P := Tryd.prog) 24 35 _ _ _ Tryd.underlying24 info35 n n (Nat.le_refl _) (by omega) (by omega)
    have HA := Lib.hid hA
    clear h0 hA
    go_enter Tryd.func8, Tryd.ntmps8
    go_wp2
    go_loopw [4] (fun i wr => ∃ (k : Nat) (cs : Array Value), k ≤ n ∧ i = .int .i64 k ∧ Own wr w.heap.size 35 cs ∧ cs.size = n ∧ (∀ j, j < k → cs[j]? = some (Value.int .u32 (Z j))) ∧ (∀ j, j < n → ∃ s, cs[j]? = some (Value.int .u32 s)) ∧ Below w.heap.size w wr) (fun i _ => n - (intOf i).toNat)
    case atStart =>
      refine ⟨0, _, by omega, rfl, Own.new _ _ _, by simp [size_madeCells], by omega, fun j hj => ⟨0, ?_⟩, by go_grown⟩
      rw [made_at _ _ _ (by omega)]
      show some ((#[Value.int .u32 0] : Array Value)[j % 1]!) = _
      rw [Nat.mod_one]
      rfl
    case round =>
      obtain ⟨k, cs, hk, rfl, ho, hsz, hd, he, hb⟩ := hrel
      clear hmk
      have HD := Lib.hid hd
      have HE := Lib.hid he
      have HSZ := Lib.hid hsz
      clear hd he hsz
      by_cases hlt : k < n
      · obtain ⟨b, off, ha, hbb, hc⟩ := HA.out (by omega)
        obtain rfl : a = ⟨b, off, none⟩ := by simpa using ha
        have hck := (hb.cell (p := ⟨b, off + k, none⟩) hbb).trans (hc k (by omega))
        obtain ⟨s0, hs0⟩ := HE.out k hlt
        have hcg := (ho.cell k).trans hs0
        have hfr := ho.frozen k
        clear hc ha hs0 hnil
        have hne : b ≠ w.heap.size := by omega
        go_wp2
        go_roundw
        case rel =>
          refine ⟨k + 1, _, by omega, by go_num, ho.set k _, by simpa using HSZ.out, fun j hj => ?_, fun j hj => ?_, hb.setCell (Nat.le_refl _) _⟩
          · rw [Array.getElem?_setIfInBounds]
            by_cases hjk : k = j
            · subst hjk; simp [HSZ.out, hlt]
            · rw [if_neg hjk]; exact HD.out j (by omega)
          · rw [Array.getElem?_setIfInBounds]
            by_cases hjk : k = j
            · subst hjk; exact ⟨Z k, by simp [HSZ.out, hlt]⟩
            · rw [if_neg hjk]; exact HE.out j hj
        case measure => simp [intOf]; omega
      · go_wp2
        go_ret
        refine ⟨some ⟨w.heap.size, 0, none⟩, n, rfl, by omega, by omega, (fun h => by cases h), ho.rd fun j hj => HD.out j (by omega), hb⟩

def Gd (n0 n1 n2 n3 : Nat) (w : World) (e : Ending) (w' : World) : Prop := ∃ b : Bool, e = .returned (.bool b) ∧ (b = true → n0 ≤ 4096 ∧ n1 = n0 ∧ n2 = n0 ∧ n3 = n0) ∧ w = w'
set_option maxRecDepth 100000 in
set_option maxHeartbeats 4000000 in
/-- The guard: where it says yes the four slices are of one length. -/
theorem guard5 (A0 : Option Addr) (n0 c0 : Nat) (Z0 : Nat → Int) (A1 : Option Addr) (n1 c1 : Nat) (A2 : Option Addr) (n2 c2 : Nat) (A3 : Option Addr) (n3 c3 : Nat) (w : World) (hA : Rd w w.heap.size 1 A0 n0 (fun j => .int .u8 (Z0 j))) (h0 : n0 ≤ 1048576) (h1 : n1 ≤ 1048576) (h2 : n2 ≤ 1048576) (h3 : n3 ≤ 1048576) :
    Calls Tryd.prog 5 #[.slice A0 n0 c0, .slice A1 n1 c1, .slice A2 n2 c2, .slice A3 n3 c3] w (Gd n0 n1 n2 n3 w) := by
  have HA := Lib.hid hA
  clear hA
  go_enter Tryd.func5, Tryd.ntmps5
  by_cases g : n0 ≤ 4096 ∧ n1 = n0 ∧ n2 = n0 ∧ n3 = n0
  · obtain ⟨g0, rfl, rfl, rfl⟩ := g
    go_wp2
    go_loop [10] (fun i => ∃ k : Nat, k ≤ n3 ∧ i = .int .i64 k) (fun i => n3 - (intOf i).toNat)
    case atStart => exact ⟨0, by omega, rfl⟩
    case round =>
      obtain ⟨k, hk, rfl⟩ := hrel
      by_cases hlt : k < n3
      · obtain ⟨b, off, rfl, hbb, hc⟩ := HA.out (by omega)
        have hck := hc k (by omega)
        clear hc
        by_cases hz : Z0 k ≤ 2
        · have t : decide (2 < Z0 k) = false := decide_eq_false (by omega)
          go_wp2
          go_round
          case rel => exact ⟨k + 1, by omega, by go_num⟩
          case measure => simp [intOf]; omega
        · have t : decide (2 < Z0 k) = true := decide_eq_true (by omega)
          go_wp2
          go_ret
          exact ⟨false, rfl, (fun h => by cases h), rfl⟩
      · go_wp2
        go_ret
        exact ⟨true, rfl, fun _ => ⟨g0, rfl, rfl, rfl⟩, rfl⟩
  · by_cases q0 : n0 ≤ 4096 ∧ n1 ≤ 4096 ∧ n2 ≤ 4096 ∧ n3 ≤ 4096
    · obtain ⟨q0, q1, q2, q3⟩ := q0
      by_cases r1 : n1 = n0
      · subst r1
        by_cases r2 : n2 = n1
        · subst r2
          have r3 : n3 ≠ n2 := fun h => g ⟨q0, rfl, rfl, h⟩
          go_wp2
          all_goals go_ret
          all_goals exact ⟨false, rfl, (fun h => by cases h), rfl⟩
        · go_wp2
          all_goals go_ret
          all_goals exact ⟨false, rfl, (fun h => by cases h), rfl⟩
      · go_wp2
        all_goals go_ret
        all_goals exact ⟨false, rfl, (fun h => by cases h), rfl⟩
    · go_wp2
      all_goals go_ret
      all_goals exact ⟨false, rfl, (fun h => by cases h), rfl⟩
end Go.Proofs.YtnchgmomfhollaaDoor.Ka
