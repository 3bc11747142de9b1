/-
  Contracts for the mangle cache: the sum of sizes, the clones. Conditions: sizes alone.
-/
import Derived.Test.YtkliapmijogfeaaFmtRows
import Derived.Test.YtkliapmijogfeaaFmtMem
import Derived.Test.YtkliapmijogfeaaFmtSz
import Derived.WalkKit
import Derived.WalkSpells
import Derived.Handy
import Derived.Lib.Hide
import Derived.PlainAid
namespace Go.Proofs.YtkliapmijogfeaaFmt.Ga
open Go.RowKit Go.PlainAid Mem Sz
set_option linter.unusedVariables false

def SumInt (e : Ending) : Prop := ∃ N : Int, e = .returned (.int .i64 N)
set_option maxHeartbeats 1000000 in
theorem sum_any (A : Option Addr) (n c : Nat) (S : Nat → ByteArray) (B : Option Addr) (m d : Nat) (T : Nat → ByteArray) (C : Option Addr) (l f : Nat) (w : World) (hA : Rd w w.heap.size 1 A n (fun j => .string (S j))) (hB : Rd w w.heap.size 1 B m (fun j => .string (T j)))
    (hn : n + tot S n ≤ 1048576) (hm : m + tot T m ≤ 1048576) (hl : l ≤ 1048576) :
    Calls Tryf.prog 5 #[.slice A n c, .slice B m d, .slice C l f] w fun e w' => SumInt e ∧ w = w' := by
  have HA := Lib.hid hA
  have HB := Lib.hid hB
  clear hA hB
  go_enter Tryf.func5, Tryf.ntmps5
  go_wp2
  go_loop [7, 8] (fun z i => ∃ k t : Nat, k ≤ n ∧ t ≤ 40000000 ∧ i = .int .i64 k ∧ z = .int .i64 t) (fun _ i => n - (intOf i).toNat)
  case atStart => exact ⟨0, 8 * n + 8 * m + l, by omega, by omega, rfl, vi (by omega)⟩
  case round =>
    obtain ⟨k, t, hk, ht, rfl, rfl⟩ := hrel
    by_cases hlt : k < n
    · obtain ⟨b, off, rfl, hb, hc⟩ := HA.out (by omega)
      have hck := hc k (by omega)
      clear hc
      have hta := tot_at S hlt
      by_cases h : t + (S k).size ≤ 1048576
      · have t2 : decide ((1048576 : Int) < (t : Int) + ((S k).size : Int)) = false := decide_eq_false (by omega)
        go_wp2
        go_round
        case rel => exact ⟨k + 1, t + (S k).size, by omega, by omega, by go_num, vi (by omega)⟩
        case measure => simp [intOf]; omega
      · have t2 : decide ((1048576 : Int) < (t : Int) + ((S k).size : Int)) = true := decide_eq_true (by omega)
        go_wp2
        go_ret
        exact ⟨⟨_, rfl⟩, rfl⟩
    · have z0 : decide (k < n) = false := decide_eq_false (by omega)
      go_wp2
      clear z0
      go_loop [7, 9] (fun z i => ∃ k t : Nat, k ≤ m ∧ t ≤ 40000000 ∧ i = .int .i64 k ∧ z = .int .i64 t) (fun _ i => m - (intOf i).toNat)
      case atStart => exact ⟨0, t, by omega, ht, rfl, rfl⟩
      case round =>
        obtain ⟨k', t, hk, ht, rfl, rfl⟩ := hrel
        by_cases hlt : k' < m
        · obtain ⟨b, off, rfl, hb, hc⟩ := HB.out (by omega)
          have hck := hc k' (by omega)
          clear hc
          have hta := tot_at T hlt
          by_cases h : t + (T k').size ≤ 1048576
          · have t2 : decide ((1048576 : Int) < (t : Int) + ((T k').size : Int)) = false := decide_eq_false (by omega)
            go_wp2
            go_round
            case rel => exact ⟨k' + 1, t + (T k').size, by omega, by omega, by go_num, vi (by omega)⟩
            case measure => simp [intOf]; omega
          · have t2 : decide ((1048576 : Int) < (t : Int) + ((T k').size : Int)) = true := decide_eq_true (by omega)
            go_wp2
            go_ret
            exact ⟨⟨_, rfl⟩, rfl⟩
        · have z0 : decide (k' < m) = false := decide_eq_false (by omega)
          go_wp2
          go_ret
          exact ⟨⟨_, rfl⟩, rfl⟩

def ClonedTo (n : Nat) (S : Nat → ByteArray) (w : World) (e : Ending) (w' : World) : Prop :=
  ∃ (A : Option Addr) (c : Nat), e = .returned (.slice A n c) ∧ Rd w' w'.heap.size 1 A n (fun j => .string (S j)) ∧ Below w.heap.size w w'
theorem info9 : (Tryf.prog.info? 9).map (fun i => (i.zero, i.size, i.bytes)) = some (some (.string ⟨#[]⟩), 1, 16) := by kernel_rfl
set_option maxHeartbeats 1000000 in
theorem clone_any (A : Option Addr) (n c : Nat) (S : Nat → ByteArray) (w : World) (hA : Rd w w.heap.size 1 A n (fun j => .string (S j))) (h0 : A = none → n = 0 ∧ c = 0) (hn : n ≤ 1048576) :
    Calls Tryf.prog 6 #[.slice A n c] w (ClonedTo n S w) := by
  have hnil := fun W => Lib.run_eql_slice_nil (P := Tryf.prog) W 22 9 A n c 0 0 Tryf.underlying22
  cases A with
  | none =>
    obtain ⟨rfl, rfl⟩ := h0 rfl
    clear h0
    go_enter Tryf.func6, Tryf.ntmps6
    go_wp2
    go_ret
    exact ⟨none, 0, rfl, Rd.zero _ _ _ _ _, Below.refl _ _⟩
  | some a =>
    have hmk := run_mk (P := Tryf.prog) 22 9 _ _ _ Tryf.underlying22 info9 n n (Nat.le_refl _) (by omega) (by omega)
    have HA := Lib.hid hA
    clear h0 hA
    go_enter Tryf.func6, Tryf.ntmps6
    go_wp2
    go_loopw [4] (fun i wr => ∃ (k : Nat) (cs : Array Value), k ≤ n ∧ i = .int .i64 k ∧ Own wr w.heap.size 9 cs ∧ cs.size = n ∧ (∀ j, j < k → cs[j]? = some (.string (S j))) ∧ (∀ j, j < n → ∃ s, cs[j]? = some (.string s)) ∧ Below w.heap.size w wr) (fun i _ => n - (intOf i).toNat)
    case atStart =>
      refine ⟨0, _, by omega, rfl, Own.new _ _ _, by simp [size_madeCells], by omega, fun j hj => ⟨⟨#[]⟩, ?_⟩, by go_grown⟩
      rw [made_at _ _ _ (by omega)]
      show some ((#[Value.string ⟨#[]⟩] : Array Value)[j % 1]!) = _
      rw [Nat.mod_one]
      rfl
    case round =>
      obtain ⟨k, cs, hk, rfl, ho, hsz, hd, he, hb⟩ := hrel
      clear hmk
      have HD := Lib.hid hd
      have HE := Lib.hid he
      have HSZ := Lib.hid hsz
      clear hd he hsz
      by_cases hlt : k < n
      · obtain ⟨b, off, ha, hbb, hc⟩ := HA.out (by omega)
        obtain rfl : a = ⟨b, off, none⟩ := by simpa using ha
        have hck := (hb.cell (p := ⟨b, off + k, none⟩) hbb).trans (hc k (by omega))
        obtain ⟨s0, hs0⟩ := HE.out k hlt
        have hcg := (ho.cell k).trans hs0
        have hfr := ho.frozen k
        clear hc ha hs0 hnil
        have hne : b ≠ w.heap.size := by omega
        go_wp2
        go_roundw
        case rel =>
          refine ⟨k + 1, _, by omega, by go_num, ho.set k _, by simpa using HSZ.out, fun j hj => ?_, fun j hj => ?_, hb.setCell (Nat.le_refl _) _⟩
          · rw [Array.getElem?_setIfInBounds]
            by_cases hjk : k = j
            · subst hjk; simp [HSZ.out, hlt]
            · rw [if_neg hjk]; exact HD.out j (by omega)
          · rw [Array.getElem?_setIfInBounds]
            by_cases hjk : k = j
            · subst hjk; exact ⟨S k, by simp [HSZ.out, hlt]⟩
            · rw [if_neg hjk]; exact HE.out j hj
        case measure => simp [intOf]; omega
      · go_wp2
        go_ret
        refine ⟨some ⟨w.heap.size, 0, none⟩, n, rfl, ho.rd fun j hj => HD.out j (by omega), hb⟩

def ClonedB (n : Nat) (Z : Nat → Bool) (w : World) (e : Ending) (w' : World) : Prop :=
  ∃ (A : Option Addr) (c : Nat), e = .returned (.slice A n c) ∧ Rd w' w'.heap.size 1 A n (fun j => .bool (Z j)) ∧ Below w.heap.size w w'
theorem info4 : (Tryf.prog.info? 4).map (fun i => (i.zero, i.size, i.bytes)) = some (some (.bool false), 1, 1) := by kernel_rfl
set_option maxHeartbeats 1000000 in
theorem cloneB_any (A : Option Addr) (n c : Nat) (Z : Nat → Bool) (w : World) (hA : Rd w w.heap.size 1 A n (fun j => .bool (Z j))) (h0 : A = none → n = 0 ∧ c = 0) (hn : n ≤ 1048576) :
    Calls Tryf.prog 7 #[.slice A n c] w (ClonedB n Z w) := by
  have hnil := fun W => Lib.run_eql_slice_nil (P := Tryf.prog) W 23 4 A n c 0 0 Tryf.underlying23
  cases A with
  | none =>
    obtain ⟨rfl, rfl⟩ := h0 rfl
    clear h0
    go_enter Tryf.func7, Tryf.ntmps7
    go_wp2
    go_ret
    exact ⟨none, 0, rfl, Rd.zero _ _ _ _ _, Below.refl _ _⟩
  | some a =>
    have hmk := run_mk (P := Tryf.prog) 23 4 _ _ _ Tryf.underlying23 info4 n n (Nat.le_refl _) (by omega) (by omega)
    have HA := Lib.hid hA
    clear h0 hA
    go_enter Tryf.func7, Tryf.ntmps7
    go_wp2
    go_loopw [4] (fun i wr => ∃ (k : Nat) (cs : Array Value), k ≤ n ∧ i = .int .i64 k ∧ Own wr w.heap.size 4 cs ∧ cs.size = n ∧ (∀ j, j < k → cs[j]? = some (.bool (Z j))) ∧ (∀ j, j < n → ∃ s, cs[j]? = some (.bool s)) ∧ Below w.heap.size w wr) (fun i _ => n - (intOf i).toNat)
    case atStart =>
      refine ⟨0, _, by omega, rfl, Own.new _ _ _, by simp [size_madeCells], by omega, fun j hj => ⟨false, ?_⟩, by go_grown⟩
      rw [made_at _ _ _ (by omega)]
      show some ((#[Value.bool false] : Array Value)[j % 1]!) = _
      rw [Nat.mod_one]
      rfl
    case round =>
      obtain ⟨k, cs, hk, rfl, ho, hsz, hd, he, hb⟩ := hrel
      clear hmk
      have HD := Lib.hid hd
      have HE := Lib.hid he
      have HSZ := Lib.hid hsz
      clear hd he hsz
      by_cases hlt : k < n
      · obtain ⟨b, off, ha, hbb, hc⟩ := HA.out (by omega)
        obtain rfl : a = ⟨b, off, none⟩ := by simpa using ha
        have hck := (hb.cell (p := ⟨b, off + k, none⟩) hbb).trans (hc k (by omega))
        obtain ⟨s0, hs0⟩ := HE.out k hlt
        have hcg := (ho.cell k).trans hs0
        have hfr := ho.frozen k
        clear hc ha hs0 hnil
        have hne : b ≠ w.heap.size := by omega
        go_wp2
        go_roundw
        case rel =>
          refine ⟨k + 1, _, by omega, by go_num, ho.set k _, by simpa using HSZ.out, fun j hj => ?_, fun j hj => ?_, hb.setCell (Nat.le_refl _) _⟩
          · rw [Array.getElem?_setIfInBounds]
            by_cases hjk : k = j
            · subst hjk; simp [HSZ.out, hlt]
            · rw [if_neg hjk]; exact HD.out j (by omega)
          · rw [Array.getElem?_setIfInBounds]
            by_cases hjk : k = j
            · subst hjk; exact ⟨Z k, by simp [HSZ.out, hlt]⟩
            · rw [if_neg hjk]; exact HE.out j hj
        case measure => simp [intOf]; omega
      · go_wp2
        go_ret
        refine ⟨some ⟨w.heap.size, 0, none⟩, n, rfl, ho.rd fun j hj => HD.out j (by omega), hb⟩

end Go.Proofs.YtkliapmijogfeaaFmt.Ga
