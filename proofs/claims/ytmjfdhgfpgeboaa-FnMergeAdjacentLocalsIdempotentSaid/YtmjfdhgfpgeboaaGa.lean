/-
  Contracts for the merged list: the guards, the clones. Conditions: sizes alone.
-/
import Derived.Test.YtmjfdhgfpgeboaaRows
import Derived.Test.YtmjfdhgfpgeboaaMem
import Derived.Test.YtmjfdhgfpgeboaaSz
import Derived.WalkKit
import Derived.WalkSpells
import Derived.Handy
import Derived.Lib.Hide
import Derived.PlainAid
namespace Go.Proofs.Ytmjfdhgfpgeboaa.Ga
open Go.RowKit Go.PlainAid Mem Sz
set_option linter.unusedVariables false

theorem wrapQ {x y : Int} (h : x = y) (h0 : -2147483648 ≤ y) (h1 : y ≤ 2147483647) : IntKind.i64.wrap x = y := by
  subst h
  simp [IntKind.wrap, IntKind.bits, IntKind.signed]
  omega
def Guard (n0 n1 n2 : Nat) (w : World) (e : Ending) (w' : World) : Prop := ∃ b, e = .returned (.bool b) ∧ (b = true → n0 ≤ 65536 ∧ n1 = n0 ∧ n2 = n0) ∧ w = w'
set_option maxHeartbeats 1000000 in
theorem guard5 (A0 : Option Addr) (n0 c0 : Nat) (A1 : Option Addr) (n1 c1 : Nat) (A2 : Option Addr) (n2 c2 : Nat) (Z : Nat → Int) (w : World) (hA : Rd w w.heap.size 1 A2 n2 (fun j => .int .u8 (Z j)))
    (h0 : n0 ≤ 1048576) (h1 : n1 ≤ 1048576) (h2 : n2 ≤ 1048576) (hZ : ∀ j, j < n2 → 0 ≤ Z j ∧ Z j ≤ 255) :
    Calls Try.prog 5 #[.slice A0 n0 c0, .slice A1 n1 c1, .slice A2 n2 c2] w (Guard n0 n1 n2 w) := by
  have HA := Lib.hid hA
  have HZ := Lib.hid hZ
  clear hA hZ
  by_cases g0 : n0 ≤ 65536
  · have u0 : decide ((65536 : Int) < (n0 : Int)) = false := decide_eq_false (by omega)
    by_cases g1 : n1 ≤ 65536
    · have u1 : decide ((65536 : Int) < (n1 : Int)) = false := decide_eq_false (by omega)
      by_cases g2 : n2 ≤ 65536
      · have u2 : decide ((65536 : Int) < (n2 : Int)) = false := decide_eq_false (by omega)
        have u3 : decide ((1048576 : Int) < (n0 : Int) + (n1 : Int) + (n2 : Int)) = false := decide_eq_false (by omega)
        by_cases e1 : n1 = n0
        · have u4 : ((n1 : Int) != (n0 : Int)) = false := by rw [e1]; simp
          by_cases e2 : n2 = n0
          · have u5 : ((n2 : Int) != (n0 : Int)) = false := by rw [e2]; simp
            have E1 := Lib.hid e1
            have E2 := Lib.hid e2
            clear e1 e2
            go_enter Try.func5, Try.ntmps5
            go_wp2
            clear u0 u1 u2 u3 u4 u5
            go_loop [7, 8] (fun z i => ∃ k t : Nat, k ≤ n2 ∧ t ≤ 255 * k ∧ i = .int .i64 k ∧ z = .int .i64 t) (fun _ i => n2 - (intOf i).toNat)
            case atStart => exact ⟨0, 0, by omega, by omega, rfl, rfl⟩
            case round =>
              obtain ⟨k, t, hk, ht, rfl, rfl⟩ := hrel
              by_cases hlt : k < n2
              · obtain ⟨b, off, rfl, hb, hc⟩ := HA.out (by omega)
                have hck := hc k (by omega)
                obtain ⟨z0, z1⟩ := HZ.out k hlt
                obtain ⟨q, hq⟩ : ∃ q : Nat, Z k = (q : Int) := ⟨(Z k).toNat, by omega⟩
                have hq1 : q ≤ 255 := by omega
                simp only [hq] at hck
                have qv : IntKind.i64.wrap (q : Int) = (q : Int) := wrapQ rfl (by omega) (by omega)
                clear hc z0 z1 hq
                go_wp2
                go_round
                case rel => exact ⟨k + 1, t + q, by omega, by omega, by go_num, vi (by omega)⟩
                case measure => simp [intOf]; omega
              · have z0 : decide (k < n2) = false := decide_eq_false (by omega)
                go_wp2
                go_ret
                exact ⟨_, rfl, fun _ => ⟨g0, E1.out, E2.out⟩, rfl⟩
          · have u5 : ((n2 : Int) != (n0 : Int)) = true := by rw [bne_iff_ne]; omega
            go_enter Try.func5, Try.ntmps5
            go_wp2
            go_ret
            exact ⟨false, rfl, (fun h => by cases h), rfl⟩
        · have u4 : ((n1 : Int) != (n0 : Int)) = true := by rw [bne_iff_ne]; omega
          go_enter Try.func5, Try.ntmps5
          go_wp2
          go_ret
          exact ⟨false, rfl, (fun h => by cases h), rfl⟩
      · have u2 : decide ((65536 : Int) < (n2 : Int)) = true := decide_eq_true (by omega)
        go_enter Try.func5, Try.ntmps5
        go_wp2
        go_ret
        exact ⟨false, rfl, (fun h => by cases h), rfl⟩
    · have u1 : decide ((65536 : Int) < (n1 : Int)) = true := decide_eq_true (by omega)
      go_enter Try.func5, Try.ntmps5
      go_wp2
      go_ret
      exact ⟨false, rfl, (fun h => by cases h), rfl⟩
  · have u0 : decide ((65536 : Int) < (n0 : Int)) = true := decide_eq_true (by omega)
    go_enter Try.func5, Try.ntmps5
    go_wp2
    go_ret
    exact ⟨false, rfl, (fun h => by cases h), rfl⟩

def ClonedB (n : Nat) (Z : Nat → Bool) (w : World) (e : Ending) (w' : World) : Prop :=
  ∃ (A : Option Addr) (c : Nat), e = .returned (.slice A n c) ∧ Rd w' w'.heap.size 1 A n (fun j => .bool (Z j)) ∧ Below w.heap.size w w'
theorem info4 : (Try.prog.info? 4).map (fun i => (i.zero, i.size, i.bytes)) = some (some (.bool false), 1, 1) := by kernel_rfl
set_option maxHeartbeats 1000000 in
theorem cloneB_any (A : Option Addr) (n c : Nat) (Z : Nat → Bool) (w : World) (hA : Rd w w.heap.size 1 A n (fun j => .bool (Z j))) (h0 : A = none → n = 0 ∧ c = 0) (hn : n ≤ 1048576) :
    Calls Try.prog 7 #[.slice A n c] w (ClonedB n Z w) := by
  have hnil := fun W => Lib.run_eql_slice_nil (P := Try.prog) W 23 4 A n c 0 0 Try.underlying23
  cases A with
  | none =>
    obtain ⟨rfl, rfl⟩ := h0 rfl
    clear h0
    go_enter Try.func7, Try.ntmps7
    go_wp2
    go_ret
    exact ⟨none, 0, rfl, Rd.zero _ _ _ _ _, Below.refl _ _⟩
  | some a =>
    have hmk := run_mk (P := Try.prog) 23 4 _ _ _ Try.underlying23 info4 n n (Nat.le_refl _) (by omega) (by omega)
    have HA := Lib.hid hA
    clear h0 hA
    go_enter Try.func7, Try.ntmps7
    go_wp2
    go_loopw [4] (fun i wr => ∃ (k : Nat) (cs : Array Value), k ≤ n ∧ i = .int .i64 k ∧ Own wr w.heap.size 4 cs ∧ cs.size = n ∧ (∀ j, j < k → cs[j]? = some (.bool (Z j))) ∧ (∀ j, j < n → ∃ s, cs[j]? = some (.bool s)) ∧ Below w.heap.size w wr) (fun i _ => n - (intOf i).toNat)
    case atStart =>
      refine ⟨0, _, by omega, rfl, Own.new _ _ _, by simp [size_madeCells], by omega, fun j hj => ⟨false, ?_⟩, by go_grown⟩
      rw [made_at _ _ _ (by omega)]
      show some ((#[Value.bool false] : Array Value)[j % 1]!) = _
      rw [Nat.mod_one]
      rfl
    case round =>
      obtain ⟨k, cs, hk, rfl, ho, hsz, hd, he, hb⟩ := hrel
      clear hmk
      have HD := Lib.hid hd
      have HE := Lib.hid he
      have HSZ := Lib.hid hsz
      clear hd he hsz
      by_cases hlt : k < n
      · obtain ⟨b, off, ha, hbb, hc⟩ := HA.out (by omega)
        obtain rfl : a = ⟨b, off, none⟩ := by simpa using ha
        have hck := (hb.cell (p := ⟨b, off + k, none⟩) hbb).trans (hc k (by omega))
        obtain ⟨s0, hs0⟩ := HE.out k hlt
        have hcg := (ho.cell k).trans hs0
        have hfr := ho.frozen k
        clear hc ha hs0 hnil
        have hne : b ≠ w.heap.size := by omega
        go_wp2
        go_roundw
        case rel =>
          refine ⟨k + 1, _, by omega, by go_num, ho.set k _, by simpa using HSZ.out, fun j hj => ?_, fun j hj => ?_, hb.setCell (Nat.le_refl _) _⟩
          · rw [Array.getElem?_setIfInBounds]
            by_cases hjk : k = j
            · subst hjk; simp [HSZ.out, hlt]
            · rw [if_neg hjk]; exact HD.out j (by omega)
          · rw [Array.getElem?_setIfInBounds]
            by_cases hjk : k = j
            · subst hjk; exact ⟨Z k, by simp [HSZ.out, hlt]⟩
            · rw [if_neg hjk]; exact HE.out j hj
        case measure => simp [intOf]; omega
      · go_wp2
        go_ret
        refine ⟨some ⟨w.heap.size, 0, none⟩, n, rfl, ho.rd fun j hj => HD.out j (by omega), hb⟩

def ClonedI (n : Nat) (Z : Nat → Int) (w : World) (e : Ending) (w' : World) : Prop :=
  ∃ (A : Option Addr) (c : Nat), e = .returned (.slice A n c) ∧ Rd w' w'.heap.size 1 A n (fun j => .int .u8 (Z j)) ∧ Below w.heap.size w w'
theorem info5 : (Try.prog.info? 5).map (fun i => (i.zero, i.size, i.bytes)) = some (some (.int .u8 0), 1, 1) := by kernel_rfl
set_option maxHeartbeats 1000000 in
theorem cloneI_any (A : Option Addr) (n c : Nat) (Z : Nat → Int) (w : World) (hA : Rd w w.heap.size 1 A n (fun j => .int .u8 (Z j))) (h0 : A = none → n = 0 ∧ c = 0) (hn : n ≤ 1048576) :
    Calls Try.prog 6 #[.slice A n c] w (ClonedI n Z w) := by
  have hnil := fun W => Lib.run_eql_slice_nil (P := Try.prog) W 22 5 A n c 0 0 Try.underlying22
  cases A with
  | none =>
    obtain ⟨rfl, rfl⟩ := h0 rfl
    clear h0
    go_enter Try.func6, Try.ntmps6
    go_wp2
    go_ret
    exact ⟨none, 0, rfl, Rd.zero _ _ _ _ _, Below.refl _ _⟩
  | some a =>
    have hmk := run_mk (P := Try.prog) 22 5 _ _ _ Try.underlying22 info5 n n (Nat.le_refl _) (by omega) (by omega)
    have HA := Lib.hid hA
    clear h0 hA
    go_enter Try.func6, Try.ntmps6
    go_wp2
    go_loopw [4] (fun i wr => ∃ (k : Nat) (cs : Array Value), k ≤ n ∧ i = .int .i64 k ∧ Own wr w.heap.size 5 cs ∧ cs.size = n ∧ (∀ j, j < k → cs[j]? = some (.int .u8 (Z j))) ∧ (∀ j, j < n → ∃ s, cs[j]? = some (.int .u8 s)) ∧ Below w.heap.size w wr) (fun i _ => n - (intOf i).toNat)
    case atStart =>
      refine ⟨0, _, by omega, rfl, Own.new _ _ _, by simp [size_madeCells], by omega, fun j hj => ⟨0, ?_⟩, by go_grown⟩
      rw [made_at _ _ _ (by omega)]
      show some ((#[Value.int .u8 0] : Array Value)[j % 1]!) = _
      rw [Nat.mod_one]
      rfl
    case round =>
      obtain ⟨k, cs, hk, rfl, ho, hsz, hd, he, hb⟩ := hrel
      clear hmk
      have HD := Lib.hid hd
      have HE := Lib.hid he
      have HSZ := Lib.hid hsz
      clear hd he hsz
      by_cases hlt : k < n
      · obtain ⟨b, off, ha, hbb, hc⟩ := HA.out (by omega)
        obtain rfl : a = ⟨b, off, none⟩ := by simpa using ha
        have hck := (hb.cell (p := ⟨b, off + k, none⟩) hbb).trans (hc k (by omega))
        obtain ⟨s0, hs0⟩ := HE.out k hlt
        have hcg := (ho.cell k).trans hs0
        have hfr := ho.frozen k
        clear hc ha hs0 hnil
        have hne : b ≠ w.heap.size := by omega
        go_wp2
        go_roundw
        case rel =>
          refine ⟨k + 1, _, by omega, by go_num, ho.set k _, by simpa using HSZ.out, fun j hj => ?_, fun j hj => ?_, hb.setCell (Nat.le_refl _) _⟩
          · rw [Array.getElem?_setIfInBounds]
            by_cases hjk : k = j
            · subst hjk; simp [HSZ.out, hlt]
            · rw [if_neg hjk]; exact HD.out j (by omega)
          · rw [Array.getElem?_setIfInBounds]
            by_cases hjk : k = j
            · subst hjk; exact ⟨Z k, by simp [HSZ.out, hlt]⟩
            · rw [if_neg hjk]; exact HE.out j hj
        case measure => simp [intOf]; omega
      · go_wp2
        go_ret
        refine ⟨some ⟨w.heap.size, 0, none⟩, n, rfl, ho.rd fun j hj => HD.out j (by omega), hb⟩

end Go.Proofs.Ytmjfdhgfpgeboaa.Ga
