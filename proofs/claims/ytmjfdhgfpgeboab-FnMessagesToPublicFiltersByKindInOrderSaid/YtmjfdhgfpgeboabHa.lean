/-
  Contracts of the small functions: lengths, bytes, picks, the text of a note, the path style. Conditions: sizes alone.
-/
import Derived.Test.YtmjfdhgfpgeboabRows
import Derived.Test.YtmjfdhgfpgeboabMem
import Derived.WalkKit
import Derived.WalkSpells
import Derived.Handy
import Derived.Lib.Hide
import Derived.PlainAid
namespace Go.Proofs.Ytmjfdhgfpgeboab.Ha
open Go.RowKit Go.PlainAid Mem
set_option linter.unusedVariables false

theorem wrapQ {x y : Int} (h : x = y) (h0 : -2147483648 ≤ y) (h1 : y ≤ 2147483647) : IntKind.i64.wrap x = y := by
  subst h
  simp [IntKind.wrap, IntKind.bits, IntKind.signed]
  omega
theorem wrapW {x y : Int} (h : x = y) (h0 : -9223372036854775808 ≤ y) (h1 : y ≤ 9223372036854775807) : IntKind.i64.wrap x = y := by
  subst h
  simp [IntKind.wrap, IntKind.bits, IntKind.signed]
  omega

/-- element i of n strings, or none -/
def pickS (S : Nat → ByteArray) (n i : Nat) : ByteArray := if i < n then S i else ByteArray.empty
def pickB (Z : Nat → Int) (n i : Nat) : Int := if i < n then Z i else 0
theorem pickS9 (A : Option Addr) (n c i : Nat) (S : Nat → ByteArray) (w : World) {B : Nat} (hA : Rd w B 1 A n (fun j => .string (S j))) (hn : n ≤ 1048576) (hi : i ≤ 1048576) :
    Calls Try.prog 9 #[.slice A n c, .int .i64 i] w fun e w' => e = .returned (.string (pickS S n i)) ∧ w = w' := by
  unfold pickS
  by_cases h : i < n
  · obtain ⟨b, off, rfl, hb, hc⟩ := hA.of (by omega)
    have hck := hc i (by omega)
    clear hc
    rw [if_pos h]
    go_enter Try.func9, Try.ntmps9
    go_wp2
    go_ret
    exact ⟨rfl, rfl⟩
  · have z0 : decide (i < n) = false := decide_eq_false h
    rw [if_neg h]
    go_enter Try.func9, Try.ntmps9
    go_wp2
    go_ret
    exact ⟨rfl, rfl⟩
theorem pickB11 (A : Option Addr) (n c i : Nat) (Z : Nat → Int) (w : World) {B : Nat} (hA : Rd w B 1 A n (fun j => .int .u8 (Z j))) (hn : n ≤ 1048576) (hi : i ≤ 1048576) :
    Calls Try.prog 11 #[.slice A n c, .int .i64 i] w fun e w' => e = .returned (.int .u8 (pickB Z n i)) ∧ w = w' := by
  unfold pickB
  by_cases h : i < n
  · obtain ⟨b, off, rfl, hb, hc⟩ := hA.of (by omega)
    have hck := hc i (by omega)
    clear hc
    rw [if_pos h]
    go_enter Try.func11, Try.ntmps11
    go_wp2
    go_ret
    exact ⟨rfl, rfl⟩
  · have z0 : decide (i < n) = false := decide_eq_false h
    rw [if_neg h]
    go_enter Try.func11, Try.ntmps11
    go_wp2
    go_ret
    exact ⟨rfl, rfl⟩
def noteT (k : Nat) : ByteArray := if k = 0 then ⟨#[110, 48]⟩ else if k = 1 then ⟨#[110, 49]⟩ else ⟨#[110, 50]⟩
theorem noteT12 (k : Nat) (w : World) : Calls Try.prog 12 #[.int .i64 k] w fun e w' => e = .returned (.string (noteT k)) ∧ w = w' := by
  unfold noteT
  by_cases h0 : k = 0
  · subst h0
    rw [if_pos rfl]
    go_enter Try.func12, Try.ntmps12
    go_wp2
    go_ret
    exact ⟨rfl, rfl⟩
  · rw [if_neg h0]
    have u0 : ((k : Int) == 0) = false := by rw [beq_eq_false_iff_ne]; omega
    by_cases h1 : k = 1
    · subst h1
      rw [if_pos rfl]
      clear u0
      go_enter Try.func12, Try.ntmps12
      go_wp2
      go_ret
      exact ⟨rfl, rfl⟩
    · rw [if_neg h1]
      have u1 : ((k : Int) == 1) = false := by rw [beq_eq_false_iff_ne]; omega
      go_enter Try.func12, Try.ntmps12
      go_wp2
      go_ret
      exact ⟨rfl, rfl⟩

def Lens (n0 n1 n2 n3 n4 : Nat) (w : World) (e : Ending) (w' : World) : Prop := ∃ b, e = .returned (.bool b) ∧ (b = true → n0 ≤ 4096 ∧ n1 ≤ 4096 ∧ n2 ≤ 4096 ∧ n3 ≤ 4096 ∧ n4 ≤ 4096) ∧ w = w'
theorem lens5 (A0 : Option Addr) (n0 c0 : Nat) (A1 : Option Addr) (n1 c1 : Nat) (A2 : Option Addr) (n2 c2 : Nat) (A3 : Option Addr) (n3 c3 : Nat) (A4 : Option Addr) (n4 c4 : Nat) (w : World) :
    Calls Try.prog 5 #[.slice A0 n0 c0, .slice A1 n1 c1, .slice A2 n2 c2, .slice A3 n3 c3, .slice A4 n4 c4] w (Lens n0 n1 n2 n3 n4 w) := by
  by_cases g0 : n0 ≤ 4096
  · have u0 : decide ((n0 : Int) ≤ 4096) = true := decide_eq_true (by omega)
    by_cases g1 : n1 ≤ 4096
    · have u1 : decide ((n1 : Int) ≤ 4096) = true := decide_eq_true (by omega)
      by_cases g2 : n2 ≤ 4096
      · have u2 : decide ((n2 : Int) ≤ 4096) = true := decide_eq_true (by omega)
        by_cases g3 : n3 ≤ 4096
        · have u3 : decide ((n3 : Int) ≤ 4096) = true := decide_eq_true (by omega)
          by_cases g4 : n4 ≤ 4096
          · have u4 : decide ((n4 : Int) ≤ 4096) = true := decide_eq_true (by omega)
            go_enter Try.func5, Try.ntmps5
            go_wp2
            go_ret
            exact ⟨_, rfl, fun _ => ⟨g0, g1, g2, g3, g4⟩, rfl⟩
          · have u4 : decide ((n4 : Int) ≤ 4096) = false := decide_eq_false (by omega)
            go_enter Try.func5, Try.ntmps5
            go_wp2
            go_ret
            exact ⟨false, rfl, (fun h => by cases h), rfl⟩
        · have u3 : decide ((n3 : Int) ≤ 4096) = false := decide_eq_false (by omega)
          go_enter Try.func5, Try.ntmps5
          go_wp2
          go_ret
          exact ⟨false, rfl, (fun h => by cases h), rfl⟩
      · have u2 : decide ((n2 : Int) ≤ 4096) = false := decide_eq_false (by omega)
        go_enter Try.func5, Try.ntmps5
        go_wp2
        go_ret
        exact ⟨false, rfl, (fun h => by cases h), rfl⟩
    · have u1 : decide ((n1 : Int) ≤ 4096) = false := decide_eq_false (by omega)
      go_enter Try.func5, Try.ntmps5
      go_wp2
      go_ret
      exact ⟨false, rfl, (fun h => by cases h), rfl⟩
  · have u0 : decide ((n0 : Int) ≤ 4096) = false := decide_eq_false (by omega)
    go_enter Try.func5, Try.ntmps5
    go_wp2
    go_ret
    exact ⟨false, rfl, (fun h => by cases h), rfl⟩

set_option maxHeartbeats 1000000 in
theorem str13 (A : Option Addr) (n c : Nat) (S : Nat → ByteArray) (w : World) {B : Nat} (hA : Rd w B 1 A n (fun j => .string (S j))) (hn : n ≤ 4096) (hS : ∀ j, j < n → (S j).size ≤ 1048576) :
    Calls Try.prog 13 #[.slice A n c] w fun e w' => ∃ z : Nat, e = .returned (.int .i64 z) ∧ z ≤ 4295032832 ∧ w = w' := by
  have HA := Lib.hid hA
  have HS := Lib.hid hS
  clear hA hS
  go_enter Try.func13, Try.ntmps13
  go_wp2
  go_loop [3, 4] (fun x i => ∃ k t : Nat, k ≤ n ∧ i = .int .i64 k ∧ x = .int .i64 t ∧ t ≤ 1048592 * k) (fun _ i => n - (intOf i).toNat)
  case atStart => exact ⟨0, 0, by omega, rfl, rfl, by omega⟩
  case round =>
    obtain ⟨k, t, hk, rfl, rfl, ht⟩ := hrel
    by_cases hlt : k < n
    · obtain ⟨b, off, rfl, hb, hc⟩ := HA.out (by omega)
      have hck := hc k (by omega)
      have hs := HS.out k hlt
      have wr : IntKind.i64.wrap ((t : Int) + ((S k).size + 16)) = ((t + ((S k).size + 16) : Nat) : Int) := wrapW (by omega) (by omega) (by omega)
      have wr2 : IntKind.i64.wrap (((S k).size : Int) + 16) = ((S k).size : Int) + 16 := wrapW rfl (by omega) (by omega)
      clear hc
      go_wp2
      go_round
      case rel => exact ⟨k + 1, t + ((S k).size + 16), by omega, by go_num, rfl, by omega⟩
      case measure => simp [intOf]; omega
    · have z0 : decide (k < n) = false := decide_eq_false hlt
      go_wp2
      go_ret
      exact ⟨t, rfl, by omega, rfl⟩
set_option maxHeartbeats 1000000 in
theorem bytes6 (A0 : Option Addr) (n0 c0 : Nat) (A1 : Option Addr) (n1 c1 : Nat) (A2 : Option Addr) (n2 c2 : Nat) (A3 : Option Addr) (n3 c3 : Nat) (A4 : Option Addr) (n4 c4 : Nat) (S2 S3 : Nat → ByteArray) (w : World) {B : Nat}
    (hA2 : Rd w B 1 A2 n2 (fun j => .string (S2 j))) (hA3 : Rd w B 1 A3 n3 (fun j => .string (S3 j))) (h0 : n0 ≤ 4096) (h1 : n1 ≤ 4096) (h2 : n2 ≤ 4096) (h3 : n3 ≤ 4096) (h4 : n4 ≤ 4096) (hS2 : ∀ j, j < n2 → (S2 j).size ≤ 1048576) (hS3 : ∀ j, j < n3 → (S3 j).size ≤ 1048576) :
    Calls Try.prog 6 #[.slice A0 n0 c0, .slice A1 n1 c1, .slice A2 n2 c2, .slice A3 n3 c3, .slice A4 n4 c4] w fun e w' => ∃ z : Int, e = .returned (.int .i64 z) ∧ w = w' := by
  have H2 := Lib.hid (str13 A2 n2 c2 S2 w hA2 h2 hS2)
  have H3 := Lib.hid (str13 A3 n3 c3 S3 w hA3 h3 hS3)
  clear hA2 hA3 hS2 hS3
  go_enter Try.func6, Try.ntmps6
  go_wp2_with fail
  refine H2.out.mono ?_
  rintro e w' ⟨z2, rfl, hz2, rfl⟩
  clear H2
  go_wp2_with fail
  refine H3.out.mono ?_
  rintro e w' ⟨z3, rfl, hz3, rfl⟩
  clear H3
  go_wp2_with fail
  go_ret
  exact ⟨_, rfl, rfl⟩
end Go.Proofs.Ytmjfdhgfpgeboab.Ha
