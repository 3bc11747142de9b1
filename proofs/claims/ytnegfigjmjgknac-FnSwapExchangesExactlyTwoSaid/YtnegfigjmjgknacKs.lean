/-
  Contracts for the law on the first key: the sum of sizes, the clone of a list of strings, the entry of keys, keysStartWithDot. Conditions: sizes alone.
-/
import Derived.Test.YtnegfigjmjgknacRows
import Derived.Test.YtnegfigjmjgknacMem
import Derived.Test.YtnegfigjmjgknacUrl
import Derived.Test.YtnegfigjmjgknacSz
import Derived.WalkKit
import Derived.WalkSpells
import Derived.Handy
import Derived.Lib.Hide
namespace Go.Proofs.Ytnegfigjmjgknac.Ks
open Go.RowKit Go.PlainAid Str Mem Url Sz
set_option linter.unusedVariables false

def SumInt (e : Ending) : Prop := ∃ N : Int, 0 ≤ N ∧ N ≤ 100000000 ∧ e = .returned (.int .i64 N)
set_option maxHeartbeats 1000000 in
theorem sum_any (A : Option Addr) (n c : Nat) (S : Nat → ByteArray) (w : World) (hA : Rd w w.heap.size 1 A n (fun j => .string (S j))) (hn : n + tot S n ≤ 1048576) :
    Calls Try.prog 25 #[.slice A n c] w fun e w' => SumInt e ∧ w = w' := by
  have HA := Lib.hid hA
  clear hA
  go_enter Try.func25, Try.ntmps25
  go_wp2
  go_loop [3, 4] (fun z i => ∃ k : Nat, k ≤ n ∧ i = .int .i64 k ∧ z = .int .i64 ((16 * k + tot S k : Nat) : Int)) (fun _ i => n - (intOf i).toNat)
  case atStart => exact ⟨0, by omega, rfl, rfl⟩
  case round =>
    obtain ⟨k, hk, rfl, rfl⟩ := hrel
    have hm := tot_mono S hk
    by_cases hlt : k < n
    · obtain ⟨b, off, rfl, hb, hc⟩ := HA.out (by omega)
      have hck := hc k (by omega)
      clear hc
      have hta := tot_at S hlt
      have hts := Lib.hid (totS S k)
      go_wp2
      · go_ret
        exact ⟨⟨_, by omega, by omega, rfl⟩, rfl⟩
      · go_round
        case rel => exact ⟨k + 1, by omega, by go_num, vi (by have := hts.out; omega)⟩
        case measure => simp [intOf]; omega
    · go_wp2
      go_ret
      exact ⟨⟨((16 * k + tot S k : Nat) : Int), by omega, by omega, rfl⟩, rfl⟩

def ClonedTo (n : Nat) (S : Nat → ByteArray) (w : World) (e : Ending) (w' : World) : Prop :=
  ∃ (A : Option Addr) (c : Nat), e = .returned (.slice A n c) ∧ Rd w' w'.heap.size 1 A n (fun j => .string (S j)) ∧ (A = none → n = 0 ∧ c = 0) ∧ Below w.heap.size w w'
theorem info9 : (Try.prog.info? 9).map (fun i => (i.zero, i.size, i.bytes)) = some (some (.string ⟨#[]⟩), 1, 16) := by kernel_rfl
set_option maxHeartbeats 1000000 in
theorem clone_any (A : Option Addr) (n c : Nat) (S : Nat → ByteArray) (w : World) (hA : Rd w w.heap.size 1 A n (fun j => .string (S j))) (h0 : A = none → n = 0 ∧ c = 0) (hn : n ≤ 1048576) :
    Calls Try.prog 26 #[.slice A n c] w (ClonedTo n S w) := by
  have hnil := fun W => Lib.run_eql_slice_nil (P := Try.prog) W 22 9 A n c 0 0 Try.underlying22
  cases A with
  | none =>
    obtain ⟨rfl, rfl⟩ := h0 rfl
    clear h0
    go_enter Try.func26, Try.ntmps26
    go_wp2
    go_ret
    exact ⟨none, 0, rfl, Rd.zero _ _ _ _ _, fun _ => ⟨rfl, rfl⟩, Below.refl _ _⟩
  | some a =>
    have hmk := run_mk (P := Try.prog) 22 9 _ _ _ Try.underlying22 info9 n n (Nat.le_refl _) (by omega) (by omega)
    have HA := Lib.hid hA
    clear h0 hA
    go_enter Try.func26, Try.ntmps26
    go_wp2
    go_loopw [4] (fun i wr => ∃ (k : Nat) (cs : Array Value), k ≤ n ∧ i = .int .i64 k ∧ Own wr w.heap.size 9 cs ∧ cs.size = n ∧ (∀ j, j < k → cs[j]? = some (.string (S j))) ∧ (∀ j, j < n → ∃ s, cs[j]? = some (.string s)) ∧ Below w.heap.size w wr) (fun i _ => n - (intOf i).toNat)
    case atStart =>
      refine ⟨0, _, by omega, rfl, Own.new _ _ _, by simp [size_madeCells], by omega, fun j hj => ⟨⟨#[]⟩, ?_⟩, by go_grown⟩
      rw [made_at _ _ _ (by omega)]
      show some ((#[Value.string ⟨#[]⟩] : Array Value)[j % 1]!) = _
      rw [Nat.mod_one]
      rfl
    case round =>
      obtain ⟨k, cs, hk, rfl, ho, hsz, hd, he, hb⟩ := hrel
      clear hmk
      have HD := Lib.hid hd
      have HE := Lib.hid he
      have HSZ := Lib.hid hsz
      clear hd he hsz
      by_cases hlt : k < n
      · obtain ⟨b, off, ha, hbb, hc⟩ := HA.out (by omega)
        obtain rfl : a = ⟨b, off, none⟩ := by simpa using ha
        have hck := (hb.cell (p := ⟨b, off + k, none⟩) hbb).trans (hc k (by omega))
        obtain ⟨s0, hs0⟩ := HE.out k hlt
        have hcg := (ho.cell k).trans hs0
        have hfr := ho.frozen k
        clear hc ha hs0 hnil
        have hne : b ≠ w.heap.size := by omega
        go_wp2
        go_roundw
        case rel =>
          refine ⟨k + 1, _, by omega, by go_num, ho.set k _, by simpa using HSZ.out, fun j hj => ?_, fun j hj => ?_, hb.setCell (Nat.le_refl _) _⟩
          · rw [Array.getElem?_setIfInBounds]
            by_cases hjk : k = j
            · subst hjk; simp [HSZ.out, hlt]
            · rw [if_neg hjk]; exact HD.out j (by omega)
          · rw [Array.getElem?_setIfInBounds]
            by_cases hjk : k = j
            · subst hjk; exact ⟨S k, by simp [HSZ.out, hlt]⟩
            · rw [if_neg hjk]; exact HE.out j hj
        case measure => simp [intOf]; omega
      · go_wp2
        go_ret
        refine ⟨some ⟨w.heap.size, 0, none⟩, n, rfl, ho.rd fun j hj => HD.out j (by omega), (fun h => by cases h), hb⟩

def EntryOf (n : Nat) (S : Nat → ByteArray) (w : World) (e : Ending) (w' : World) : Prop :=
  ∃ (M : Option Addr) (c : Nat), e = .returned (.agg #[.string ⟨#[]⟩, .slice none 0 0, .slice M n c, .slice none 0 0, .int .i32 0, .int .i32 0, .int .u8 3]) ∧
    (0 < n → ∃ g, M = some ⟨g, 0, none⟩ ∧ g < w'.heap.size ∧ ∀ j, j < n → w'.cell? ⟨g, j * 10, none⟩ = some (.string (S j))) ∧ Below w.heap.size w w'
def zc57 : Array Value := #[.string ⟨#[]⟩, .string ⟨#[]⟩, .slice none 0 0, .slice none 0 0, .slice none 0 0, .int .i32 0, .int .i32 0, .int .u8 0, .int .i32 0, .int .i32 0]
theorem info57 : (Try.prog.info? 57).map (fun i => (i.zero, i.size, i.bytes)) = some (some (.agg zc57), 10, 128) := by kernel_rfl
set_option maxHeartbeats 2000000 in
theorem entry_any (A : Option Addr) (n c : Nat) (S : Nat → ByteArray) (w : World) (hA : Rd w w.heap.size 1 A n (fun j => .string (S j))) (h0 : A = none → n = 0 ∧ c = 0) (hn : n ≤ 4194304) :
    Calls Try.prog 42 #[.int .u8 3, .slice A n c, .int .i32 0, .int .i32 0] w (EntryOf n S w) := by
  have hnil := fun W => run_neq_slice_nil_any (P := Try.prog) W 22 9 A n c 0 0 Try.underlying22
  cases A with
  | none =>
    obtain ⟨rfl, rfl⟩ := h0 rfl
    clear h0
    go_enter Try.func42, Try.ntmps42
    go_wp2
    refine wp_loop_rounds 1 ?_
    rw [rounds_succ]
    go_wp2
    go_returns
    exact ⟨none, 0, rfl, fun h => absurd h (by omega), by go_grown⟩
  | some a =>
    have hmk := run_mkc (P := Try.prog) 25 57 _ zc57 rfl _ _ Try.underlying25 info57 n n (Nat.le_refl _) (by omega) (by omega)
    have HA := Lib.hid hA
    clear h0 hA
    go_enter Try.func42, Try.ntmps42
    go_wp2
    go_loopw [10] (fun i wr => ∃ (k : Nat) (cs : Array Value), k ≤ n ∧ i = .int .i64 k ∧ Own wr (w.heap.size + 1) 57 cs ∧ Own wr w.heap.size 38 #[.string ⟨#[]⟩, .slice none 0 0, .slice none 0 0, .slice none 0 0, .int .i32 0, .int .i32 0, .int .u8 0] ∧ cs.size = n * 10 ∧ (∀ j, j < k → cs[j * 10]? = some (.string (S j))) ∧ (∀ j, j < n → ∃ s, cs[j * 10]? = some (.string s)) ∧ Below w.heap.size w wr) (fun i _ => n - (intOf i).toNat)
    case atStart =>
      refine ⟨0, madeCells zc57 (n * 10), by omega, rfl, ?_, (Own.new w _ _).alloc _, size_madeCells _ _, by omega, fun j hj => ⟨⟨#[]⟩, ?_⟩, by go_grown⟩
      · have := Own.new (w.alloc (.cells #[.string ⟨#[]⟩, .slice none 0 0, .slice none 0 0, .slice none 0 0, .int .i32 0, .int .i32 0, .int .u8 0] 38)) 57 (madeCells zc57 (n * 10))
        rw [World.size_alloc] at this
        exact this
      · rw [made_at _ _ _ (by omega)]
        show some (zc57[j * 10 % 10]!) = _
        rw [Nat.mul_mod_left]
        rfl
    case round =>
      obtain ⟨k, cs, hk, rfl, ho, ho2, hsz, hd, he, hb⟩ := hrel
      clear hmk
      have HD := Lib.hid hd
      have HE := Lib.hid he
      have HSZ := Lib.hid hsz
      clear hd he hsz
      by_cases hlt : k < n
      · obtain ⟨b, off, ha, hbb, hc⟩ := HA.out (by omega)
        obtain rfl : a = ⟨b, off, none⟩ := by simpa using ha
        have hck := (hb.cell (p := ⟨b, off + k, none⟩) hbb).trans (hc k (by omega))
        obtain ⟨s0, hs0⟩ := HE.out k hlt
        have hcg := (ho.cell (k * 10)).trans hs0
        have hfr := ho.frozen (k * 10)
        clear hc ha hs0 hnil
        go_wp2
        go_roundw
        case rel =>
          refine ⟨k + 1, _, by omega, by go_num, ho.set (k * 10) _, ho2.far (by show w.heap.size ≠ w.heap.size + 1; omega) _, by simpa using HSZ.out, fun j hj => ?_, fun j hj => ?_, hb.setCell (by simp) _⟩
          · rw [Array.getElem?_setIfInBounds]
            by_cases hjk : k = j
            · subst hjk; simp [HSZ.out, hlt]
            · rw [if_neg (by omega)]; exact HD.out j (by omega)
          · rw [Array.getElem?_setIfInBounds]
            by_cases hjk : k = j
            · subst hjk; exact ⟨S k, by simp [HSZ.out, hlt]⟩
            · rw [if_neg (by omega)]; exact HE.out j hj
        case measure => simp [intOf]; omega
      · clear hnil
        have q0 := ho2.cell 0
        have q1 := ho2.cell 1
        have q2 := ho2.cell 2
        have q3 := ho2.cell 3
        have q4 := ho2.cell 4
        have q5 := ho2.cell 5
        have q6 := ho2.cell 6
        have f0 := ho2.frozen 0
        have f1 := ho2.frozen 1
        have f2 := ho2.frozen 2
        have f3 := ho2.frozen 3
        have f4 := ho2.frozen 4
        have f5 := ho2.frozen 5
        have f6 := ho2.frozen 6
        go_wp2
        refine bodyPost_ret (v := .agg #[.string ⟨#[]⟩, .slice none 0 0, .slice (some ⟨w.heap.size + 1, 0, none⟩) n n, .slice none 0 0, .int .i32 0, .int .i32 0, .int .u8 3]) (by simp [results, Try.results42, go_sem, q0, q1, q2, q3, q4, q5, q6]) rfl ?_
        have hne : w.heap.size + 1 ≠ w.heap.size := by omega
        have hoF : ∀ v0 v1 v2 v3 v4 v5 v6 : Value, Own (((((((wr.setCell ⟨w.heap.size, 0, none⟩ v0).setCell ⟨w.heap.size, 1, none⟩ v1).setCell ⟨w.heap.size, 2, none⟩ v2).setCell ⟨w.heap.size, 3, none⟩ v3).setCell ⟨w.heap.size, 4, none⟩ v4).setCell ⟨w.heap.size, 5, none⟩ v5).setCell ⟨w.heap.size, 6, none⟩ v6) (w.heap.size + 1) 57 cs := fun v0 v1 v2 v3 v4 v5 v6 =>
          ((((((ho.far hne v0).far hne v1).far hne v2).far hne v3).far hne v4).far hne v5).far hne v6
        refine ⟨some ⟨w.heap.size + 1, 0, none⟩, n, rfl, fun _ => ⟨w.heap.size + 1, rfl, (hoF _ _ _ _ _ _ _).lt, fun j hj => ?_⟩, ?_⟩
        · rw [(hoF _ _ _ _ _ _ _).cell]; exact HD.out j (by omega)
        · exact ((((((hb.setCell (Nat.le_refl _) _).setCell (Nat.le_refl _) _).setCell (Nat.le_refl _) _).setCell (Nat.le_refl _) _).setCell (Nat.le_refl _) _).setCell (Nat.le_refl _) _).setCell (Nat.le_refl _) _

def pDot : ByteArray := ⟨#[46]⟩
def dotB (n : Nat) (S : Nat → ByteArray) : Bool := decide (0 < n) && preB (S 0) pDot
set_option maxHeartbeats 2000000 in
theorem dot_any (A : Option Addr) (n c : Nat) (S : Nat → ByteArray) (w : World) (hA : Rd w w.heap.size 1 A n (fun j => .string (S j))) (h0 : A = none → n = 0 ∧ c = 0) (hn : n ≤ 4194304) (hS : 0 < n → (S 0).size ≤ maxLen) :
    Calls Try.prog 27 #[.slice A n c] w fun e w' => e = .returned (.bool (dotB n S)) ∧ Below w.heap.size w w' := by
  have HA := Lib.hid hA
  have H0 := Lib.hid h0
  have HS := Lib.hid hS
  clear hA h0 hS
  go_enter Try.func27, Try.ntmps27
  go_wp2_with fail
  refine (entry_any A n c S _ HA.out H0.out hn).mono ?_
  rintro e w1 ⟨M, c1, rfl, hM, hb⟩
  have HM := Lib.hid hM
  clear hM
  by_cases hpos : 0 < n
  · obtain ⟨g, rfl, hg, hc⟩ := HM.out hpos
    have hc0 := hc 0 hpos
    rw [Nat.zero_mul] at hc0
    have hne : g ≠ w1.heap.size := by omega
    have hd : dotB n S = preB (S 0) pDot := by unfold dotB; simp [hpos]
    have HDt := Lib.hid hd
    clear hc HM hd
    go_wp2_with (first | (go_at_call 43; go_in))
    refine (hasPrefix_any (S 0) pDot _ (HS.out hpos) (by decide)).mono ?_
    rintro e w2 ⟨rfl, rfl⟩
    go_wp2_with fail
    go_ret
    exact ⟨by rw [HDt.out]; rfl, hb.alloc hb.size _⟩
  · obtain rfl : n = 0 := by omega
    go_wp2_with (first | (go_at_call 43; go_in))
    go_ret
    exact ⟨rfl, hb.alloc hb.size _⟩
end Go.Proofs.Ytnegfigjmjgknac.Ks
