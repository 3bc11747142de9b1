/-
  Contracts for the laws on symbol links: the copiers of argument slices, the targets, counts, refs, starts. Conditions: sizes alone.
-/
import Derived.Test.YtbppncnhdhogbaaDoorRows
import Derived.Test.YtbppncnhdhogbaaDoorMem
import Derived.Test.YtbppncnhdhogbaaDoorRow
import Derived.Test.YtbppncnhdhogbaaDoorRt
import Derived.WalkKit
import Derived.WalkSpells
import Derived.Handy
import Derived.Lib.Hide
import Derived.PlainAid
import Derived.Maps.AppendAt
import Derived.OwnWalk
namespace Go.Proofs.YtbppncnhdhogbaaDoor.Fa
open Go.RowKit Go.PlainAid Mem Rws Rt
set_option linter.unusedVariables false
/-- A new slice of n elements that reads as f. -/
def NewSl2 (n : Nat) (f : Nat → Value) (w : World) (e : Ending) (w' : World) : Prop :=
  ∃ (a : Addr) (c : Nat), e = .returned (.slice (some a) n c) ∧ Rd w' w'.heap.size 2 (some a) n f ∧ Below w.heap.size w w'
def NewSl (n : Nat) (f : Nat → Value) (w : World) (e : Ending) (w' : World) : Prop :=
  ∃ (A : Option Addr) (c : Nat), e = .returned (.slice A n c) ∧ n ≤ c ∧ c ≤ 9223372036854775807 ∧ (A = none → n = 0 ∧ c = 0) ∧ Rd w' w'.heap.size 1 A n f ∧ Below w.heap.size w w'

theorem info48 : (Tryd.prog.info? 48).map (fun i => (i.zero, i.size, i.bytes)) = some (some (.int .u16 0), 1, 2) := by kernel_rfl
set_option maxHeartbeats 1000000 in
theorem clone6 (A : Option Addr) (n c : Nat) (Z : Nat → Int) (w : World) (hA : Rd w w.heap.size 1 A n (fun j => .int .u16 (Z j))) (h0 : A = none → n = 0 ∧ c = 0) (hn : n ≤ 1048576) :
    Calls Tryd.prog 6 #[.slice A n c] w (NewSl n (fun j => .int .u16 (Z j)) w) := by
  have hnil := fun W => Lib.run_eql_slice_nil (P := Tryd.prog) W 22 48 A n c 0 0 Tryd.underlying22
  cases A with
  | none =>
    obtain ⟨rfl, rfl⟩ := h0 rfl
    clear h0
    go_enter Tryd.func6, Tryd.ntmps6
    go_wp2
    go_ret
    exact ⟨none, 0, rfl, by omega, by omega, fun _ => ⟨rfl, rfl⟩, Rd.zero _ _ _ _ _, Below.refl _ _⟩
  | some a =>
    have hmk := run_mk (P := Tryd.prog) 22 48 _ _ _ Tryd.underlying22 info48 n n (Nat.le_refl _) (by omega) (by omega)
    have HA := Lib.hid hA
    clear h0 hA
    go_enter Tryd.func6, Tryd.ntmps6
    go_wp2
    go_loopw [4] (fun i wr => ∃ (k : Nat) (cs : Array Value), k ≤ n ∧ i = .int .i64 k ∧ Own wr w.heap.size 48 cs ∧ cs.size = n ∧ (∀ j, j < k → cs[j]? = some (.int .u16 (Z j))) ∧ (∀ j, j < n → ∃ s, cs[j]? = some (.int .u16 s)) ∧ Below w.heap.size w wr) (fun i _ => n - (intOf i).toNat)
    case atStart =>
      refine ⟨0, _, by omega, rfl, Own.new _ _ _, by simp [size_madeCells], by omega, fun j hj => ⟨0, ?_⟩, by go_grown⟩
      rw [made_at _ _ _ (by omega)]
      show some ((#[Value.int .u16 0] : Array Value)[j % 1]!) = _
      rw [Nat.mod_one]
      rfl
    case round =>
      obtain ⟨k, cs, hk, rfl, ho, hsz, hd, he, hb⟩ := hrel
      clear hmk
      have HD := Lib.hid hd
      have HE := Lib.hid he
      have HSZ := Lib.hid hsz
      clear hd he hsz
      by_cases hlt : k < n
      · obtain ⟨b, off, ha, hbb, hc⟩ := HA.out (by omega)
        obtain rfl : a = ⟨b, off, none⟩ := by simpa using ha
        have hck := (hb.cell (p := ⟨b, off + k, none⟩) hbb).trans (hc k (by omega))
        obtain ⟨s0, hs0⟩ := HE.out k hlt
        have hcg := (ho.cell k).trans hs0
        have hfr := ho.frozen k
        clear hc ha hs0 hnil
        have hne : b ≠ w.heap.size := by omega
        go_wp2
        go_roundw
        case rel =>
          refine ⟨k + 1, _, by omega, by go_num, ho.set k _, by simpa using HSZ.out, fun j hj => ?_, fun j hj => ?_, hb.setCell (Nat.le_refl _) _⟩
          · rw [Array.getElem?_setIfInBounds]
            by_cases hjk : k = j
            · subst hjk; simp [HSZ.out, hlt]
            · rw [if_neg hjk]; exact HD.out j (by omega)
          · rw [Array.getElem?_setIfInBounds]
            by_cases hjk : k = j
            · subst hjk; exact ⟨Z k, by simp [HSZ.out, hlt]⟩
            · rw [if_neg hjk]; exact HE.out j hj
        case measure => simp [intOf]; omega
      · go_wp2
        go_ret
        refine ⟨some ⟨w.heap.size, 0, none⟩, n, rfl, by omega, by omega, (fun h => by cases h), ho.rd fun j hj => HD.out j (by omega), hb⟩

theorem info21 : (Tryd.prog.info? 21).map (fun i => (i.zero, i.size, i.bytes)) = some (some (.int .i32 0), 1, 4) := by kernel_rfl
set_option maxHeartbeats 1000000 in
theorem clone7 (A : Option Addr) (n c : Nat) (Z : Nat → Int) (w : World) (hA : Rd w w.heap.size 1 A n (fun j => .int .i32 (Z j))) (h0 : A = none → n = 0 ∧ c = 0) (hn : n ≤ 1048576) :
    Calls Tryd.prog 7 #[.slice A n c] w (NewSl n (fun j => .int .i32 (Z j)) w) := by
  have hnil := fun W => Lib.run_eql_slice_nil (P := Tryd.prog) W 23 21 A n c 0 0 Tryd.underlying23
  cases A with
  | none =>
    obtain ⟨rfl, rfl⟩ := h0 rfl
    clear h0
    go_enter Tryd.func7, Tryd.ntmps7
    go_wp2
    go_ret
    exact ⟨none, 0, rfl, by omega, by omega, fun _ => ⟨rfl, rfl⟩, Rd.zero _ _ _ _ _, Below.refl _ _⟩
  | some a =>
    have hmk := run_mk (P := Tryd.prog) 23 21 _ _ _ Tryd.underlying23 info21 n n (Nat.le_refl _) (by omega) (by omega)
    have HA := Lib.hid hA
    clear h0 hA
    go_enter Tryd.func7, Tryd.ntmps7
    go_wp2
    go_loopw [4] (fun i wr => ∃ (k : Nat) (cs : Array Value), k ≤ n ∧ i = .int .i64 k ∧ Own wr w.heap.size 21 cs ∧ cs.size = n ∧ (∀ j, j < k → cs[j]? = some (.int .i32 (Z j))) ∧ (∀ j, j < n → ∃ s, cs[j]? = some (.int .i32 s)) ∧ Below w.heap.size w wr) (fun i _ => n - (intOf i).toNat)
    case atStart =>
      refine ⟨0, _, by omega, rfl, Own.new _ _ _, by simp [size_madeCells], by omega, fun j hj => ⟨0, ?_⟩, by go_grown⟩
      rw [made_at _ _ _ (by omega)]
      show some ((#[Value.int .i32 0] : Array Value)[j % 1]!) = _
      rw [Nat.mod_one]
      rfl
    case round =>
      obtain ⟨k, cs, hk, rfl, ho, hsz, hd, he, hb⟩ := hrel
      clear hmk
      have HD := Lib.hid hd
      have HE := Lib.hid he
      have HSZ := Lib.hid hsz
      clear hd he hsz
      by_cases hlt : k < n
      · obtain ⟨b, off, ha, hbb, hc⟩ := HA.out (by omega)
        obtain rfl : a = ⟨b, off, none⟩ := by simpa using ha
        have hck := (hb.cell (p := ⟨b, off + k, none⟩) hbb).trans (hc k (by omega))
        obtain ⟨s0, hs0⟩ := HE.out k hlt
        have hcg := (ho.cell k).trans hs0
        have hfr := ho.frozen k
        clear hc ha hs0 hnil
        have hne : b ≠ w.heap.size := by omega
        go_wp2
        go_roundw
        case rel =>
          refine ⟨k + 1, _, by omega, by go_num, ho.set k _, by simpa using HSZ.out, fun j hj => ?_, fun j hj => ?_, hb.setCell (Nat.le_refl _) _⟩
          · rw [Array.getElem?_setIfInBounds]
            by_cases hjk : k = j
            · subst hjk; simp [HSZ.out, hlt]
            · rw [if_neg hjk]; exact HD.out j (by omega)
          · rw [Array.getElem?_setIfInBounds]
            by_cases hjk : k = j
            · subst hjk; exact ⟨Z k, by simp [HSZ.out, hlt]⟩
            · rw [if_neg hjk]; exact HE.out j hj
        case measure => simp [intOf]; omega
      · go_wp2
        go_ret
        refine ⟨some ⟨w.heap.size, 0, none⟩, n, rfl, by omega, by omega, (fun h => by cases h), ho.rd fun j hj => HD.out j (by omega), hb⟩

theorem info25 : (Tryd.prog.info? 25).map (fun i => (i.zero, i.size, i.bytes)) = some (some (.int .u32 0), 1, 4) := by kernel_rfl
set_option maxHeartbeats 1000000 in
theorem clone8 (A : Option Addr) (n c : Nat) (Z : Nat → Int) (w : World) (hA : Rd w w.heap.size 1 A n (fun j => .int .u32 (Z j))) (h0 : A = none → n = 0 ∧ c = 0) (hn : n ≤ 1048576) :
    Calls Tryd.prog 8 #[.slice A n c] w (NewSl n (fun j => .int .u32 (Z j)) w) := by
  have hnil := fun W => Lib.run_eql_slice_nil (P := Tryd.prog) W 24 25 A n c 0 0 Tryd.underlying24
  cases A with
  | none =>
    obtain ⟨rfl, rfl⟩ := h0 rfl
    clear h0
    go_enter Tryd.func8, Tryd.ntmps8
    go_wp2
    go_ret
    exact ⟨none, 0, rfl, by omega, by omega, fun _ => ⟨rfl, rfl⟩, Rd.zero _ _ _ _ _, Below.refl _ _⟩
  | some a =>
    have hmk := run_mk (P := Tryd.prog) 24 25 _ _ _ Tryd.underlying24 info25 n n (Nat.le_refl _) (by omega) (by omega)
    have HA := Lib.hid hA
    clear h0 hA
    go_enter Tryd.func8, Tryd.ntmps8
    go_wp2
    go_loopw [4] (fun i wr => ∃ (k : Nat) (cs : Array Value), k ≤ n ∧ i = .int .i64 k ∧ Own wr w.heap.size 25 cs ∧ cs.size = n ∧ (∀ j, j < k → cs[j]? = some (.int .u32 (Z j))) ∧ (∀ j, j < n → ∃ s, cs[j]? = some (.int .u32 s)) ∧ Below w.heap.size w wr) (fun i _ => n - (intOf i).toNat)
    case atStart =>
      refine ⟨0, _, by omega, rfl, Own.new _ _ _, by simp [size_madeCells], by omega, fun j hj => ⟨0, ?_⟩, by go_grown⟩
      rw [made_at _ _ _ (by omega)]
      show some ((#[Value.int .u32 0] : Array Value)[j % 1]!) = _
      rw [Nat.mod_one]
      rfl
    case round =>
      obtain ⟨k, cs, hk, rfl, ho, hsz, hd, he, hb⟩ := hrel
      clear hmk
      have HD := Lib.hid hd
      have HE := Lib.hid he
      have HSZ := Lib.hid hsz
      clear hd he hsz
      by_cases hlt : k < n
      · obtain ⟨b, off, ha, hbb, hc⟩ := HA.out (by omega)
        obtain rfl : a = ⟨b, off, none⟩ := by simpa using ha
        have hck := (hb.cell (p := ⟨b, off + k, none⟩) hbb).trans (hc k (by omega))
        obtain ⟨s0, hs0⟩ := HE.out k hlt
        have hcg := (ho.cell k).trans hs0
        have hfr := ho.frozen k
        clear hc ha hs0 hnil
        have hne : b ≠ w.heap.size := by omega
        go_wp2
        go_roundw
        case rel =>
          refine ⟨k + 1, _, by omega, by go_num, ho.set k _, by simpa using HSZ.out, fun j hj => ?_, fun j hj => ?_, hb.setCell (Nat.le_refl _) _⟩
          · rw [Array.getElem?_setIfInBounds]
            by_cases hjk : k = j
            · subst hjk; simp [HSZ.out, hlt]
            · rw [if_neg hjk]; exact HD.out j (by omega)
          · rw [Array.getElem?_setIfInBounds]
            by_cases hjk : k = j
            · subst hjk; exact ⟨Z k, by simp [HSZ.out, hlt]⟩
            · rw [if_neg hjk]; exact HE.out j hj
        case measure => simp [intOf]; omega
      · go_wp2
        go_ret
        refine ⟨some ⟨w.heap.size, 0, none⟩, n, rfl, by omega, by omega, (fun h => by cases h), ho.rd fun j hj => HD.out j (by omega), hb⟩

theorem info3 : (Tryd.prog.info? 3).map (fun i => (i.zero, i.size, i.bytes)) = some (some (.int .i64 0), 1, 8) := by kernel_rfl
/-- The targets of links. -/
def tg (n : Nat) (Z : Nat → Int) (i : Nat) : Int := if Z i < 0 then -1 else Z i % (n : Int)
theorem tg_rng (n : Nat) (Z : Nat → Int) : Rng n (tg n Z) := fun i hi => by
  unfold tg; split
  · omega
  · exact Int.emod_lt_of_pos _ (by omega)
theorem tg_lo (n : Nat) (Z : Nat → Int) (i : Nat) (hn : 0 < n) : -1 ≤ tg n Z i := by
  unfold tg; split
  · omega
  · have := Int.emod_nonneg (Z i) (b := (n : Int)) (by omega)
    omega
set_option maxHeartbeats 1000000 in
theorem targets9 (A : Option Addr) (n c : Nat) (Z : Nat → Int) (w : World) (hA : Rd w w.heap.size 1 A n (fun j => .int .i32 (Z j))) (hZ : ∀ j, j < n → -2147483648 ≤ Z j ∧ Z j ≤ 2147483647) (hn : n ≤ 4096) :
    Calls Tryd.prog 9 #[.slice A n c] w (NewSl n (fun j => .int .i64 (tg n Z j)) w) := by
  have hmk := run_mk (P := Tryd.prog) 30 3 _ _ _ Tryd.underlying30 info3 n n (Nat.le_refl _) (by omega) (by omega)
  have HA := Lib.hid hA
  have HZ := Lib.hid hZ
  clear hA hZ
  go_enter Tryd.func9, Tryd.ntmps9
  go_wp2
  go_loopw [5] (fun i wr => ∃ (k : Nat) (cs : Array Value), k ≤ n ∧ i = .int .i64 k ∧ Own wr w.heap.size 3 cs ∧ cs.size = n ∧ (∀ j, j < k → cs[j]? = some (.int .i64 (tg n Z j))) ∧ (∀ j, j < n → ∃ s, cs[j]? = some (.int .i64 s)) ∧ Below w.heap.size w wr) (fun i _ => n - (intOf i).toNat)
  case atStart =>
    refine ⟨0, _, by omega, rfl, Own.new _ _ _, by simp [size_madeCells], by omega, fun j hj => ⟨0, ?_⟩, by go_grown⟩
    rw [made_at _ _ _ (by omega)]
    show some ((#[Value.int .i64 0] : Array Value)[j % 1]!) = _
    rw [Nat.mod_one]
    rfl
  case round =>
    obtain ⟨k, cs, hk, rfl, ho, hsz, hd, he, hb⟩ := hrel
    clear hmk
    have HD := Lib.hid hd
    have HE := Lib.hid he
    have HSZ := Lib.hid hsz
    clear hd he hsz
    by_cases hlt : k < n
    · obtain ⟨b, off, rfl, hbb, hc⟩ := HA.out (by omega)
      have hck := (hb.cell (p := ⟨b, off + k, none⟩) hbb).trans (hc k (by omega))
      obtain ⟨s0, hs0⟩ := HE.out k hlt
      have hcg := (ho.cell k).trans hs0
      have hfr := ho.frozen k
      obtain ⟨hz1, hz2⟩ := HZ.out k hlt
      clear hc hs0
      have hne : b ≠ w.heap.size := by omega
      have hT : Hid (∀ t : Int, t = tg n Z k → (∀ j, j < k + 1 → (cs.setIfInBounds k (.int .i64 t))[j]? = some (.int .i64 (tg n Z j))) ∧ (∀ j, j < n → ∃ s, (cs.setIfInBounds k (.int .i64 t))[j]? = some (.int .i64 s))) := Lib.hid fun t ht => by
        subst ht
        refine ⟨fun j hj => ?_, fun j hj => ?_⟩
        · rw [Array.getElem?_setIfInBounds]
          by_cases hjk : k = j
          · subst hjk; simp [HSZ.out, hlt]
          · rw [if_neg hjk]; exact HD.out j (by omega)
        · rw [Array.getElem?_setIfInBounds]
          by_cases hjk : k = j
          · subst hjk; exact ⟨tg n Z k, by simp [HSZ.out, hlt]⟩
          · rw [if_neg hjk]; exact HE.out j hj
      by_cases hneg : Z k < 0
      · have et : Hid ((-1 : Int) = tg n Z k) := Lib.hid (by unfold tg; rw [if_pos hneg])
        go_wp2
        go_roundw
        case rel => exact ⟨k + 1, _, by omega, by go_num, ho.set k _, by simpa using HSZ.out, (hT.out _ et.out).1, (hT.out _ et.out).2, hb.setCell (Nat.le_refl _) _⟩
        case measure => simp [intOf]; omega
      · have et : Hid (Z k % (n : Int) = tg n Z k) := Lib.hid (by unfold tg; rw [if_neg hneg])
        have hpos : 0 ≤ Z k := by omega
        have hn0 : (0 : Int) < (n : Int) := by omega
        go_wp2
        go_roundw
        case rel => exact ⟨k + 1, _, by omega, by go_num, ho.set k _, by simpa using HSZ.out, (hT.out _ et.out).1, (hT.out _ et.out).2, hb.setCell (Nat.le_refl _) _⟩
        case measure => simp [intOf]; omega
    · go_wp2
      go_ret
      refine ⟨some ⟨w.heap.size, 0, none⟩, n, rfl, by omega, by omega, (fun h => by cases h), ho.rd fun j hj => HD.out j (by omega), hb⟩
end Go.Proofs.YtbppncnhdhogbaaDoor.Fa
