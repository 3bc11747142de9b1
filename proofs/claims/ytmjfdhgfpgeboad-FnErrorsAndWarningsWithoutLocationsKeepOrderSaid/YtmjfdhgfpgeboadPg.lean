/-
  Proved: messages without places: how their rows read, that SortableMsgs.Less is false on them, and that insertionSort leaves them. Conditions: those
  that each theorem names as its hypotheses, and no others.
-/
import Derived.Test.YtmjfdhgfpgeboadProg
import Derived.Test.YtmjfdhgfpgeboadMem
import Derived.Test.YtmjfdhgfpgeboadHo
import Derived.WalkKit
import Derived.WalkSpells
import Derived.Handy
import Derived.Lib.Hide
import Derived.PlainAid
import Derived.Laws.EntriesVeiled
import Derived.Deep.RegionHeld3
import Derived.Deep.CutRange
import Derived.Deep.QuietTactic
import Derived.Deep.DeepCutAuto
namespace Go.Proofs.Ytmjfdhgfpgeboad.Pg
open Go.RowKit Go.PlainAid Mem Ho
set_option linter.unusedVariables false
set_option linter.unusedSimpArgs false
def Giv (v : Value) (w : World) (e : Ending) (w' : World) : Prop := e = .returned v ∧ Below w.heap.size w w'
theorem row_some {W : World} {lo sz n c : Nat} {e : TypeId} {A : Option Addr} {xs : List Value} (h : W.ownsRow lo e sz (.slice A n c) n xs) (hn : 0 < n) : ∃ g, A = some ⟨g, 0, none⟩ := by
  rcases h.2 with ⟨h1, rfl⟩ | ⟨g, cap, cur, h1, _⟩
  · omega
  · injection h1 with h1; exact ⟨g, h1⟩
theorem row_at {W : World} {lo sz n c g : Nat} {e : TypeId} {xs : List Value} (h : W.ownsRow lo e sz (.slice (some ⟨g, 0, none⟩) n c) n xs) (i : Nat) (hi : i < xs.length) : W.cell? ⟨g, i, none⟩ = xs[i]? := by
  have hu : xs[i]? = some xs[i] := List.getElem?_eq_getElem hi
  have := h.cells (g := g) rfl i _ hu
  rw [add_none, Nat.zero_add] at this
  rw [this, hu]
/-- a message without a place -/
structure MR where
  nA : Option Addr
  nn : Nat
  nc : Nat
  pl : ByteArray
  tx : ByteArray
  kd : Int
  id : Int
def MR.cells (m : MR) : List Value := [.slice m.nA m.nn m.nc, .string m.pl, .nilIface, .pointer none, .string m.tx, .bool false, .int .u8 m.kd, .int .u8 m.id]
/-- messages without a place -/
def NoL (xs : List Value) (n : Nat) : Prop := xs.length = n * 8 ∧ ∀ i, i < n → ∃ m : MR, ∀ q, q < 8 → xs[i * 8 + q]? = m.cells[q]?
theorem noL_cells {W : World} {lo n c g : Nat} {xs : List Value} (h : W.ownsRow lo 43 8 (.slice (some ⟨g, 0, none⟩) n c) n xs) (hx : NoL xs n) {i : Nat} (hi : i < n) :
    ∃ m : MR, W.cell? ⟨g, i * 8, none⟩ = some (.slice m.nA m.nn m.nc) ∧ W.cell? ⟨g, i * 8 + 1, none⟩ = some (.string m.pl) ∧ W.cell? ⟨g, i * 8 + 2, none⟩ = some .nilIface ∧ W.cell? ⟨g, i * 8 + 3, none⟩ = some (.pointer none) ∧ W.cell? ⟨g, i * 8 + 4, none⟩ = some (.string m.tx) ∧ W.cell? ⟨g, i * 8 + 5, none⟩ = some (.bool false) ∧ W.cell? ⟨g, i * 8 + 6, none⟩ = some (.int .u8 m.kd) ∧ W.cell? ⟨g, i * 8 + 7, none⟩ = some (.int .u8 m.id) := by
  obtain ⟨m, hq⟩ := hx.2 i hi
  have hl := hx.1
  refine ⟨m, ?_, ?_, ?_, ?_, ?_, ?_, ?_, ?_⟩
  · exact ((row_at h _ (by omega)).trans (hq 0 (by decide))).trans rfl
  · exact ((row_at h _ (by omega)).trans (hq 1 (by decide))).trans rfl
  · exact ((row_at h _ (by omega)).trans (hq 2 (by decide))).trans rfl
  · exact ((row_at h _ (by omega)).trans (hq 3 (by decide))).trans rfl
  · exact ((row_at h _ (by omega)).trans (hq 4 (by decide))).trans rfl
  · exact ((row_at h _ (by omega)).trans (hq 5 (by decide))).trans rfl
  · exact ((row_at h _ (by omega)).trans (hq 6 (by decide))).trans rfl
  · exact ((row_at h _ (by omega)).trans (hq 7 (by decide))).trans rfl
set_option maxRecDepth 100000 in
set_option maxHeartbeats 4000000 in
theorem less45 (A : Option Addr) (lo n c i j : Nat) (xs : List Value) (w : World) (hr : w.ownsRow lo 43 8 (.slice A n c) n xs) (hx : NoL xs n) (hi : i < n) (hj : j < n) (hn : n ≤ 1048576) :
    Calls Try.prog 45 #[.slice A n c, .int .i64 i, .int .i64 j] w (Giv (.bool false) w) := by
  obtain ⟨g, rfl⟩ := row_some hr (by omega)
  obtain ⟨⟨iA, in_, ic, ip, it, ik, ii⟩, r0, r1, r2, r3, r4, r5, r6, r7⟩ := noL_cells hr hx hi
  have HR := Lib.hid hr
  have HX := Lib.hid hx
  have q0 : (0 : Int) ≤ (i : Int) := by omega
  have q1 : (i : Int) < (n : Int) := by omega
  have q2 : (0 : Int) ≤ (j : Int) := by omega
  have q3 : (j : Int) < (n : Int) := by omega
  clear hr hx
  simp only [] at r0 r1 r4 r6 r7
  go_enter Try.func45, Try.ntmps45
  go_upto_region 2 with fail
  generalize hW : w.alloc _ = W
  have hb : Below w.heap.size w W := by rw [← hW]; exact (Below.refl _ _).alloc (Nat.le_refl _) _
  have ho : Own W w.heap.size 43 #[.slice iA in_ ic, .string ip, .nilIface, .pointer none, .string it, .bool false, .int .u8 ik, .int .u8 ii] := by rw [← hW]; exact Own.new _ _ _
  obtain ⟨⟨jA, jn, jc, jp, jt, jk, ji⟩, s0, s1, s2, s3, s4, s5, s6, s7⟩ := noL_cells (row_below (B := 0) HR.out hb) HX.out hj
  simp only [] at s0 s1 s4 s6 s7
  have HO := Lib.hid ho
  have HB := Lib.hid hb
  clear r0 r1 r2 r3 r4 r5 r6 r7 hW hb ho
  go_upto_region 3 with fail
  generalize hW2 : W.alloc _ = W2
  have hb2 : Below w.heap.size w W2 := by rw [← hW2]; exact HB.out.alloc HB.out.size _
  have l1 : W2.cell? ⟨w.heap.size, 3, none⟩ = some (.pointer none) := by rw [← hW2]; exact ((HO.out.alloc _).cell 3).trans rfl
  have l2 : W2.cell? ⟨W.heap.size, 3, none⟩ = some (.pointer none) := by rw [← hW2]; exact ((Own.new _ _ _).cell 3).trans rfl
  clear s0 s1 s2 s3 s4 s5 s6 s7 hW2
  go_wp2
  go_ret
  exact ⟨rfl, hb2⟩
set_option maxRecDepth 100000 in
set_option maxHeartbeats 4000000 in
theorem ins21 (A : Option Addr) (lo n c a b : Nat) (xs : List Value) (w : World) (hr : w.ownsRow lo 43 8 (.slice A n c) n xs) (hx : NoL xs n) (hb : b ≤ n) (hn : n ≤ 1048576) (ha : a ≤ 1048576) :
    Calls Try.prog 21 #[.iface 55 (.slice A n c), .int .i64 a, .int .i64 b] w (Giv (.tuple #[]) w) := by
  have HR := Lib.hid hr
  have HX := Lib.hid hx
  clear hr hx
  go_enter Try.func21, Try.ntmps21
  go_wp2
  go_loopw [6] (fun i W => ∃ k : Nat, a + 1 ≤ k ∧ i = .int .i64 k ∧ (k ≤ b ∨ k = a + 1) ∧ Hid (Below w.heap.size w W)) (fun i _ => b - (intOf i).toNat)
  case atStart => exact ⟨a + 1, by omega, by go_num, by omega, Lib.hid (Below.refl _ _)⟩
  case round =>
    obtain ⟨k, hk1, rfl, hk, HB⟩ := hrel
    obtain ⟨wo, rfl⟩ : ∃ wo : World, wo = wr := ⟨_, rfl⟩
    by_cases hlt : k < b
    · go_wp2_with fail
      refine wp_loop_rounds 1 ?_
      rw [rounds_succ]
      have z0 : decide ((a : Int) < k) = true := decide_eq_true (by omega)
      have e1 : ((k : Int) - 1) = ((k - 1 : Nat) : Int) := by omega
      have HE := Lib.hid e1
      clear e1
      go_wp2_with fail
      rw [HE.out]
      refine (less45 A lo n c k (k - 1) xs wo (row_below (B := 0) HR.out HB.out) HX.out (by omega) (by omega) hn).mono ?_
      rintro e w1 ⟨rfl, hb1⟩
      have HB1 := Lib.hid (HB.out.trans (hb1.mono HB.out.size))
      clear hb1
      go_wp2_with fail
      go_roundw
      case rel => exact ⟨k + 1, by omega, by go_num, by omega, HB1⟩
      case measure => simp [intOf]; omega
    · have z0 : decide ((k : Int) < b) = false := decide_eq_false (by omega)
      go_wp2
      go_end0
      exact ⟨rfl, HB.out⟩
theorem len44 (a : Option Addr) (n c : Nat) (w : World) : Calls Try.prog 44 #[.slice a n c] w fun e w' => e = .returned (.int .i64 n) ∧ w = w' := by
  go_enter Try.func44, Try.ntmps44
  go_wp2
  go_ret
  exact ⟨rfl, rfl⟩
end Go.Proofs.Ytmjfdhgfpgeboad.Pg
