/-
  Proved: the cells of a file, a part and a dependency of the argument can be read, and tsDepOK answers whether a dependency is in range. Conditions:
  those that each theorem names as its hypotheses, and no others.
-/
import Derived.Test.YtmjfdhgfpgeboacFs
import Derived.Test.YtmjfdhgfpgeboacHo
import Derived.Test.YtmjfdhgfpgeboacRow
import Derived.Test.YtmjfdhgfpgeboacProg
import Derived.WalkKit
import Derived.WalkSpells
import Derived.Handy
import Derived.Lib.Hide
import Derived.PlainAid
import Derived.Laws.EntriesVeiled
import Derived.Deep.RegionHeld3
import Derived.Deep.CutRange
import Derived.Deep.QuietTactic
import Derived.Deep.DeepCutAuto
import Derived.BigQuiet
namespace Go.Proofs.Ytmjfdhgfpgeboac.Ga
open Go.RowKit Go.PlainAid Mem Ho Rws Orw Fs
set_option linter.unusedVariables false
set_option linter.unusedSimpArgs false
theorem file_cell {w : World} {A : Option Addr} {n : Nat} {F : Nat → Fl} (h : Src w A n F) (hn : 0 < n) : ∃ b off, A = some ⟨b, off, none⟩ ∧ b < w.heap.size ∧ ∀ k, k < n → w.cell? ⟨b, off + k, none⟩ = some (.slice (F k).pA (F k).np (F k).pc) := by
  obtain ⟨b, off, e, hb, hc⟩ := h.1 hn
  refine ⟨b, off, e, hb, fun k hk => ?_⟩
  rw [hc k (by omega)]
  unfold rowF
  rw [Nat.div_one, Nat.mod_one]
  rfl
theorem part_cells {w : World} {m : Fl} (h : m.wf w) (hn : 0 < m.np) : ∃ b off, m.pA = some ⟨b, off, none⟩ ∧ b < w.heap.size ∧ ∀ k, k < m.np → w.cell? ⟨b, off + k * 2, none⟩ = some (.bool (m.pt k).kp) ∧ w.cell? ⟨b, off + k * 2 + 1, none⟩ = some (.slice (m.pt k).dA (m.pt k).nd (m.pt k).dc) := by
  obtain ⟨b, off, e, hb, hc⟩ := h.rows hn
  refine ⟨b, off, e, hb, fun k hk => ⟨?_, ?_⟩⟩
  · rw [hc (k * 2) (by omega), show k * 2 = k * 2 + 0 from rfl, rowF_at (by decide)]
    rfl
  · rw [Nat.add_assoc, hc (k * 2 + 1) (by omega), rowF_at (by decide)]
    rfl
theorem dep_cells {w : World} {m : Pt} (h : m.wf w) (hn : 0 < m.nd) : ∃ b off, m.dA = some ⟨b, off, none⟩ ∧ b < w.heap.size ∧ ∀ k, k < m.nd → w.cell? ⟨b, off + k * 2, none⟩ = some (.int .u32 ((m.dep k).1 : Int)) ∧ w.cell? ⟨b, off + k * 2 + 1, none⟩ = some (.int .u32 ((m.dep k).2 : Int)) := by
  obtain ⟨b, off, e, hb, hc⟩ := h.rows hn
  refine ⟨b, off, e, hb, fun k hk => ⟨?_, ?_⟩⟩
  · rw [hc (k * 2) (by omega), show k * 2 = k * 2 + 0 from rfl, rowF_at (by decide)]
    rfl
  · rw [Nat.add_assoc, hc (k * 2 + 1) (by omega), rowF_at (by decide)]
    rfl
def okD (n : Nat) (F : Nat → Fl) (a b : Nat) : Bool := decide (a < n) && decide (b < (F a).np)
def Says (b : Bool) (w : World) (e : Ending) (w' : World) : Prop := e = .returned (.bool b) ∧ Below w.heap.size w w'
set_option maxRecDepth 100000 in
set_option maxHeartbeats 4000000 in
theorem depok7 (A : Option Addr) (n c : Nat) (F : Nat → Fl) (a b : Nat) (w : World) (hs : Src w A n F) (hn : n ≤ maxLen) (hp : ∀ i, i < n → (F i).np ≤ maxLen) (ha : a < 4294967296) (hb : b < 4294967296) :
    Calls Try.prog 7 #[.slice A n c, .agg #[.int .u32 (a : Int), .int .u32 (b : Int)]] w (Says (okD n F a b) w) := by
  unfold maxLen at hn
  by_cases h1 : a < n
  · obtain ⟨bl, off, rfl, hbl, hc⟩ := file_cell hs (by omega)
    have hf := hc a h1
    have hpl := hp a h1
    unfold maxLen at hpl
    have e1 : okD n F a b = decide (b < (F a).np) := by unfold okD; rw [decide_eq_true h1]; rfl
    rw [e1]
    generalize (F a).np = np at *
    generalize (F a).pA = pA at *
    generalize (F a).pc = pc at *
    clear hc hs hp e1
    have t0 : decide ((n : Int) ≤ (a : Int)) = false := decide_eq_false (by omega)
    have q0 : (0 : Int) ≤ (a : Int) := by omega
    have q1 : (a : Int) < (n : Int) := by omega
    go_enter Try.func7, Try.ntmps7
    go_upto_region 3 with fail
    generalize hW : w.alloc _ = W
    have hb1 : Below w.heap.size w W := by rw [← hW]; exact (Below.refl _ _).alloc (Nat.le_refl _) _
    have ho : Own W w.heap.size 25 #[.int .u32 (a : Int), .int .u32 (b : Int)] := by rw [← hW]; exact Own.new _ _ _
    have a0 : W.cell? ⟨w.heap.size, 0, none⟩ = some (.int .u32 (a : Int)) := (ho.cell 0).trans rfl
    have a1 : W.cell? ⟨w.heap.size, 1, none⟩ = some (.int .u32 (b : Int)) := (ho.cell 1).trans rfl
    have f0 : W.cell? ⟨bl, off + a, none⟩ = some (.slice pA np pc) := (hb1.cell (p := ⟨bl, off + a, none⟩) hbl).trans hf
    have HB := Lib.hid hb1
    clear hW hb1 ho hf
    by_cases h2 : b < np
    · have t1 : decide ((b : Int) < (np : Int)) = true := decide_eq_true (by omega)
      go_quiet (fail)
      go_wp2_with fail
      go_ret
      exact ⟨by rw [decide_eq_true h2]; rfl, below_drewN HB.out _⟩
    · have t1 : decide ((b : Int) < (np : Int)) = false := decide_eq_false (by omega)
      go_quiet (fail)
      go_wp2_with fail
      go_ret
      exact ⟨by rw [decide_eq_false h2]; rfl, below_drewN HB.out _⟩
  · have e1 : okD n F a b = false := by unfold okD; rw [decide_eq_false h1]; rfl
    rw [e1]
    have t0 : decide ((n : Int) ≤ (a : Int)) = true := decide_eq_true (by omega)
    clear hs hp
    go_enter Try.func7, Try.ntmps7
    go_wp2_with fail
    go_ret
    exact ⟨rfl, by go_grown⟩
end Go.Proofs.Ytmjfdhgfpgeboac.Ga
