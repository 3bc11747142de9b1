/-
  Proved: what strings.HasPrefix returns, and what containsAtPreserveOrAtLicense answers. Conditions: those that each theorem names as its hypotheses,
  and no others.
-/
import Derived.Test.YtcljenkgbbbfpaaDoorZb
import Derived.Laws.RangeAny
import Derived.Lib.LaidU8
import Derived.Handy
namespace Go.Proofs.YtcljenkgbbbfpaaDoor.Zg
open Go.RowKit Go.PlainAid Str Mem De Lu Dw Cu Rws Za Zb
set_option linter.unusedVariables false
set_option linter.unusedSimpArgs false
def preB (s p : ByteArray) : Bool := decide (p.size ≤ s.size) && decide (s.extract 0 p.size = p)
theorem below_iter (w : World) (s : ByteArray) (k : Nat) : Below w.heap.size w (w.iter s k) := (Below.refl _ _).alloc (Nat.le_refl _) _
theorem prefix87 (s p : ByteArray) (w : World) (hs : s.size ≤ maxLen) (hp : p.size ≤ maxLen) : Calls Tryd.prog 87 #[.string s, .string p] w fun e w' => e = .returned (.bool (preB s p)) ∧ w = w' := by
  unfold maxLen at hs hp
  by_cases h : p.size ≤ s.size
  · have hb := toList_beq (s.extract 0 p.size) p
    go_enter Tryd.func87, Tryd.ntmps87
    go_wp2
    all_goals go_ret
    all_goals refine ⟨?_, rfl⟩
    all_goals (refine congrArg (fun b => Ending.returned (.bool b)) ?_; unfold preB; simp [h])
  · have h' : decide (p.size ≤ s.size) = false := by simp; omega
    go_enter Tryd.func87, Tryd.ntmps87
    go_wp2
    all_goals go_ret
    all_goals refine ⟨?_, rfl⟩
    all_goals (refine congrArg (fun b => Ending.returned (.bool b)) ?_; unfold preB; rw [h']; simp; try omega)
def PRE : ByteArray := ⟨#[112, 114, 101, 115, 101, 114, 118, 101]⟩
def LIC : ByteArray := ⟨#[108, 105, 99, 101, 110, 115, 101]⟩
set_option maxRecDepth 100000 in
set_option maxHeartbeats 8000000 in
theorem lic88 (x : ByteArray) (hx : x.size ≤ 2000000) (hno : ∀ k, k < x.size → bt x k = 64 → preB (x.extract (k + 1) x.size) PRE = false ∧ preB (x.extract (k + 1) x.size) LIC = false) (w : World) :
    Calls Tryd.prog 88 #[.string x] w fun e w' => e = .returned (.bool false) ∧ Below w.heap.size w w' := by
  have HNO := Lib.hid hno
  clear hno
  go_enter Tryd.func88, Tryd.ntmps88
  go_wp2
  go_loopw [3, 4] (fun _ _ wr => ∃ k : Nat, k ≤ x.size ∧ w.iter x k = wr) (fun _ _ wr => x.size - wr.iterPos w.heap.size)
  case atStart => exact ⟨0, by omega, rfl⟩
  case round =>
    obtain ⟨k, hk, rfl⟩ := hrel
    by_cases hlt : k < x.size
    · have hbk := bt_get x k hlt
      by_cases ha : (x[k]'hlt).toNat < 128
      · have hnx := run_next_ascii (P := Tryd.prog) w x k 0 hlt ha
        rw [← hbk] at hnx
        by_cases h64 : bt x k = 64
        · have hn := HNO.out k hlt h64
          have t64 : (bt x k == 64) = true := beq_iff_eq.2 h64
          have i0 : (0 : Int) ≤ (k : Int) + 1 := by omega
          have i1 : (k : Int) + 1 ≤ (x.size : Int) := by omega
          have HN := Lib.hid hn
          have HLT := Lib.hid hlt
          clear hn ha hbk h64
          go_wp2_with fail
          refine (prefix87 _ PRE _ (by rw [size_extract]; unfold maxLen; omega) (by unfold maxLen; decide)).mono ?_
          rintro e w9 ⟨rfl, rfl⟩
          rw [HN.out.1]
          go_wp2_with fail
          refine (prefix87 _ LIC _ (by rw [size_extract]; unfold maxLen; omega) (by unfold maxLen; decide)).mono ?_
          rintro e w9 ⟨rfl, rfl⟩
          rw [HN.out.2]
          go_wp2_with fail
          exact ⟨⟨k + 1, by have := HLT.out; omega, rfl⟩, by simp only [World.iterPos_iter]; have := HLT.out; omega⟩
        · have t64 : (bt x k == 64) = false := beq_eq_false_iff_ne.2 h64
          clear ha hbk h64
          go_wp2_with fail
          exact ⟨⟨k + 1, by omega, rfl⟩, by simp only [World.iterPos_iter]; omega⟩
      · have hh := decode_high x k hlt (by omega)
        have hle := decode_le x k
        have hle2 := (rd_bounds x k hk).2.2
        unfold rw' at hle2
        rw [rd_at hlt] at hle2
        have hnx := run_next_any (P := Tryd.prog) w x k 0 hlt
        generalize (Utf8.decode x k).2 = wd at *
        generalize (Utf8.decode x k).1 = r at *
        have t64 : ((r : Int) == 64) = false := beq_eq_false_iff_ne.2 (by omega)
        clear ha hbk
        go_wp2_with fail
        exact ⟨⟨k + wd, by omega, rfl⟩, by simp only [World.iterPos_iter]; omega⟩
    · have hend := run_next_end (P := Tryd.prog) w x k 0 (by omega)
      go_wp2_with fail
      go_ret
      exact ⟨rfl, below_iter _ _ _⟩
end Go.Proofs.YtcljenkgbbbfpaaDoor.Zg
