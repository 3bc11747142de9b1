/-
  Contracts for the law on expansionKeysArray.Swap: the exchange, the keyed list, the look at one slot. Conditions: sizes alone.
-/
import Derived.Test.YtnegfigjmjgknacRows
import Derived.Test.YtnegfigjmjgknacMem
import Derived.Test.YtnegfigjmjgknacRow
import Derived.Test.YtnegfigjmjgknacVl
import Derived.Test.YtnegfigjmjgknacIt
import Derived.WalkKit
import Derived.WalkSpells
import Derived.Handy
import Derived.Lib.Hide
import Derived.RegionTactic
import Derived.BigRegion
import Derived.ChangeAlike
import Derived.Deep.RegionHeld3
namespace Go.Proofs.Ytnegfigjmjgknac.Swa
open Go.RowKit Go.PlainAid Str Mem Ks Sz Vk Vl It
set_option linter.unusedVariables false
abbrev row10 (S T : Nat → ByteArray) (i : Nat) : List Value := [.string (S i), .string (T i), .slice none 0 0, .slice none 0 0, .slice none 0 0, .int .i32 0, .int .i32 0, .int .u8 1, .int .i32 0, .int .i32 0]
theorem row10_at (S T : Nat → ByteArray) (i r : Nat) (hr : r < 10) : (row10 S T i).getD r undef = cellF S T (i * 10 + r) := by
  rw [← vs10_at S T i r hr]
  match r, hr with
  | 0, _ | 1, _ | 2, _ | 3, _ | 4, _ | 5, _ | 6, _ | 7, _ | 8, _ | 9, _ => rfl
theorem ten' {W : World} {g o : Nat} (h : W.there g o 10) : ∃ x0 x1 x2 x3 x4 x5 x6 x7 x8 x9 : Value, W.cell? ⟨g, o, none⟩ = some x0 ∧ W.cell? ⟨g, o + 1, none⟩ = some x1 ∧ W.cell? ⟨g, o + 2, none⟩ = some x2 ∧ W.cell? ⟨g, o + 3, none⟩ = some x3 ∧ W.cell? ⟨g, o + 4, none⟩ = some x4 ∧ W.cell? ⟨g, o + 5, none⟩ = some x5 ∧ W.cell? ⟨g, o + 6, none⟩ = some x6 ∧ W.cell? ⟨g, o + 7, none⟩ = some x7 ∧ W.cell? ⟨g, o + 8, none⟩ = some x8 ∧ W.cell? ⟨g, o + 9, none⟩ = some x9 := by
  obtain ⟨x0, h0⟩ := Option.isSome_iff_exists.1 (h 0 (by omega)).1
  obtain ⟨x1, h1⟩ := Option.isSome_iff_exists.1 (h 1 (by omega)).1
  obtain ⟨x2, h2⟩ := Option.isSome_iff_exists.1 (h 2 (by omega)).1
  obtain ⟨x3, h3⟩ := Option.isSome_iff_exists.1 (h 3 (by omega)).1
  obtain ⟨x4, h4⟩ := Option.isSome_iff_exists.1 (h 4 (by omega)).1
  obtain ⟨x5, h5⟩ := Option.isSome_iff_exists.1 (h 5 (by omega)).1
  obtain ⟨x6, h6⟩ := Option.isSome_iff_exists.1 (h 6 (by omega)).1
  obtain ⟨x7, h7⟩ := Option.isSome_iff_exists.1 (h 7 (by omega)).1
  obtain ⟨x8, h8⟩ := Option.isSome_iff_exists.1 (h 8 (by omega)).1
  obtain ⟨x9, h9⟩ := Option.isSome_iff_exists.1 (h 9 (by omega)).1
  exact ⟨x0, x1, x2, x3, x4, x5, x6, x7, x8, x9, h0, h1, h2, h3, h4, h5, h6, h7, h8, h9⟩
set_option maxHeartbeats 8000000 in
theorem swap31 (g n c i j : Nat) (S T : Nat → ByteArray) (w : World) (hc : Rws.Cells w g 57 (n * 10) (cellF S T)) (hi : i < n) (hj : j < n) (hn : n ≤ 1048576) :
    Calls Try.prog 31 #[.slice (some ⟨g, 0, none⟩) n c, .int .i64 i, .int .i64 j] w fun e w' => e = .returned (.tuple #[]) ∧ Rws.Sw 10 g i j (row10 S T i) (row10 S T j) w w' := by
  have a0 : w.cell? ⟨g, i * 10, none⟩ = some (.string (S i)) := (hc.cell (l := i * 10) (by omega)).trans (by rw [show i * 10 = i * 10 + 0 from rfl, ← vs10_at S T i 0 (by omega)]; rfl)
  have a1 : w.cell? ⟨g, i * 10 + 1, none⟩ = some (.string (T i)) := (hc.cell (l := i * 10 + 1) (by omega)).trans (by rw [show i * 10 + 1 = i * 10 + 1 from rfl, ← vs10_at S T i 1 (by omega)]; rfl)
  have a2 : w.cell? ⟨g, i * 10 + 2, none⟩ = some (.slice none 0 0) := (hc.cell (l := i * 10 + 2) (by omega)).trans (by rw [show i * 10 + 2 = i * 10 + 2 from rfl, ← vs10_at S T i 2 (by omega)]; rfl)
  have a3 : w.cell? ⟨g, i * 10 + 3, none⟩ = some (.slice none 0 0) := (hc.cell (l := i * 10 + 3) (by omega)).trans (by rw [show i * 10 + 3 = i * 10 + 3 from rfl, ← vs10_at S T i 3 (by omega)]; rfl)
  have a4 : w.cell? ⟨g, i * 10 + 4, none⟩ = some (.slice none 0 0) := (hc.cell (l := i * 10 + 4) (by omega)).trans (by rw [show i * 10 + 4 = i * 10 + 4 from rfl, ← vs10_at S T i 4 (by omega)]; rfl)
  have a5 : w.cell? ⟨g, i * 10 + 5, none⟩ = some (.int .i32 0) := (hc.cell (l := i * 10 + 5) (by omega)).trans (by rw [show i * 10 + 5 = i * 10 + 5 from rfl, ← vs10_at S T i 5 (by omega)]; rfl)
  have a6 : w.cell? ⟨g, i * 10 + 6, none⟩ = some (.int .i32 0) := (hc.cell (l := i * 10 + 6) (by omega)).trans (by rw [show i * 10 + 6 = i * 10 + 6 from rfl, ← vs10_at S T i 6 (by omega)]; rfl)
  have a7 : w.cell? ⟨g, i * 10 + 7, none⟩ = some (.int .u8 1) := (hc.cell (l := i * 10 + 7) (by omega)).trans (by rw [show i * 10 + 7 = i * 10 + 7 from rfl, ← vs10_at S T i 7 (by omega)]; rfl)
  have a8 : w.cell? ⟨g, i * 10 + 8, none⟩ = some (.int .i32 0) := (hc.cell (l := i * 10 + 8) (by omega)).trans (by rw [show i * 10 + 8 = i * 10 + 8 from rfl, ← vs10_at S T i 8 (by omega)]; rfl)
  have a9 : w.cell? ⟨g, i * 10 + 9, none⟩ = some (.int .i32 0) := (hc.cell (l := i * 10 + 9) (by omega)).trans (by rw [show i * 10 + 9 = i * 10 + 9 from rfl, ← vs10_at S T i 9 (by omega)]; rfl)
  have b0 : w.cell? ⟨g, j * 10, none⟩ = some (.string (S j)) := (hc.cell (l := j * 10) (by omega)).trans (by rw [show j * 10 = j * 10 + 0 from rfl, ← vs10_at S T j 0 (by omega)]; rfl)
  have b1 : w.cell? ⟨g, j * 10 + 1, none⟩ = some (.string (T j)) := (hc.cell (l := j * 10 + 1) (by omega)).trans (by rw [show j * 10 + 1 = j * 10 + 1 from rfl, ← vs10_at S T j 1 (by omega)]; rfl)
  have b2 : w.cell? ⟨g, j * 10 + 2, none⟩ = some (.slice none 0 0) := (hc.cell (l := j * 10 + 2) (by omega)).trans (by rw [show j * 10 + 2 = j * 10 + 2 from rfl, ← vs10_at S T j 2 (by omega)]; rfl)
  have b3 : w.cell? ⟨g, j * 10 + 3, none⟩ = some (.slice none 0 0) := (hc.cell (l := j * 10 + 3) (by omega)).trans (by rw [show j * 10 + 3 = j * 10 + 3 from rfl, ← vs10_at S T j 3 (by omega)]; rfl)
  have b4 : w.cell? ⟨g, j * 10 + 4, none⟩ = some (.slice none 0 0) := (hc.cell (l := j * 10 + 4) (by omega)).trans (by rw [show j * 10 + 4 = j * 10 + 4 from rfl, ← vs10_at S T j 4 (by omega)]; rfl)
  have b5 : w.cell? ⟨g, j * 10 + 5, none⟩ = some (.int .i32 0) := (hc.cell (l := j * 10 + 5) (by omega)).trans (by rw [show j * 10 + 5 = j * 10 + 5 from rfl, ← vs10_at S T j 5 (by omega)]; rfl)
  have b6 : w.cell? ⟨g, j * 10 + 6, none⟩ = some (.int .i32 0) := (hc.cell (l := j * 10 + 6) (by omega)).trans (by rw [show j * 10 + 6 = j * 10 + 6 from rfl, ← vs10_at S T j 6 (by omega)]; rfl)
  have b7 : w.cell? ⟨g, j * 10 + 7, none⟩ = some (.int .u8 1) := (hc.cell (l := j * 10 + 7) (by omega)).trans (by rw [show j * 10 + 7 = j * 10 + 7 from rfl, ← vs10_at S T j 7 (by omega)]; rfl)
  have b8 : w.cell? ⟨g, j * 10 + 8, none⟩ = some (.int .i32 0) := (hc.cell (l := j * 10 + 8) (by omega)).trans (by rw [show j * 10 + 8 = j * 10 + 8 from rfl, ← vs10_at S T j 8 (by omega)]; rfl)
  have b9 : w.cell? ⟨g, j * 10 + 9, none⟩ = some (.int .i32 0) := (hc.cell (l := j * 10 + 9) (by omega)).trans (by rw [show j * 10 + 9 = j * 10 + 9 from rfl, ← vs10_at S T j 9 (by omega)]; rfl)
  have f0 := hc.frozen (i * 10)
  have f1 := hc.frozen (i * 10 + 1)
  have f2 := hc.frozen (i * 10 + 2)
  have f3 := hc.frozen (i * 10 + 3)
  have f4 := hc.frozen (i * 10 + 4)
  have f5 := hc.frozen (i * 10 + 5)
  have f6 := hc.frozen (i * 10 + 6)
  have f7 := hc.frozen (i * 10 + 7)
  have f8 := hc.frozen (i * 10 + 8)
  have f9 := hc.frozen (i * 10 + 9)
  have g0 := hc.frozen (j * 10)
  have g1 := hc.frozen (j * 10 + 1)
  have g2 := hc.frozen (j * 10 + 2)
  have g3 := hc.frozen (j * 10 + 3)
  have g4 := hc.frozen (j * 10 + 4)
  have g5 := hc.frozen (j * 10 + 5)
  have g6 := hc.frozen (j * 10 + 6)
  have g7 := hc.frozen (j * 10 + 7)
  have g8 := hc.frozen (j * 10 + 8)
  have g9 := hc.frozen (j * 10 + 9)
  obtain ⟨px0, px1, px2, px3, px4, px5, px6, px7, px8, px9, p0, p1, p2, p3, p4, p5, p6, p7, p8, p9⟩ := ten' (World.there_setCells (hc.there (j * 10) 10 (by omega)) g (i * 10) (row10 S T j))
  obtain ⟨qx0, qx1, qx2, qx3, qx4, qx5, qx6, qx7, qx8, qx9, q0, q1, q2, q3, q4, q5, q6, q7, q8, q9⟩ := ten' (World.there_setCells (hc.there (i * 10) 10 (by omega)) g (j * 10) (row10 S T i))
  rw [row10, ← chain10] at p0 p1 p2 p3 p4 p5 p6 p7 p8 p9 q0 q1 q2 q3 q4 q5 q6 q7 q8 q9
  have hi0 : (0 : Int) ≤ (i : Int) := by omega
  have hi1 : (i : Int) < (n : Int) := by omega
  have hj0 : (0 : Int) ≤ (j : Int) := by omega
  have hj1 : (j : Int) < (n : Int) := by omega
  clear hc
  go_enter Try.func31, Try.ntmps31
  go_region
  go_end0
  exact ⟨rfl, .inl rfl⟩
theorem swap10 (g n c i j : Nat) (S T : Nat → ByteArray) (w : World) (hc : Rws.Cells w g 57 (n * 10) (cellF S T)) (hi : i < n) (hj : j < n) (hn : n ≤ 1048576) :
    Calls Try.prog 10 #[.slice (some ⟨g, 0, none⟩) n c, .int .i64 i, .int .i64 j] w fun e w' => e = .returned (.tuple #[]) ∧ Rws.Sw 10 g i j (row10 S T i) (row10 S T j) w w' := by
  go_enter Try.func10, Try.ntmps10
  go_wp2_with fail
  refine (swap31 g n c i j S T _ hc hi hj hn).mono ?_
  rintro e w1 ⟨rfl, hs⟩
  go_wp2_with fail
  go_end0
  exact ⟨rfl, hs⟩
end Go.Proofs.Ytnegfigjmjgknac.Swa
