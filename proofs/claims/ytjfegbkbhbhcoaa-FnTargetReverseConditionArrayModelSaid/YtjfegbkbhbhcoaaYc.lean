/-
  Contract for the law on reverse resolution at an array of condition objects: the size guard answers some Boolean and leaves memory as it was. Conditions: sizes alone.
-/
import Derived.Test.YtjfegbkbhbhcoaaYb
import Derived.Test.YtjfegbkbhbhcoaaOsr
namespace Go.Proofs.Ytjfegbkbhbhcoaa.Yc
open Go.RowKit Go.PlainAid Str Mem Rws Ex Go.Maps Ya Yb
set_option linter.unusedVariables false
/-- The rows of an argument of type [][]string. -/
def Rows2 (w : World) (n : Nat) (X : Nat → Option Addr × Nat × Nat × (Nat → ByteArray)) : Prop := ∀ j, j < n → (X j).2.1 ≤ (X j).2.2.1 ∧ (X j).2.2.1 ≤ maxLen ∧ Rd w w.heap.size 1 (X j).1 (X j).2.1 (fun l => .string ((X j).2.2.2 l)) ∧ ∀ l, l < (X j).2.1 → ((X j).2.2.2 l).size ≤ maxLen
theorem Rows2.at {w : World} {n : Nat} {X : Nat → Option Addr × Nat × Nat × (Nat → ByteArray)} (h : Rows2 w n X) {k : Nat} (hk : k < n) : ∃ A N C S, X k = (A, N, C, S) ∧ N ≤ C ∧ C ≤ maxLen ∧ Rd w w.heap.size 1 A N (fun l => .string (S l)) ∧ ∀ l, l < N → (S l).size ≤ maxLen := by
  obtain ⟨h1, h2, h3, h4⟩ := h k hk
  exact ⟨(X k).1, (X k).2.1, (X k).2.2.1, (X k).2.2.2, rfl, h1, h2, h3, h4⟩
def RB (n : Nat) (X : Nat → Option Addr × Nat × Nat × (Nat → ByteArray)) : Prop := ∀ i, i < n → (X i).2.1 ≤ 1048576 ∧ ∀ l, l < (X i).2.1 → ((X i).2.2.2 l).size ≤ 1048576
theorem RB.next {k : Nat} {X : Nat → Option Addr × Nat × Nat × (Nat → ByteArray)} (h : RB k X) {A : Option Addr} {N C : Nat} {S : Nat → ByteArray} (hx : X k = (A, N, C, S)) (hN : N ≤ 1048576) (hS : ∀ l, l < N → (S l).size ≤ 1048576) : RB (k + 1) X := fun i hi => by
  by_cases e : i = k
  · rw [e, hx]; exact ⟨hN, hS⟩
  · exact h i (by omega)
def Sb (n2 : Nat) (S2 : Nat → ByteArray) (n3 : Nat) (X3 : Nat → Option Addr × Nat × Nat × (Nat → ByteArray)) (n4 : Nat) (X4 : Nat → Option Addr × Nat × Nat × (Nat → ByteArray)) (w : World) (e : Ending) (w' : World) : Prop :=
  ∃ b : Bool, e = .returned (.bool b) ∧ (b = true → (∀ j, j < n2 → (S2 j).size ≤ 1048576) ∧ RB n3 X3 ∧ RB n4 X4) ∧ w = w'
set_option maxRecDepth 100000 in
set_option maxHeartbeats 16000000 in
theorem bytes17 (s0 s1 : ByteArray) (A2 : Option Addr) (n2 c2 : Nat) (S2 : Nat → ByteArray) (A3 : Option Addr) (n3 c3 : Nat) (X3 : Nat → Option Addr × Nat × Nat × (Nat → ByteArray)) (A4 : Option Addr) (n4 c4 : Nat) (X4 : Nat → Option Addr × Nat × Nat × (Nat → ByteArray)) (w : World)
    (hs0 : s0.size ≤ maxLen) (hs1 : s1.size ≤ maxLen) (hA2 : Rd w w.heap.size 1 A2 n2 (fun j => .string (S2 j))) (hn2 : n2 ≤ maxLen) (hS2 : ∀ j, j < n2 → (S2 j).size ≤ maxLen)
    (hA3 : Rd w w.heap.size 1 A3 n3 (fun j => .slice (X3 j).1 (X3 j).2.1 (X3 j).2.2.1)) (hn3 : n3 ≤ maxLen) (hX3 : Rows2 w n3 X3) (hA4 : Rd w w.heap.size 1 A4 n4 (fun j => .slice (X4 j).1 (X4 j).2.1 (X4 j).2.2.1)) (hn4 : n4 ≤ maxLen) (hX4 : Rows2 w n4 X4) :
    Calls Try.prog 17 #[.string s0, .string s1, .slice A2 n2 c2, .slice A3 n3 c3, .slice A4 n4 c4] w (Sb n2 S2 n3 X3 n4 X4 w) := by
  unfold maxLen at hs0 hs1 hn2 hn3 hn4
  have HA2 := Lib.hid hA2
  have HS2 := Lib.hid hS2
  have HA3 := Lib.hid hA3
  have HX3 := Lib.hid hX3
  have HA4 := Lib.hid hA4
  have HX4 := Lib.hid hX4
  clear hA2 hS2 hA3 hX3 hA4 hX4
  go_enter Try.func17, Try.ntmps17
  by_cases g0 : s0.size ≤ 1048576
  · skip
    by_cases g2 : s0.size + s1.size ≤ 1048576
    · skip
      by_cases g4 : s0.size + s1.size + n2 ≤ 1048576
      · skip
        go_wp2_with fail
        go_loop [11, 12] (fun z i => ∃ t k : Nat, t ≤ 1048576 ∧ k ≤ n2 ∧ i = .int .i64 k ∧ z = .int .i64 t ∧ Hid (∀ j, j < k → (S2 j).size ≤ 1048576)) (fun _ i => n2 - (intOf i).toNat)
        case atStart => exact ⟨s0.size + s1.size + n2, 0, by omega, by omega, rfl, by first | rfl | (congr 1; omega), Lib.hid fun j hj => by omega⟩
        case round =>
          obtain ⟨t, k, ht, hk, rfl, rfl, HB2⟩ := hrel
          by_cases hlt : k < n2
          · obtain ⟨b, off, rfl, hb, hc⟩ := HA2.out (by omega)
            have hck := hc k (by omega)
            have hsk := HS2.out k hlt
            unfold maxLen at hsk
            clear hc
            by_cases q1 : (S2 k).size ≤ 1048576
            · by_cases q2 : t + (S2 k).size ≤ 1048576
              · have HB3 : Hid (∀ j, j < k + 1 → (S2 j).size ≤ 1048576) := Lib.hid fun j hj => by
                  by_cases e : j = k
                  · rw [e]; exact q1
                  · exact HB2.out j (by omega)
                go_wp2_with fail
                go_round
                case rel => exact ⟨t + (S2 k).size, k + 1, by omega, by omega, by go_num, by first | rfl | (congr 1; omega) | go_num, HB3⟩
                case measure => simp [intOf]; omega
              · go_wp2_with fail
                all_goals go_ret
                all_goals exact ⟨false, rfl, (fun h => by cases h), rfl⟩
            · go_wp2_with fail
              all_goals go_ret
              all_goals exact ⟨false, rfl, (fun h => by cases h), rfl⟩
          · obtain rfl : k = n2 := by omega
            clear hk hlt
            by_cases g35 : t + n3 ≤ 1048576
            · skip
              go_wp2_with fail
              go_loop [11, 13] (fun z i => ∃ t k : Nat, t ≤ 1048576 ∧ k ≤ n3 ∧ i = .int .i64 k ∧ z = .int .i64 t ∧ Hid (RB k X3)) (fun _ i => n3 - (intOf i).toNat)
              case atStart => exact ⟨t + n3, 0, by omega, by omega, rfl, by first | rfl | (congr 1; omega), Lib.hid fun j hj => by omega⟩
              case round =>
                obtain ⟨t, k, ht, hk, rfl, rfl, HBX3⟩ := hrel
                by_cases hlt : k < n3
                · obtain ⟨b, off, rfl, hb, hc⟩ := HA3.out (by omega)
                  obtain ⟨A', N', C', S', hx, hN, hC, hR, hS⟩ := HX3.out.at hlt
                  have hck := hc k (by omega)
                  simp only [hx] at hck
                  unfold maxLen at hC
                  have HR := Lib.hid hR
                  have HS' := Lib.hid hS
                  have HXX := Lib.hid hx
                  clear hc hx hR hS
                  by_cases q1 : N' ≤ 1048576
                  · by_cases q2 : t + N' ≤ 1048576
                    · go_wp2_with fail
                      go_loop [11, 14] (fun z i => ∃ u l : Nat, u ≤ 1048576 ∧ l ≤ N' ∧ i = .int .i64 l ∧ z = .int .i64 u ∧ Hid (∀ j, j < l → (S' j).size ≤ 1048576)) (fun _ i => N' - (intOf i).toNat)
                      case atStart => exact ⟨t + N', 0, by omega, by omega, rfl, by first | rfl | (congr 1; omega), Lib.hid fun j hj => by omega⟩
                      case round =>
                        obtain ⟨u, l, hu, hl, rfl, rfl, HBL⟩ := hrel
                        by_cases hll : l < N'
                        · obtain ⟨b1, off1, rfl, hb1, hc1⟩ := HR.out (by omega)
                          have hcl := hc1 l (by omega)
                          have hsl := HS'.out l hll
                          unfold maxLen at hsl
                          clear hc1
                          by_cases q3 : (S' l).size ≤ 1048576
                          · by_cases q4 : u + (S' l).size ≤ 1048576
                            · have HBM : Hid (∀ j, j < l + 1 → (S' j).size ≤ 1048576) := Lib.hid fun j hj => by
                                by_cases e : j = l
                                · rw [e]; exact q3
                                · exact HBL.out j (by omega)
                              go_wp2_with fail
                              go_round
                              case rel => exact ⟨u + (S' l).size, l + 1, by omega, by omega, by go_num, by first | rfl | (congr 1; omega) | go_num, HBM⟩
                              case measure => simp [intOf]; omega
                            · go_wp2_with fail
                              all_goals go_ret
                              all_goals exact ⟨false, rfl, (fun h => by cases h), rfl⟩
                          · go_wp2_with fail
                            all_goals go_ret
                            all_goals exact ⟨false, rfl, (fun h => by cases h), rfl⟩
                        · obtain rfl : l = N' := by omega
                          have HBK := Lib.hid (HBX3.out.next HXX.out q1 HBL.out)
                          go_wp2_with fail
                          go_round
                          case rel => exact ⟨u, k + 1, by omega, by omega, by go_num, rfl, HBK⟩
                          case measure => simp [intOf]; omega
                    · go_wp2_with fail
                      all_goals go_ret
                      all_goals exact ⟨false, rfl, (fun h => by cases h), rfl⟩
                  · go_wp2_with fail
                    all_goals go_ret
                    all_goals exact ⟨false, rfl, (fun h => by cases h), rfl⟩
                · obtain rfl : k = n3 := by omega
                  clear hk hlt
                  by_cases g95 : t + n4 ≤ 1048576
                  · skip
                    go_wp2_with fail
                    go_loop [11, 15] (fun z i => ∃ t k : Nat, t ≤ 1048576 ∧ k ≤ n4 ∧ i = .int .i64 k ∧ z = .int .i64 t ∧ Hid (RB k X4)) (fun _ i => n4 - (intOf i).toNat)
                    case atStart => exact ⟨t + n4, 0, by omega, by omega, rfl, by first | rfl | (congr 1; omega), Lib.hid fun j hj => by omega⟩
                    case round =>
                      obtain ⟨t, k, ht, hk, rfl, rfl, HBX4⟩ := hrel
                      by_cases hlt : k < n4
                      · obtain ⟨b, off, rfl, hb, hc⟩ := HA4.out (by omega)
                        obtain ⟨A', N', C', S', hx, hN, hC, hR, hS⟩ := HX4.out.at hlt
                        have hck := hc k (by omega)
                        simp only [hx] at hck
                        unfold maxLen at hC
                        have HR := Lib.hid hR
                        have HS' := Lib.hid hS
                        have HXX := Lib.hid hx
                        clear hc hx hR hS
                        by_cases q1 : N' ≤ 1048576
                        · by_cases q2 : t + N' ≤ 1048576
                          · go_wp2_with fail
                            go_loop [11, 16] (fun z i => ∃ u l : Nat, u ≤ 1048576 ∧ l ≤ N' ∧ i = .int .i64 l ∧ z = .int .i64 u ∧ Hid (∀ j, j < l → (S' j).size ≤ 1048576)) (fun _ i => N' - (intOf i).toNat)
                            case atStart => exact ⟨t + N', 0, by omega, by omega, rfl, by first | rfl | (congr 1; omega), Lib.hid fun j hj => by omega⟩
                            case round =>
                              obtain ⟨u, l, hu, hl, rfl, rfl, HBL⟩ := hrel
                              by_cases hll : l < N'
                              · obtain ⟨b1, off1, rfl, hb1, hc1⟩ := HR.out (by omega)
                                have hcl := hc1 l (by omega)
                                have hsl := HS'.out l hll
                                unfold maxLen at hsl
                                clear hc1
                                by_cases q3 : (S' l).size ≤ 1048576
                                · by_cases q4 : u + (S' l).size ≤ 1048576
                                  · have HBM : Hid (∀ j, j < l + 1 → (S' j).size ≤ 1048576) := Lib.hid fun j hj => by
                                      by_cases e : j = l
                                      · rw [e]; exact q3
                                      · exact HBL.out j (by omega)
                                    go_wp2_with fail
                                    go_round
                                    case rel => exact ⟨u + (S' l).size, l + 1, by omega, by omega, by go_num, by first | rfl | (congr 1; omega) | go_num, HBM⟩
                                    case measure => simp [intOf]; omega
                                  · go_wp2_with fail
                                    all_goals go_ret
                                    all_goals exact ⟨false, rfl, (fun h => by cases h), rfl⟩
                                · go_wp2_with fail
                                  all_goals go_ret
                                  all_goals exact ⟨false, rfl, (fun h => by cases h), rfl⟩
                              · obtain rfl : l = N' := by omega
                                have HBK := Lib.hid (HBX4.out.next HXX.out q1 HBL.out)
                                go_wp2_with fail
                                go_round
                                case rel => exact ⟨u, k + 1, by omega, by omega, by go_num, rfl, HBK⟩
                                case measure => simp [intOf]; omega
                          · go_wp2_with fail
                            all_goals go_ret
                            all_goals exact ⟨false, rfl, (fun h => by cases h), rfl⟩
                        · go_wp2_with fail
                          all_goals go_ret
                          all_goals exact ⟨false, rfl, (fun h => by cases h), rfl⟩
                      · obtain rfl : k = n4 := by omega
                        clear hk hlt
                        go_wp2_with fail
                        go_ret
                        exact ⟨true, rfl, fun _ => ⟨HB2.out, HBX3.out, HBX4.out⟩, rfl⟩
                  · go_wp2_with fail
                    all_goals go_ret
                    all_goals exact ⟨false, rfl, (fun h => by cases h), rfl⟩
            · go_wp2_with fail
              all_goals go_ret
              all_goals exact ⟨false, rfl, (fun h => by cases h), rfl⟩
      · go_wp2_with fail
        all_goals go_ret
        all_goals exact ⟨false, rfl, (fun h => by cases h), rfl⟩
    · go_wp2_with fail
      all_goals go_ret
      all_goals exact ⟨false, rfl, (fun h => by cases h), rfl⟩
  · go_wp2_with fail
    all_goals go_ret
    all_goals exact ⟨false, rfl, (fun h => by cases h), rfl⟩
end Go.Proofs.Ytjfegbkbhbhcoaa.Yc
