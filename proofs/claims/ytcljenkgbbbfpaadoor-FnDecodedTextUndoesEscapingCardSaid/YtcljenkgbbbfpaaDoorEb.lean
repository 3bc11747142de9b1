/-
  Contracts of the laws' own encoders of a rune: they push the bytes of its encoding. Conditions: the rune is a scalar value; the buffer is the call's own.
-/
import Derived.Test.YtcljenkgbbbfpaaDoorAp
import Derived.WalkSpells
import Derived.Handy
namespace Go.Proofs.YtcljenkgbbbfpaaDoor.Eb
open Go.RowKit Mem Ap
set_option linter.unusedVariables false
theorem enc4 {c : Int} (h : 65536 ≤ c) (h1 : c ≤ 1114111) : Lib.encodeRuneZ c = [240 + c / 262144, 128 + c / 4096 % 64, 128 + c / 64 % 64, 128 + c % 64] := by
  unfold Lib.encodeRuneZ
  rw [if_neg (by omega), if_neg (by omega), if_neg (by omega), if_pos (by omega)]
set_option maxRecDepth 100000 in
set_option maxHeartbeats 4000000 in
theorem enc1 (B : Nat) (v : Value) (l : List Int) (r : Int) (w : World) (hown : w.ownsRow B 5 1 v l.length (bytesV l)) (hB : B ≤ w.heap.size) (hl : l.length ≤ 100000000) (h0 : 0 ≤ r) (h1 : r < 128) :
    Calls Tryd.prog 21 #[v, .int .i32 r] w (Put B v l (Lib.encodeRuneZ r) w) := by
  have HB := Lib.hid (Bf.start hown hB)
  rw [Lib.encodeRuneZ_one h0 (by omega)]
  clear hown
  go_enter Tryd.func21, Tryd.ntmps21
  go_wp2_with (at_builtin; (refine push rfl _ _ rfl B w _ _ v l _ rfl HB.out (by rfl) (by omega) ?_))
  intro v1 w1 hb1
  have HB1 := Lib.hid hb1
  clear hb1 HB
  go_wp2_with fail
  go_ret
  exact ⟨v1, rfl, HB1.out⟩
set_option maxRecDepth 100000 in
set_option maxHeartbeats 4000000 in
theorem enc2 (B : Nat) (v : Value) (l : List Int) (r : Int) (w : World) (hown : w.ownsRow B 5 1 v l.length (bytesV l)) (hB : B ≤ w.heap.size) (hl : l.length ≤ 100000000) (h0 : 128 ≤ r) (h1 : r < 2048) :
    Calls Tryd.prog 21 #[v, .int .i32 r] w (Put B v l (Lib.encodeRuneZ r) w) := by
  have HB := Lib.hid (Bf.start hown hB)
  rw [Lib.encodeRuneZ_two h0 (by omega)]
  clear hown
  have e1 : bits .and .i32 r 63 = r % 64 := Bit.and_63 _ (by omega) (by omega)
  have o1 : bits .or .i32 128 (r % 64) = 128 + r % 64 := Bit.or_6 _ _ (by omega) (by omega) (by omega) (by omega) (by omega)
  have p2 : bits .or .i32 192 (r / 64) = 192 + r / 64 := Bit.or_5 _ _ (by omega) (by omega) (by omega) (by omega) (by omega)
  go_enter Tryd.func21, Tryd.ntmps21
  go_wp2_with (at_builtin; (refine push rfl _ _ rfl B w _ _ v l _ rfl HB.out (by rfl) (by omega) ?_))
  intro v1 w1 hb1
  have HB1 := Lib.hid hb1
  clear hb1 HB
  go_wp2_with (at_builtin; (refine push rfl _ _ rfl B w _ _ v1 _ _ rfl HB1.out (by rfl) (by simp; omega) ?_))
  intro v2 w2 hb2
  have HB2 := Lib.hid hb2
  clear hb2 HB1
  go_wp2_with fail
  go_ret
  refine ⟨v2, rfl, ?_⟩
  have := HB2.out
  simpa only [List.append_assoc, List.cons_append, List.nil_append] using this
set_option maxRecDepth 100000 in
set_option maxHeartbeats 4000000 in
theorem enc3 (B : Nat) (v : Value) (l : List Int) (r : Int) (w : World) (hown : w.ownsRow B 5 1 v l.length (bytesV l)) (hB : B ≤ w.heap.size) (hl : l.length ≤ 100000000) (h0 : 2048 ≤ r) (h1 : r < 65536) (hs : r < 55296 ∨ 57343 < r) :
    Calls Tryd.prog 21 #[v, .int .i32 r] w (Put B v l (Lib.encodeRuneZ r) w) := by
  have HB := Lib.hid (Bf.start hown hB)
  rw [Lib.encodeRuneZ_three (by omega)]
  clear hown
  have e1 : bits .and .i32 r 63 = r % 64 := Bit.and_63 _ (by omega) (by omega)
  have e2 : bits .and .i32 (r / 64) 63 = r / 64 % 64 := Bit.and_63 _ (by omega) (by omega)
  have o1 : bits .or .i32 128 (r % 64) = 128 + r % 64 := Bit.or_6 _ _ (by omega) (by omega) (by omega) (by omega) (by omega)
  have o2 : bits .or .i32 128 (r / 64 % 64) = 128 + r / 64 % 64 := Bit.or_6 _ _ (by omega) (by omega) (by omega) (by omega) (by omega)
  have p3 : bits .or .i32 224 (r / 4096) = 224 + r / 4096 := Bit.or_4 _ _ (by omega) (by omega) (by omega) (by omega) (by omega)
  go_enter Tryd.func21, Tryd.ntmps21
  go_wp2_with (at_builtin; (refine push rfl _ _ rfl B w _ _ v l _ rfl HB.out (by rfl) (by omega) ?_))
  all_goals
    intro v1 w1 hb1
    have HB1 := Lib.hid hb1
    clear hb1 HB
    go_wp2_with (at_builtin; (refine push rfl _ _ rfl B w _ _ v1 _ _ rfl HB1.out (by rfl) (by simp; omega) ?_))
    intro v2 w2 hb2
    have HB2 := Lib.hid hb2
    clear hb2 HB1
    go_wp2_with (at_builtin; (refine push rfl _ _ rfl B w _ _ v2 _ _ rfl HB2.out (by rfl) (by simp; omega) ?_))
    intro v3 w3 hb3
    have HB3 := Lib.hid hb3
    clear hb3 HB2
    go_wp2_with fail
    go_ret
    refine ⟨v3, rfl, ?_⟩
    have := HB3.out
    simpa only [List.append_assoc, List.cons_append, List.nil_append] using this
set_option maxRecDepth 100000 in
set_option maxHeartbeats 4000000 in
theorem enc4' (B : Nat) (v : Value) (l : List Int) (r : Int) (w : World) (hown : w.ownsRow B 5 1 v l.length (bytesV l)) (hB : B ≤ w.heap.size) (hl : l.length ≤ 100000000) (h0 : 65536 ≤ r) (h1 : r ≤ 1114111) :
    Calls Tryd.prog 21 #[v, .int .i32 r] w (Put B v l (Lib.encodeRuneZ r) w) := by
  have HB := Lib.hid (Bf.start hown hB)
  rw [enc4 h0 h1]
  clear hown
  have e1 : bits .and .i32 r 63 = r % 64 := Bit.and_63 _ (by omega) (by omega)
  have e2 : bits .and .i32 (r / 64) 63 = r / 64 % 64 := Bit.and_63 _ (by omega) (by omega)
  have e3 : bits .and .i32 (r / 4096) 63 = r / 4096 % 64 := Bit.and_63 _ (by omega) (by omega)
  have o1 : bits .or .i32 128 (r % 64) = 128 + r % 64 := Bit.or_6 _ _ (by omega) (by omega) (by omega) (by omega) (by omega)
  have o2 : bits .or .i32 128 (r / 64 % 64) = 128 + r / 64 % 64 := Bit.or_6 _ _ (by omega) (by omega) (by omega) (by omega) (by omega)
  have o3 : bits .or .i32 128 (r / 4096 % 64) = 128 + r / 4096 % 64 := Bit.or_6 _ _ (by omega) (by omega) (by omega) (by omega) (by omega)
  have p4 : bits .or .i32 240 (r / 262144) = 240 + r / 262144 := Bit.or_3 _ _ (by omega) (by omega) (by omega) (by omega) (by omega)
  go_enter Tryd.func21, Tryd.ntmps21
  go_wp2_with (at_builtin; (refine push rfl _ _ rfl B w _ _ v l _ rfl HB.out (by rfl) (by omega) ?_))
  intro v1 w1 hb1
  have HB1 := Lib.hid hb1
  clear hb1 HB
  go_wp2_with (at_builtin; (refine push rfl _ _ rfl B w _ _ v1 _ _ rfl HB1.out (by rfl) (by simp; omega) ?_))
  intro v2 w2 hb2
  have HB2 := Lib.hid hb2
  clear hb2 HB1
  go_wp2_with (at_builtin; (refine push rfl _ _ rfl B w _ _ v2 _ _ rfl HB2.out (by rfl) (by simp; omega) ?_))
  intro v3 w3 hb3
  have HB3 := Lib.hid hb3
  clear hb3 HB2
  go_wp2_with (at_builtin; (refine push rfl _ _ rfl B w _ _ v3 _ _ rfl HB3.out (by rfl) (by simp; omega) ?_))
  intro v4 w4 hb4
  have HB4 := Lib.hid hb4
  clear hb4 HB3
  go_wp2_with fail
  go_ret
  refine ⟨v4, rfl, ?_⟩
  have := HB4.out
  simpa only [List.append_assoc, List.cons_append, List.nil_append] using this
theorem enc (B : Nat) (v : Value) (l : List Int) (r : Int) (w : World) (hown : w.ownsRow B 5 1 v l.length (bytesV l)) (hB : B ≤ w.heap.size) (hl : l.length ≤ 100000000) (h0 : 0 ≤ r) (h1 : r ≤ 1114111) (hs : r < 55296 ∨ 57343 < r) :
    Calls Tryd.prog 21 #[v, .int .i32 r] w (Put B v l (Lib.encodeRuneZ r) w) := by
  by_cases c1 : r < 128
  · exact enc1 B v l r w hown hB hl h0 c1
  by_cases c2 : r < 2048
  · exact enc2 B v l r w hown hB hl (by omega) c2
  by_cases c3 : r < 65536
  · exact enc3 B v l r w hown hB hl (by omega) c3 hs
  · exact enc4' B v l r w hown hB hl (by omega) h1
end Go.Proofs.YtcljenkgbbbfpaaDoor.Eb
