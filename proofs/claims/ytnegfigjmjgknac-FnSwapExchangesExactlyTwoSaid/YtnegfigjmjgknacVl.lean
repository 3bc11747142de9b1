/-
  Contracts of valueForKey. Conditions: sizes alone.
-/
import Derived.Test.YtnegfigjmjgknacRows
import Derived.Test.YtnegfigjmjgknacMem
import Derived.Test.YtnegfigjmjgknacUrl
import Derived.Test.YtnegfigjmjgknacSz
import Derived.Test.YtnegfigjmjgknacKs
import Derived.WalkKit
import Derived.WalkSpells
import Derived.Handy
import Derived.Lib.Hide
import Derived.Outline
import Derived.Deep.RegionHeld3
import Derived.Deep.MidRow
import Derived.Deep.Cut
import Derived.Test.YtnegfigjmjgknacVk
namespace Go.Proofs.Ytnegfigjmjgknac.Vl
open Go.RowKit Go.PlainAid Str Mem Url Sz Ks Vk
set_option linter.unusedVariables false

def Vfk (n : Nat) (S T : Nat → ByteArray) (p : ByteArray) (w : World) (e : Ending) (w' : World) : Prop :=
  Below w.heap.size w w' ∧ ((∃ k, k < n ∧ S k = p ∧ (∀ j, j < k → S j ≠ p) ∧ e = .returned (.tuple #[.agg #[.string (T k), nilS, nilS, nilS, z32, z32, .int .u8 1], .bool true])) ∨
    ((∀ j, j < n → S j ≠ p) ∧ e = .returned (.tuple #[.agg #[.string ⟨#[]⟩, nilS, nilS, nilS, z32, z32, .int .u8 0], .bool false])))
theorem eqT {a b : ByteArray} (h : a = b) : (a.toList == b.toList) = true := by rw [toList_beq]; simpa using h
theorem eqF {a b : ByteArray} (h : a ≠ b) : (a.toList == b.toList) = false := by rw [toList_beq]; simpa using h
theorem cell_r {S T : Nat → ByteArray} {k r : Nat} (hr : r < 10) : cellF S T (k * 10 + r) = (vs10 (S k) (T k))[r]'(by simpa [vs10] using hr) := (vs10_at S T k r hr).symm
set_option maxHeartbeats 4000000 in
theorem vfk35 (g n : Nat) (S T : Nat → ByteArray) (p : ByteArray) (w : World) (hg : g < w.heap.size) (hc : ∀ j, j < n * 10 → w.cell? ⟨g, j, none⟩ = some (cellF S T j)) (hn : n ≤ 1048576) :
    Calls Try.prog 35 #[.agg #[.string ⟨#[]⟩, nilS, .slice (some ⟨g, 0, none⟩) n n, nilS, z32, z32, .int .u8 3], .string p] w (Vfk n S T p w) := by
  have HC := Lib.hid hc
  clear hc
  go_enter Try.func35, Try.ntmps35
  go_wp2
  go_loopw [11] (fun i wr => ∃ (k : Nat), k ≤ n ∧ i = .int .i64 k ∧ Own wr (w.heap.size + 1) 38 #[.string ⟨#[]⟩, .slice none 0 0, .slice none 0 0, .slice none 0 0, .int .i32 0, .int .i32 0, .int .u8 0] ∧ (∀ j, j < k → S j ≠ p) ∧ Below w.heap.size w wr) (fun i _ => n - (intOf i).toNat)
  case atStart =>
    refine ⟨0, by omega, rfl, ?_, by omega, by go_grown⟩
    have := Own.new (w.alloc (.cells #[.string ⟨#[]⟩, .slice none 0 0, .slice (some ⟨g, 0, none⟩) n n, .slice none 0 0, .int .i32 0, .int .i32 0, .int .u8 3] 38)) 38 #[.string ⟨#[]⟩, .slice none 0 0, .slice none 0 0, .slice none 0 0, .int .i32 0, .int .i32 0, .int .u8 0]
    rw [World.size_alloc] at this
    exact this
  case round =>
    obtain ⟨k, hk, rfl, ho, hd, hb⟩ := hrel
    have HD := Lib.hid hd
    clear hd
    by_cases hlt : k < n
    · have hh : ∀ r (hr : r < 10), wr.cell? ⟨g, k * 10 + r, none⟩ = some ((vs10 (S k) (T k))[r]'(by simpa [vs10] using hr)) := fun r hr =>
        ((hb.cell (p := ⟨g, k * 10 + r, none⟩) hg).trans (HC.out _ (by omega))).trans (by rw [cell_r hr])
      have c0 := hh 0 (by omega)
      have c1 := hh 1 (by omega)
      have c2 := hh 2 (by omega)
      have c3 := hh 3 (by omega)
      have c4 := hh 4 (by omega)
      have c5 := hh 5 (by omega)
      have c6 := hh 6 (by omega)
      have c7 := hh 7 (by omega)
      have c8 := hh 8 (by omega)
      have c9 := hh 9 (by omega)
      clear hh
      simp only [vs10, nilS, z32, List.getElem_cons_zero, List.getElem_cons_succ, Nat.add_zero] at c0 c1 c2 c3 c4 c5 c6 c7 c8 c9
      have hsz := hb.size
      have hgl := ho.lt
      by_cases he : S k = p
      · have te := eqT he
        have HE := Lib.hid he
        clear he
        have hO := ho.alloc (.cells #[.string (S k), .string (T k), .slice none 0 0, .slice none 0 0, .slice none 0 0, .int .i32 0, .int .i32 0, .int .u8 1, .int .i32 0, .int .i32 0] 57)
        have hN := Own.new wr 57 #[.string (S k), .string (T k), .slice none 0 0, .slice none 0 0, .slice none 0 0, .int .i32 0, .int .i32 0, .int .u8 1, .int .i32 0, .int .i32 0]
        have hB := hb.alloc hsz (.cells #[.string (S k), .string (T k), .slice none 0 0, .slice none 0 0, .slice none 0 0, .int .i32 0, .int .i32 0, .int .u8 1, .int .i32 0, .int .i32 0] 57)
        clear ho hb
        go_upto_region 5 with (fail)
        clear c0 c1 c2 c3 c4 c5 c6 c7 c8 c9
        generalize wr.alloc (.cells #[.string (S k), .string (T k), .slice none 0 0, .slice none 0 0, .slice none 0 0, .int .i32 0, .int .i32 0, .int .u8 1, .int .i32 0, .int .i32 0] 57) = wq at *
        have d1 := hN.cell 1
        have d2 := hN.cell 2
        have d3 := hN.cell 3
        have d4 := hN.cell 4
        have d5 := hN.cell 5
        have d6 := hN.cell 6
        have d7 := hN.cell 7
        have q0 := hO.cell 0
        have q1 := hO.cell 1
        have q2 := hO.cell 2
        have q3 := hO.cell 3
        have q4 := hO.cell 4
        have q5 := hO.cell 5
        have q6 := hO.cell 6
        have f0 := hO.frozen 0
        have f1 := hO.frozen 1
        have f2 := hO.frozen 2
        have f3 := hO.frozen 3
        have f4 := hO.frozen 4
        have f5 := hO.frozen 5
        have f6 := hO.frozen 6
        clear hO hN
        go_wp2
        refine bodyPost_ret (v := .tuple #[.agg #[.string (T k), .slice none 0 0, .slice none 0 0, .slice none 0 0, .int .i32 0, .int .i32 0, .int .u8 1], .bool true]) (by simp [results, Try.results35, go_sem, q0, q1, q2, q3, q4, q5, q6]) rfl ?_
        refine ⟨?_, .inl ⟨k, hlt, HE.out, HD.out, rfl⟩⟩
        exact ((((((hB.setCell (by simp) _).setCell (by simp) _).setCell (by simp) _).setCell (by simp) _).setCell (by simp) _).setCell (by simp) _).setCell (by simp) _
      · have te := eqF he
        have HE := Lib.hid he
        clear he
        have hB := hb.alloc hsz (.cells #[.string (S k), .string (T k), .slice none 0 0, .slice none 0 0, .slice none 0 0, .int .i32 0, .int .i32 0, .int .u8 1, .int .i32 0, .int .i32 0] 57)
        have hO := ho.alloc (.cells #[.string (S k), .string (T k), .slice none 0 0, .slice none 0 0, .slice none 0 0, .int .i32 0, .int .i32 0, .int .u8 1, .int .i32 0, .int .i32 0] 57)
        have HO := Lib.hid hO
        clear ho hb hO
        go_wp2
        refine ⟨⟨k + 1, by omega, by go_num, HO.out, fun j hj => ?_, hB⟩, by simp [intOf]; omega⟩
        rcases Nat.lt_or_ge j k with h | h
        · exact HD.out j h
        · obtain rfl : j = k := by omega
          exact HE.out
    · obtain rfl : n = k := by omega
      have q0 := ho.cell 0
      have q1 := ho.cell 1
      have q2 := ho.cell 2
      have q3 := ho.cell 3
      have q4 := ho.cell 4
      have q5 := ho.cell 5
      have q6 := ho.cell 6
      have f0 := ho.frozen 0
      have f1 := ho.frozen 1
      have f2 := ho.frozen 2
      have f3 := ho.frozen 3
      have f4 := ho.frozen 4
      have f5 := ho.frozen 5
      have f6 := ho.frozen 6
      clear ho
      go_wp2
      refine bodyPost_ret (v := .tuple #[.agg #[.string ⟨#[]⟩, .slice none 0 0, .slice none 0 0, .slice none 0 0, .int .i32 0, .int .i32 0, .int .u8 0], .bool false]) (by simp [results, Try.results35, go_sem, q0, q1, q2, q3, q4, q5, q6]) rfl ?_
      refine ⟨?_, .inr ⟨HD.out, rfl⟩⟩
      exact ((((((hb.setCell (by simp) _).setCell (by simp) _).setCell (by simp) _).setCell (by simp) _).setCell (by simp) _).setCell (by simp) _).setCell (by simp) _

set_option maxHeartbeats 4000000 in
theorem vfk14 (g n : Nat) (S T : Nat → ByteArray) (p : ByteArray) (w : World) (hg : g < w.heap.size) (hc : ∀ j, j < n * 10 → w.cell? ⟨g, j, none⟩ = some (cellF S T j)) (hn : n ≤ 1048576) :
    Calls Try.prog 14 #[.agg #[.string ⟨#[]⟩, nilS, .slice (some ⟨g, 0, none⟩) n n, nilS, z32, z32, .int .u8 3], .string p] w (Vfk n S T p w) := by
  have HC := Lib.hid hc
  clear hc
  go_enter Try.func14, Try.ntmps14
  go_wp2_with fail
  refine (vfk35 g n S T p _ (by simp; omega) (fun j hj => ?_) hn).mono ?_
  · simp only [nilS, z32]
    rw [World.cell?_alloc_lt _ _ _ (by simp; omega), World.cell?_alloc_lt _ _ _ (by simpa using hg)]
    exact HC.out j hj
  have hO := Own.new (w.alloc (.cells #[.string ⟨#[]⟩, nilS, .slice (some ⟨g, 0, none⟩) n n, nilS, z32, z32, .int .u8 3] 38)) 38 #[.string ⟨#[]⟩, nilS, nilS, nilS, z32, z32, .int .u8 0]
  have hB0 : Below w.heap.size w ((w.alloc (.cells #[.string ⟨#[]⟩, nilS, .slice (some ⟨g, 0, none⟩) n n, nilS, z32, z32, .int .u8 3] 38)).alloc (.cells #[.string ⟨#[]⟩, nilS, nilS, nilS, z32, z32, .int .u8 0] 38)) := by go_grown
  have hz0 : w.heap.size + 2 ≤ ((w.alloc (.cells #[.string ⟨#[]⟩, nilS, .slice (some ⟨g, 0, none⟩) n n, nilS, z32, z32, .int .u8 3] 38)).alloc (.cells #[.string ⟨#[]⟩, nilS, nilS, nilS, z32, z32, .int .u8 0] 38)).heap.size := by simp
  rw [World.size_alloc] at hO
  generalize ((w.alloc (.cells #[.string ⟨#[]⟩, nilS, .slice (some ⟨g, 0, none⟩) n n, nilS, z32, z32, .int .u8 3] 38)).alloc (.cells #[.string ⟨#[]⟩, nilS, nilS, nilS, z32, z32, .int .u8 0] 38)) = wq at *
  rintro e w1 ⟨hb, hcase⟩
  have hO1 := hO.below hb (by omega)
  have hB := hB0.trans (hb.mono (by omega))
  have q0 := hO1.cell 0
  have q1 := hO1.cell 1
  have q2 := hO1.cell 2
  have q3 := hO1.cell 3
  have q4 := hO1.cell 4
  have q5 := hO1.cell 5
  have q6 := hO1.cell 6
  have f0 := hO1.frozen 0
  have f1 := hO1.frozen 1
  have f2 := hO1.frozen 2
  have f3 := hO1.frozen 3
  have f4 := hO1.frozen 4
  have f5 := hO1.frozen 5
  have f6 := hO1.frozen 6
  clear hO hO1 hB0 hb hz0
  rcases hcase with ⟨k, hk, hS, hm, rfl⟩ | ⟨hm, rfl⟩
  · have HS := Lib.hid hS
    have HM := Lib.hid hm
    clear hS hm
    go_wp2
    refine bodyPost_ret (v := .tuple #[.agg #[.string (T k), .slice none 0 0, .slice none 0 0, .slice none 0 0, .int .i32 0, .int .i32 0, .int .u8 1], .bool true]) (by simp [results, Try.results14, go_sem, q0, q1, q2, q3, q4, q5, q6]) rfl ?_
    refine ⟨?_, .inl ⟨k, hk, HS.out, HM.out, rfl⟩⟩
    exact ((((((hB.setCell (by simp) _).setCell (by simp) _).setCell (by simp) _).setCell (by simp) _).setCell (by simp) _).setCell (by simp) _).setCell (by simp) _
  · have HM := Lib.hid hm
    clear hm
    go_wp2
    refine bodyPost_ret (v := .tuple #[.agg #[.string ⟨#[]⟩, .slice none 0 0, .slice none 0 0, .slice none 0 0, .int .i32 0, .int .i32 0, .int .u8 0], .bool false]) (by simp [results, Try.results14, go_sem, q0, q1, q2, q3, q4, q5, q6]) rfl ?_
    refine ⟨?_, .inr ⟨HM.out, rfl⟩⟩
    exact ((((((hB.setCell (by simp) _).setCell (by simp) _).setCell (by simp) _).setCell (by simp) _).setCell (by simp) _).setCell (by simp) _).setCell (by simp) _

/-- The same, the three values under names. -/
def VfCase (n : Nat) (S T : Nat → ByteArray) (p gs : ByteArray) (kd : Int) (ok : Bool) : Prop :=
  (∃ k, k < n ∧ S k = p ∧ (∀ j, j < k → S j ≠ p) ∧ gs = T k ∧ kd = 1 ∧ ok = true) ∨ ((∀ j, j < n → S j ≠ p) ∧ gs = ⟨#[]⟩ ∧ kd = 0 ∧ ok = false)
theorem Vfk.split {n : Nat} {S T : Nat → ByteArray} {p : ByteArray} {w : World} {e : Ending} {w' : World} (h : Vfk n S T p w e w') :
    ∃ (gs : ByteArray) (kd : Int) (ok : Bool), e = .returned (.tuple #[.agg #[.string gs, .slice none 0 0, .slice none 0 0, .slice none 0 0, .int .i32 0, .int .i32 0, .int .u8 kd], .bool ok]) ∧ VfCase n S T p gs kd ok ∧ Below w.heap.size w w' := by
  obtain ⟨hb, ⟨k, hk, hS, hm, rfl⟩ | ⟨hm, rfl⟩⟩ := h
  · exact ⟨T k, 1, true, rfl, .inl ⟨k, hk, hS, hm, rfl, rfl, rfl⟩, hb⟩
  · exact ⟨_, 0, false, rfl, .inr ⟨hm, rfl, rfl, rfl⟩, hb⟩

set_option maxHeartbeats 1000000 in
theorem sum8 (A : Option Addr) (n c : Nat) (S : Nat → ByteArray) (w : World) (hA : Rd w w.heap.size 1 A n (fun j => .string (S j))) (hn : n + tot S n ≤ 1048576) :
    Calls Try.prog 8 #[.slice A n c] w fun e w' => SumInt e ∧ w = w' := by
  have HA := Lib.hid hA
  clear hA
  by_cases h16 : n ≤ 65536
  · go_enter Try.func8, Try.ntmps8
    go_wp2
    go_loop [3, 4] (fun z i => ∃ k : Nat, k ≤ n ∧ i = .int .i64 k ∧ z = .int .i64 ((16 * n + tot S k : Nat) : Int)) (fun _ i => n - (intOf i).toNat)
    case atStart => exact ⟨0, by omega, rfl, vi (by have := tot0 S; omega)⟩
    case round =>
      obtain ⟨k, hk, rfl, rfl⟩ := hrel
      have hm := tot_mono S hk
      by_cases hlt : k < n
      · obtain ⟨b, off, rfl, hb, hc⟩ := HA.out (by omega)
        have hck := hc k (by omega)
        clear hc
        have hta := tot_at S hlt
        have hts := Lib.hid (totS S k)
        go_wp2
        · go_ret
          exact ⟨⟨_, by omega, by omega, rfl⟩, rfl⟩
        · go_round
          case rel => exact ⟨k + 1, by omega, by go_num, vi (by have := hts.out; omega)⟩
          case measure => simp [intOf]; omega
      · go_wp2
        go_ret
        exact ⟨⟨((16 * n + tot S k : Nat) : Int), by omega, by omega, rfl⟩, rfl⟩
  · go_enter Try.func8, Try.ntmps8
    go_wp2
    go_ret
    exact ⟨⟨_, by omega, by omega, rfl⟩, rfl⟩
set_option maxHeartbeats 1000000 in
theorem kind16 (s : ByteArray) (kd : Int) (w : World) : Calls Try.prog 16 #[.agg #[.string s, .slice none 0 0, .slice none 0 0, .slice none 0 0, .int .i32 0, .int .i32 0, .int .u8 kd]] w fun e w' => e = .returned (.int .u8 kd) ∧ Below w.heap.size w w' := by
  go_enter Try.func16, Try.ntmps16
  go_wp2
  go_ret
  exact ⟨rfl, by go_grown⟩
set_option maxHeartbeats 1000000 in
theorem str17 (s : ByteArray) (kd : Int) (w : World) : Calls Try.prog 17 #[.agg #[.string s, .slice none 0 0, .slice none 0 0, .slice none 0 0, .int .i32 0, .int .i32 0, .int .u8 kd]] w fun e w' => e = .returned (.string s) ∧ Below w.heap.size w w' := by
  go_enter Try.func17, Try.ntmps17
  go_wp2
  go_ret
  exact ⟨rfl, by go_grown⟩
set_option maxHeartbeats 4000000 in
theorem zero15 (w : World) : Calls Try.prog 15 #[.agg #[.string ⟨#[]⟩, .slice none 0 0, .slice none 0 0, .slice none 0 0, .int .i32 0, .int .i32 0, .int .u8 0]] w fun e w' => e = .returned (.bool true) ∧ Below w.heap.size w w' := by
  go_enter Try.func15, Try.ntmps15
  go_wp2
  go_ret
  exact ⟨rfl, by go_grown⟩
end Go.Proofs.Ytnegfigjmjgknac.Vl
