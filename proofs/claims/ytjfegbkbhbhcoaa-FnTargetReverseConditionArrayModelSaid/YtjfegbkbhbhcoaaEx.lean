/-
  Contracts for the laws on reverse resolution: the entries' makers, exportsReverse at a root that is no map of subpaths. Conditions: sizes alone.
-/
import Derived.Test.YtjfegbkbhbhcoaaRows
import Derived.Test.YtjfegbkbhbhcoaaMem
import Derived.Test.YtjfegbkbhbhcoaaStr
import Derived.Test.YtjfegbkbhbhcoaaRow
import Derived.WalkKit
import Derived.WalkSpells
import Derived.Handy
import Derived.Lib.Hide
namespace Go.Proofs.Ytjfegbkbhbhcoaa.Ex
open Go.RowKit Go.PlainAid Str Mem Rws
set_option linter.unusedVariables false
set_option maxHeartbeats 1000000 in
theorem newStr (s : ByteArray) (a b : Int) (w : World) : Calls Try.prog 11 #[.string s, .int .i32 a, .int .i32 b] w fun e w' => e = .returned (.agg #[.string s, .slice none 0 0, .slice none 0 0, .slice none 0 0, .int .i32 a, .int .i32 b, .int .u8 1]) ∧ Below w.heap.size w w' := by
  go_enter Try.func11, Try.ntmps11
  go_wp2
  go_returns
  exact ⟨rfl, by go_grown⟩
set_option maxHeartbeats 1000000 in
theorem newArr (A : Option Addr) (n c : Nat) (w : World) : Calls Try.prog 12 #[.slice A n c] w fun e w' => e = .returned (.agg #[.string ⟨#[]⟩, .slice A n c, .slice none 0 0, .slice none 0 0, .int .i32 0, .int .i32 0, .int .u8 2]) ∧ Below w.heap.size w w' := by
  go_enter Try.func12, Try.ntmps12
  go_wp2
  go_returns
  exact ⟨rfl, by go_grown⟩
set_option maxHeartbeats 1000000 in
theorem newNull (w : World) : Calls Try.prog 13 #[] w fun e w' => e = .returned (.agg #[.string ⟨#[]⟩, .slice none 0 0, .slice none 0 0, .slice none 0 0, .int .i32 0, .int .i32 0, .int .u8 0]) ∧ Below w.heap.size w w' := by
  go_enter Try.func13, Try.ntmps13
  go_wp2
  go_returns
  exact ⟨rfl, by go_grown⟩
set_option maxHeartbeats 1000000 in
theorem newEnt (k s : ByteArray) (a b : Int) (w : World) : Calls Try.prog 14 #[.string k, .agg #[.string s, .slice none 0 0, .slice none 0 0, .slice none 0 0, .int .i32 a, .int .i32 b, .int .u8 1]] w fun e w' => e = .returned (.agg #[.string k, .string s, .slice none 0 0, .slice none 0 0, .slice none 0 0, .int .i32 a, .int .i32 b, .int .u8 1, .int .i32 0, .int .i32 0]) ∧ Below w.heap.size w w' := by
  go_enter Try.func14, Try.ntmps14
  go_wp2
  go_returns
  exact ⟨rfl, by go_grown⟩
set_option maxHeartbeats 1000000 in
theorem newObj (A : Option Addr) (n c : Nat) (w : World) : Calls Try.prog 15 #[.slice A n c, .slice none 0 0] w fun e w' => e = .returned (.agg #[.string ⟨#[]⟩, .slice none 0 0, .slice A n c, .slice none 0 0, .int .i32 0, .int .i32 0, .int .u8 3]) ∧ Below w.heap.size w w' := by
  go_enter Try.func15, Try.ntmps15
  go_wp2
  go_returns
  exact ⟨rfl, by go_grown⟩
theorem hasPrefix_any (s p : ByteArray) (w : World) (hs : s.size ≤ maxLen) (hp : p.size ≤ maxLen) : Calls Try.prog 28 #[.string s, .string p] w fun e w' => e = .returned (.bool (preB s p)) ∧ w = w' := by
  unfold maxLen at hs hp
  by_cases h : p.size ≤ s.size
  · have hb := toList_beq (s.extract 0 p.size) p
    go_enter Try.func28, Try.ntmps28
    go_wp2
    all_goals go_ret
    all_goals refine ⟨?_, rfl⟩
    all_goals (refine congrArg (fun b => Ending.returned (.bool b)) ?_; unfold preB; simp [h])
  · have h' : decide (p.size ≤ s.size) = false := by simp; omega
    go_enter Try.func28, Try.ntmps28
    go_wp2
    all_goals go_ret
    all_goals refine ⟨?_, rfl⟩
    all_goals (refine congrArg (fun b => Ending.returned (.bool b)) ?_; unfold preB; rw [h']; simp; try omega)
def dflt : ByteArray := ⟨#[100, 101, 102, 97, 117, 108, 116]⟩
abbrev rq : Value := .agg #[.pointer none, .pointer none, .pointer none, .int .u8 0]
abbrev no3 : Value := .tuple #[.bool false, .string ⟨#[]⟩, .agg #[.int .i32 0, .int .i32 0]]
/-- A root that exportsReverse refuses. -/
def Refused (w : World) (root : Value) : Prop :=
  ∃ (s : ByteArray) (A M : Option Addr) (n c m d : Nat) (a b kd : Int), root = .agg #[.string s, .slice A n c, .slice M m d, .slice none 0 0, .int .i32 a, .int .i32 b, .int .u8 kd] ∧ 0 ≤ kd ∧ kd ≤ 3 ∧
    (kd = 3 → m = 1 ∧ ∃ g off, M = some ⟨g, off, none⟩ ∧ g < w.heap.size ∧ w.cell? ⟨g, off, none⟩ = some (.string dflt))
theorem dflt_dot : preB dflt ⟨#[46]⟩ = false := by
  rw [← Bool.not_eq_true, preB_iff]
  intro h
  have h0 := h.2 0 (by decide)
  exact absurd h0 (by decide)
theorem Refused.alloc {w : World} {root : Value} (h : Refused w root) (o : Obj) : Refused (w.alloc o) root := by
  obtain ⟨s, A, M, n, c, m, d, a, b, kd, rfl, k0, k3, hk⟩ := h
  refine ⟨s, A, M, n, c, m, d, a, b, kd, rfl, k0, k3, fun h3 => ?_⟩
  obtain ⟨hm, g, off, e, hg, hc⟩ := hk h3
  exact ⟨hm, g, off, e, by simp; omega, by rw [World.cell?_alloc_lt _ _ _ hg]; exact hc⟩
theorem Refused.below {w w' : World} {root : Value} (h : Refused w root) (hb : Below w.heap.size w w') : Refused w' root := by
  obtain ⟨s, A, M, n, c, m, d, a, b, kd, rfl, k0, k3, hk⟩ := h
  refine ⟨s, A, M, n, c, m, d, a, b, kd, rfl, k0, k3, fun h3 => ?_⟩
  obtain ⟨hm, g, off, e, hg, hc⟩ := hk h3
  exact ⟨hm, g, off, e, Nat.lt_of_lt_of_le hg hb.size, (hb.cell (p := ⟨g, off, none⟩) hg).trans hc⟩
set_option maxHeartbeats 4000000 in
theorem dot26 (s : ByteArray) (A : Option Addr) (n c d g off : Nat) (a b : Int) (w : World) (hg : g < w.heap.size) (hc : w.cell? ⟨g, off, none⟩ = some (.string dflt)) :
    Calls Try.prog 26 #[.agg #[.string s, .slice A n c, .slice (some ⟨g, off, none⟩) 1 d, .slice none 0 0, .int .i32 a, .int .i32 b, .int .u8 3]] w fun e w' => e = .returned (.bool false) ∧ Below w.heap.size w w' := by
  have hgw : g ≠ w.heap.size := by omega
  go_enter Try.func26, Try.ntmps26
  go_wp2_with fail
  refine (hasPrefix_any dflt ⟨#[46]⟩ _ (by decide) (by decide)).mono ?_
  rintro e w' ⟨rfl, rfl⟩
  rw [dflt_dot]
  go_wp2_with fail
  go_ret
  exact ⟨rfl, by go_grown⟩
set_option maxHeartbeats 4000000 in
theorem exp23 (q : ByteArray) (root mp : Value) (w : World) (hr : Refused w root) :
    Calls Try.prog 23 #[rq, .string q, root, mp] w fun e w' => e = .returned no3 ∧ Below w.heap.size w w' := by
  obtain ⟨s, A, M, n, c, m, d, a, b, kd, rfl, k0, k3, hk⟩ := hr
  by_cases h3 : kd = 3
  · subst h3
    obtain ⟨rfl, g, off, rfl, hg, hc⟩ := hk rfl
    clear hk k0 k3
    have hcc : ∀ o1 o2 o3, (((w.alloc o1).alloc o2).alloc o3).cell? ⟨g, off, none⟩ = some (.string dflt) := fun o1 o2 o3 => by
      rw [World.cell?_alloc_lt _ _ _ (by simp; omega), World.cell?_alloc_lt _ _ _ (by simp; omega), World.cell?_alloc_lt _ _ _ (by simpa using hg)]
      exact hc
    have HCC := Lib.hid hcc
    clear hcc hc
    go_enter Try.func23, Try.ntmps23
    go_wp2_with fail
    refine (dot26 s A n c d g off a b _ (by simp; omega) (HCC.out _ _ _)).mono ?_
    have hN := Own.new ((w.alloc (.cells #[.pointer none, .pointer none, .pointer none, .int .u8 0] 58)).alloc (.cells #[.string s, .slice A n c, .slice (some ⟨g, off, none⟩) 1 d, .slice none 0 0, .int .i32 a, .int .i32 b, .int .u8 3] 36)) 33 #[.int .i32 0, .int .i32 0]
    have hB : Below w.heap.size w (((w.alloc (.cells #[.pointer none, .pointer none, .pointer none, .int .u8 0] 58)).alloc (.cells #[.string s, .slice A n c, .slice (some ⟨g, off, none⟩) 1 d, .slice none 0 0, .int .i32 a, .int .i32 b, .int .u8 3] 36)).alloc (.cells #[.int .i32 0, .int .i32 0] 33)) := by go_grown
    simp only [World.size_alloc] at hN
    generalize (((w.alloc (.cells #[.pointer none, .pointer none, .pointer none, .int .u8 0] 58)).alloc (.cells #[.string s, .slice A n c, .slice (some ⟨g, off, none⟩) 1 d, .slice none 0 0, .int .i32 a, .int .i32 b, .int .u8 3] 36)).alloc (.cells #[.int .i32 0, .int .i32 0] 33)) = wq at *
    rintro e w1 ⟨rfl, b1⟩
    have hzq := hN.lt
    have hN1 := hN.below b1 hzq
    have q0 := hN1.cell 0
    have q1 := hN1.cell 1
    have f0 := hN1.frozen 0
    have f1 := hN1.frozen 1
    have hB1 := hB.trans (b1.mono hB.size)
    clear hN hN1 hB b1
    go_wp2_with fail
    refine bodyPost_ret (v := no3) (by simp [results, Try.results23, go_sem, q0, q1]) rfl ⟨rfl, ?_⟩
    exact (hB1.setCell (by simp; omega) _).setCell (by simp; omega) _
  · have t3 : (kd == 3) = false := by simpa using h3
    clear hk h3
    go_enter Try.func23, Try.ntmps23
    go_wp2
    go_returns
    exact ⟨rfl, by go_grown⟩
set_option maxHeartbeats 4000000 in
theorem exp16 (q : ByteArray) (root mp : Value) (w : World) (hr : Refused w root) :
    Calls Try.prog 16 #[.string q, root, mp] w fun e w' => e = .returned no3 ∧ Below w.heap.size w w' := by
  have HR := Lib.hid hr
  obtain ⟨s, A, M, n, c, m, d, a, b, kd, rfl, k0, k3, hk⟩ := hr
  clear hk k0 k3
  go_enter Try.func16, Try.ntmps16
  go_wp2_with fail
  refine (exp23 q _ mp _ ((HR.out.alloc _).alloc _)).mono ?_
  have hN := Own.new (w.alloc (.cells #[.string s, .slice A n c, .slice M m d, .slice none 0 0, .int .i32 a, .int .i32 b, .int .u8 kd] 36)) 33 #[.int .i32 0, .int .i32 0]
  have hB : Below w.heap.size w ((w.alloc (.cells #[.string s, .slice A n c, .slice M m d, .slice none 0 0, .int .i32 a, .int .i32 b, .int .u8 kd] 36)).alloc (.cells #[.int .i32 0, .int .i32 0] 33)) := by go_grown
  simp only [World.size_alloc] at hN
  generalize (w.alloc (.cells #[.string s, .slice A n c, .slice M m d, .slice none 0 0, .int .i32 a, .int .i32 b, .int .u8 kd] 36)).alloc (.cells #[.int .i32 0, .int .i32 0] 33) = wq at *
  rintro e w1 ⟨rfl, b1⟩
  have hzq := hN.lt
  have hN1 := hN.below b1 hzq
  have q0 := hN1.cell 0
  have q1 := hN1.cell 1
  have f0 := hN1.frozen 0
  have f1 := hN1.frozen 1
  have hB1 := hB.trans (b1.mono hB.size)
  clear hN hN1 hB b1
  go_wp2_with fail
  refine bodyPost_ret (v := no3) (by simp [results, Try.results16, go_sem, q0, q1]) rfl ⟨rfl, ?_⟩
  exact (hB1.setCell (by simp) _).setCell (by simp) _
end Go.Proofs.Ytjfegbkbhbhcoaa.Ex
