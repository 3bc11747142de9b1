/-
  Contracts for the law on step: the exported looks at the lexer, and the facts of one round. Conditions: sizes, and the two tables of unicode/utf8.
-/
import Derived.Test.YtojihophipgljaaDoorEs
import Derived.Test.YtojihophipgljaaDoorWi
namespace Go.Proofs.YtojihophipgljaaDoor.St
open Go.RowKit Go.PlainAid Str Mem Rws Lx Wn Vr En Es
set_option linter.unusedVariables false
set_option maxRecDepth 100000 in
set_option maxHeartbeats 2000000 in
theorem new15 (s : ByteArray) (b : Bool) (w : World) : Calls Tryd.prog 15 #[.string s, .bool b] w (NewLx s w) := by
  go_enter Tryd.func15, Tryd.ntmps15
  go_wp2
  go_ret
  exact ⟨_, rfl, ⟨Own.new _ _ _, rfl, rfl, rfl, rfl, rfl, rfl, rfl⟩, by go_grown⟩
theorem step16 (g : Nat) (s : ByteArray) (k : Nat) (nl cp ts tl : Int) (cs : Array Value) (w : World) (h : LX w g s nl (k : Int) cp ts tl cs) (hT : Lib.Utf8Tabs 0 1 w) (hw2 : 2 ≤ w.heap.size) (hs : s.size ≤ 1048576) (hk : k ≤ s.size) (hn0 : 0 ≤ nl) (hn1 : nl ≤ 1000000000) (ht0 : 0 ≤ ts) (ht1 : ts ≤ 1000000) :
    Calls Tryd.prog 16 #[.pointer (some ⟨g, 0, none⟩)] w (Lx.Stepped w g s k nl ts) := by
  go_enter Tryd.func16, Tryd.ntmps16
  go_wp2_with fail
  refine (step25 g s k nl cp ts tl cs _ h hT hw2 hs hk hn0 hn1 ht0 ht1).mono ?_
  rintro e w1 ⟨cs', nl', rfl, h2, h3, h4, h5⟩
  go_wp2_with fail
  go_end0
  exact ⟨cs', nl', rfl, h2, h3, h4, h5⟩
theorem cp17 (g : Nat) (s : ByteArray) (nl cur cp ts tl : Int) (cs : Array Value) (w : World) (h : LX w g s nl cur cp ts tl cs) : Calls Tryd.prog 17 #[.pointer (some ⟨g, 0, none⟩)] w fun e w' => e = .returned (.int .i32 cp) ∧ w = w' := by
  have c35 := (h.own.cell 35).trans h.c35
  clear h
  go_enter Tryd.func17, Tryd.ntmps17
  go_wp2
  go_ret
  exact ⟨rfl, rfl⟩
theorem cur18 (g : Nat) (s : ByteArray) (nl cur cp ts tl : Int) (cs : Array Value) (w : World) (h : LX w g s nl cur cp ts tl cs) : Calls Tryd.prog 18 #[.pointer (some ⟨g, 0, none⟩)] w fun e w' => e = .returned (.int .i64 cur) ∧ w = w' := by
  have c33 := (h.own.cell 33).trans h.c33
  clear h
  go_enter Tryd.func18, Tryd.ntmps18
  go_wp2
  go_ret
  exact ⟨rfl, rfl⟩
theorem at_end {s : ByteArray} {k : Nat} (h : s.size ≤ k) : cpOf s k = -1 ∧ wdOf s k = 0 := by
  have e := Wi.dec_end h
  unfold cpOf wdOf
  rw [e]
  exact ⟨rfl, rfl⟩
theorem at_in {s : ByteArray} {k : Nat} (h : k < s.size) : cpOf s k = ((Utf8.decode s k).1 : Int) ∧ wdOf s k = (Utf8.decode s k).2 ∧ 1 ≤ wdOf s k ∧ k + wdOf s k ≤ s.size := by
  have e := Wi.dec_at h
  have hb := cp_bounds s k (by omega)
  have hp : 1 ≤ (Utf8.decode s k).2 := by
    rw [decode_dN]; unfold dN Lib.decodeN; repeat' split
    all_goals (simp only []; omega)
  unfold cpOf wdOf at *
  rw [e] at hb ⊢
  rw [if_neg (by omega)]
  exact ⟨rfl, rfl, hp, hb.2.2⟩
theorem enc_w {r : Int} {s : ByteArray} {k wd : Nat} (h : encP r s k wd) (hr : 0 ≤ r) : r ≤ 1114111 ∧ wd ≤ 4 := by unfold encP at h; omega
/-- What a round meets at a place in the text. -/
theorem round {s : ByteArray} {k : Nat} (h : k < s.size) : 0 ≤ cpOf s k ∧ cpOf s k ≤ 1114111 ∧ 1 ≤ wdOf s k ∧ wdOf s k ≤ 4 ∧ k + wdOf s k ≤ s.size ∧
    ((cpOf s k = 65533 ∧ wdOf s k = 1 ∧ 128 ≤ bt s k ∧ Utf8.decode s k = (65533, 1)) ∨ ((cpOf s k ≠ 65533 ∨ wdOf s k ≠ 1) ∧ encB (cpOf s k) s k (wdOf s k) = true)) := by
  obtain ⟨e1, e2, p1, p2⟩ := at_in h
  by_cases hv : Utf8.decode s k = (65533, 1)
  · have hb := bt_get s k h
    have h128 : 128 ≤ bt s k := by
      by_cases ha : bt s k < 128
      · rw [decode_ascii s k h (by omega)] at hv
        simp only [Prod.mk.injEq] at hv
        omega
      · omega
    rw [hv] at e1 e2
    simp only [] at e1 e2
    refine ⟨by omega, by omega, by omega, by omega, p2, .inl ⟨e1, e2, h128, hv⟩⟩
  · have g := good s k h hv
    have hw := enc_w g (by omega)
    refine ⟨by omega, by omega, p1, by omega, p2, .inr ⟨?_, ?_⟩⟩
    · by_cases e : (Utf8.decode s k).1 = 65533
      · refine .inr fun e3 => hv (Prod.ext e ?_)
        show (Utf8.decode s k).2 = 1
        omega
      · refine .inl ?_; omega
    · rw [e1, e2]; exact encB_yes g
end Go.Proofs.YtojihophipgljaaDoor.St
