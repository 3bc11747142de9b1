/-
  Proved: what the wrappers of the making of a lexer, of its step, its next, its token and its count of newlines return. Conditions: those that each
  theorem names as its hypotheses, and no others.
-/
import Derived.Test.YtcljenkgbbbfpaaDoorZf
import Derived.Laws.EntriesVeiled
namespace Go.Proofs.YtcljenkgbbbfpaaDoor.Zj
open Go.RowKit Go.PlainAid Str Mem De Lu Dw Cu Rws Za Zb Zc Zd Ze Zf
set_option linter.unusedVariables false
set_option linter.unusedSimpArgs false
def Tk (ts tl un kd fl : Int) : Value := .agg #[.int .i32 ts, .int .i32 tl, .int .u16 un, .int .u8 kd, .int .u8 fl]
set_option maxRecDepth 100000 in
set_option maxHeartbeats 4000000 in
theorem tok38 (g : Nat) (u : ByteArray) (r0 r1 : Int) (s : ByteArray) (q : Nat) (ts un kd fl : Int) (w : World) (h : At g u r0 r1 s q ts un kd fl w) :
    Calls Tryd.prog 38 #[.pointer (some ⟨g, 0, none⟩)] w fun e w' => e = .returned (Tk ts ((q : Int) - ts) un kd fl) ∧ Below w.heap.size w w' := by
  have hk : ∀ x, Cl g u r0 r1 s (cnt s (q + wdOf s q) : Nat) ((q + wdOf s q : Nat) : Int) (cpOf s q) ts ((q : Int) - ts) un kd fl (w.alloc x) := fun x => (At.below h ((Below.refl _ _).alloc (Nat.le_refl _) x)).cl
  have c36 := fun x => (hk x).c36
  have c37 := fun x => (hk x).c37
  have c38 := fun x => (hk x).c38
  have c39 := fun x => (hk x).c39
  have c40 := fun x => (hk x).c40
  clear h hk
  generalize (q : Int) - ts = tl at *
  unfold Tk
  go_enter Tryd.func38, Tryd.ntmps38
  go_wp2_with fail
  refine bodyPost_ret (v := .agg #[.int .i32 ts, .int .i32 tl, .int .u16 un, .int .u8 kd, .int .u8 fl]) (by simp [results, Tryd.results38, go_sem]) rfl ⟨rfl, by go_grown⟩
set_option maxRecDepth 100000 in
set_option maxHeartbeats 4000000 in
theorem nl39 (g : Nat) (u : ByteArray) (r0 r1 : Int) (s : ByteArray) (q : Nat) (ts un kd fl : Int) (w : World) (h : At g u r0 r1 s q ts un kd fl w) :
    Calls Tryd.prog 39 #[.pointer (some ⟨g, 0, none⟩)] w fun e w' => e = .returned (.int .i64 (cnt s (q + wdOf s q) : Nat)) ∧ w = w' := by
  have c32 := h.cl.c32
  clear h
  go_enter Tryd.func39, Tryd.ntmps39
  go_wp2_with fail
  go_ret
  exact ⟨rfl, rfl⟩
set_option maxRecDepth 100000 in
theorem step36 (g : Nat) (w : World) (Q : World → Prop) (h : Calls Tryd.prog 41 #[.pointer (some ⟨g, 0, none⟩)] w fun e w' => e = .returned (.tuple #[]) ∧ Q w') :
    Calls Tryd.prog 36 #[.pointer (some ⟨g, 0, none⟩)] w fun e w' => e = .returned (.tuple #[]) ∧ Q w' := by
  have H := Lib.hid h
  clear h
  go_enter Tryd.func36, Tryd.ntmps36
  go_wp2_with fail
  refine H.out.mono ?_
  rintro e w' ⟨rfl, hq⟩
  have HQ := Lib.hid hq
  clear hq H
  go_wp2_with fail
  go_end0
  exact ⟨rfl, HQ.out⟩
set_option maxRecDepth 100000 in
theorem next37 (g : Nat) (w : World) (Q : World → Prop) (h : Calls Tryd.prog 51 #[.pointer (some ⟨g, 0, none⟩)] w fun e w' => e = .returned (.tuple #[]) ∧ Q w') :
    Calls Tryd.prog 37 #[.pointer (some ⟨g, 0, none⟩)] w fun e w' => e = .returned (.tuple #[]) ∧ Q w' := by
  have H := Lib.hid h
  clear h
  go_enter Tryd.func37, Tryd.ntmps37
  go_wp2_with fail
  refine H.out.mono ?_
  rintro e w' ⟨rfl, hq⟩
  have HQ := Lib.hid hq
  clear hq H
  go_wp2_with fail
  go_end0
  exact ⟨rfl, HQ.out⟩
set_option maxRecDepth 100000 in
set_option maxHeartbeats 4000000 in
theorem new35 (s : ByteArray) (w : World) : Calls Tryd.prog 35 #[.string s, .bool false] w fun e w' => ∃ g, e = .returned (.pointer (some ⟨g, 0, none⟩)) ∧ w.heap.size ≤ g ∧ On g ⟨#[]⟩ 0 0 s 0 0 0 0 0 0 0 w' ∧ Below w.heap.size w w' := by
  go_enter Tryd.func35, Tryd.ntmps35
  go_wp2_with fail
  go_ret
  exact ⟨w.heap.size, rfl, Nat.le_refl _, Own.new _ _ _, by go_grown⟩
end Go.Proofs.YtcljenkgbbbfpaaDoor.Zj
