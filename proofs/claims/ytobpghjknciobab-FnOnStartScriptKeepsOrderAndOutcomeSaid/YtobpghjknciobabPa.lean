/-
  Proved: StringToMaximumMsgID of the empty name is 0, and convertMessagesToInternal turns messages without places, in order. Conditions: those that
  each theorem names as its hypotheses, and no others.
-/
import Derived.Test.YtobpghjknciobabRows
import Derived.Test.YtobpghjknciobabMem
import Derived.Test.YtobpghjknciobabHo
import Derived.WalkKit
import Derived.WalkSpells
import Derived.Handy
import Derived.Lib.Hide
import Derived.PlainAid
import Derived.Laws.EntriesVeiled
import Derived.Deep.RegionHeld3
import Derived.Deep.CutRange
import Derived.Deep.QuietTactic
namespace Go.Proofs.Ytobpghjknciobab.Pa
open Go.RowKit Go.PlainAid Mem Ho
set_option linter.unusedVariables false
set_option linter.unusedSimpArgs false
set_option maxRecDepth 100000 in
set_option maxHeartbeats 4000000 in
theorem ids20 (r : Nat) (w : World) : Calls Try.prog 20 #[.string ⟨#[]⟩, .int .i8 3, .map (some r)] w fun e w' => e = .returned (.tuple #[]) ∧ w = w' := by
  go_enter Try.func20, Try.ntmps20
  go_wp2
  go_end0
  exact ⟨rfl, rfl⟩
def Giv (v : Value) (w : World) (e : Ending) (w' : World) : Prop := e = .returned v ∧ Below w.heap.size w w'
set_option maxRecDepth 100000 in
theorem id18 (w : World) : Calls Try.prog 18 #[.string ⟨#[]⟩] w (Giv (.int .u8 0) w) := by
  have hmk := run_makeMap (P := Try.prog) 48
  have hrg : (Instr.range 48 (.map (some w.heap.size))).run Try.prog (w.alloc (.map #[] 0)) = .ok (.pointer (some ⟨w.heap.size + 1, 0, none⟩)) ((w.alloc (.map #[] 0)).alloc (.mapIter (some w.heap.size) 0 #[] 0)) := by
    have := run_range_map (P := Try.prog) (w.alloc (.map #[] 0)) 48 _ _ w.heap.size #[] 0 Try.underlying48 (heap_alloc_new w _)
    simpa using this
  have hnx : ∀ ty, (Instr.next (.pointer (some ⟨w.heap.size + 1, 0, none⟩)) false ty).run Try.prog ((w.alloc (.map #[] 0)).alloc (.mapIter (some w.heap.size) 0 #[] 0)) = .ok (.tuple #[.bool false]) ((w.alloc (.map #[] 0)).alloc (.mapIter (some w.heap.size) 0 #[] 0)) := fun ty => by
    rcases run_next_map (P := Try.prog) (w.alloc (.map #[] 0)) ty w.heap.size 0 0 #[] #[] 0 (heap_alloc_new w _) (by simp) (Nat.le_refl _) with ⟨_, h⟩ | ⟨e, he, _⟩
    · simpa using h
    · simp [leftOf] at he
  go_enter Try.func18, Try.ntmps18
  go_wp2_with fail
  refine (ids20 _ _).mono ?_
  rintro e w' ⟨rfl, rfl⟩
  go_wp2
  refine wp_loop_rounds 1 ?_
  rw [rounds_succ]
  go_wp2
  go_ret
  exact ⟨rfl, by go_grown⟩
theorem loc17 (w : World) : Calls Try.prog 17 #[.pointer none] w fun e w' => e = .returned (.pointer none) ∧ w = w' := by
  go_enter Try.func17, Try.ntmps17
  go_wp2
  go_ret
  exact ⟨rfl, rfl⟩
theorem row_form {W : World} {lo sz n : Nat} {e : TypeId} {v : Value} {xs : List Value} (h : W.ownsRow lo e sz v n xs) : ∃ A c, v = .slice A n c := by
  rcases h.2 with ⟨rfl, rfl⟩ | ⟨g, cap, cur, rfl, _⟩
  · exact ⟨_, _, rfl⟩
  · exact ⟨_, _, rfl⟩
theorem undrew {W w1 : World} (h : Below W.drew.heap.size W.drew w1) : Below W.heap.size W w1 := ⟨h.os, h.tape, h.output, h.size, h.block⟩
def msgZ : Array Value := #[.slice none 0 0, .string ⟨#[]⟩, .nilIface, .pointer none, .string ⟨#[]⟩, .bool false, .int .u8 0, .int .u8 0]
theorem info75 : (Try.prog.info? 75).map (fun i => (i.zero, i.size, i.bytes)) = some (some (.agg msgZ), 8, 96) := by kernel_rfl
def mc (kd : Int) (t : ByteArray) : List Value := [.slice none 0 0, .string ⟨#[]⟩, .nilIface, .pointer none, .string t, .bool false, .int .u8 kd, .int .u8 0]
def flat (kd : Int) (T : Nat → ByteArray) : Nat → List Value
  | 0 => []
  | k + 1 => flat kd T k ++ mc kd (T k)
def Conv (kd : Int) (T : Nat → ByteArray) (lo n m : Nat) (xs : List Value) (w : World) (e : Ending) (w' : World) : Prop :=
  ∃ v', e = .returned v' ∧ w'.ownsRow lo 75 8 v' (n + m) (xs ++ flat kd T m) ∧ Below lo w w' ∧ ∀ p t cs, Own w p t cs → t ≠ 75 → Own w' p t cs
set_option maxRecDepth 100000 in
set_option maxHeartbeats 4000000 in
theorem conv15 (kd : Int) (T : Nat → ByteArray) (lo n m g mcap : Nat) (cs : Array Value) (v : Value) (xs : List Value) (w : World) (hr : w.ownsRow lo 75 8 v n xs) (hlo : lo ≤ w.heap.size) (hg : Own w g 62 cs) (hn : n + m ≤ 4096)
    (hC : ∀ j, j < m → cs[j * 6]? = some (.string ⟨#[]⟩) ∧ cs[j * 6 + 1]? = some (.string ⟨#[]⟩) ∧ cs[j * 6 + 2]? = some (.string (T j)) ∧ cs[j * 6 + 3]? = some (.pointer none) ∧ cs[j * 6 + 4]? = some (.slice none 0 0) ∧ cs[j * 6 + 5]? = some .nilIface) :
    Calls Try.prog 15 #[v, .int .u8 kd, .slice (some ⟨g, 0, none⟩) m mcap] w (Conv kd T lo n m xs w) := by
  have HR := Lib.hid hr
  have HG := Lib.hid hg
  have HC := Lib.hid hC
  obtain ⟨im, him, hzm, hsm, hbm⟩ := info_parts info75
  obtain ⟨vA, vC, rfl⟩ := row_form hr
  clear hr hg hC
  go_enter Try.func15, Try.ntmps15
  go_wp2_with fail
  go_loopw [0, 14] (fun x i wr => ∃ (u : Value) (k : Nat), u = x ∧ k ≤ m ∧ i = .int .i64 k ∧ Hid (wr.ownsRow lo 75 8 u (n + k) (xs ++ flat kd T k)) ∧ Hid (Below lo w wr) ∧ Hid (∀ p t cs, Own w p t cs → t ≠ 75 → Own wr p t cs)) (fun _ i _ => m - (intOf i).toNat)
  case atStart => exact ⟨_, 0, rfl, by omega, rfl, Lib.hid (by rw [flat, List.append_nil]; exact HR.out), Lib.hid (Below.refl _ _), Lib.hid fun p t cs ho _ => ho⟩
  case round =>
    obtain ⟨u, k, hu, hk, rfl, HRk, HBk, HKk⟩ := hrel
    subst hu
    obtain ⟨wo, rfl⟩ : ∃ wo : World, wo = wr := ⟨_, rfl⟩
    by_cases hlt : k < m
    · obtain ⟨m0, m1, m2, m3, m4, m5⟩ := HC.out k hlt
      have hgo := HKk.out g 62 cs HG.out (by decide)
      have r0 : wo.cell? ⟨g, k * 6, none⟩ = some (.string ⟨#[]⟩) := (hgo.cell _).trans m0
      have r1 : wo.cell? ⟨g, k * 6 + 1, none⟩ = some (.string ⟨#[]⟩) := (hgo.cell _).trans m1
      have r2 : wo.cell? ⟨g, k * 6 + 2, none⟩ = some (.string (T k)) := (hgo.cell _).trans m2
      have r3 : wo.cell? ⟨g, k * 6 + 3, none⟩ = some (.pointer none) := (hgo.cell _).trans m3
      have r4 : wo.cell? ⟨g, k * 6 + 4, none⟩ = some (.slice none 0 0) := (hgo.cell _).trans m4
      have r5 : wo.cell? ⟨g, k * 6 + 5, none⟩ = some .nilIface := (hgo.cell _).trans m5
      have q0 : (0 : Int) ≤ (k : Int) := by omega
      have q1 : (k : Int) < (m : Int) := by omega
      clear m0 m1 m2 m3 m4 m5 hgo
      go_upto_region 4 with fail
      generalize hWm : wo.alloc _ = Wm
      have hbm0 : Below wo.heap.size wo Wm := by rw [← hWm]; exact (Below.refl _ _).alloc (Nat.le_refl _) _
      have hOm : Own Wm wo.heap.size 62 #[.string ⟨#[]⟩, .string ⟨#[]⟩, .string (T k), .pointer none, .slice none 0 0, .nilIface] := by rw [← hWm]; exact Own.new _ _ _
      have u4 : Wm.cell? ⟨wo.heap.size, 4, none⟩ = some (.slice none 0 0) := (hOm.cell 4).trans rfl
      have HOm := Lib.hid hOm
      have HBm := Lib.hid hbm0
      have HH := Lib.hid (Hold.start (row_below (B := 0) HRk.out hbm0) (Nat.le_trans (Nat.le_trans hlo HBk.out.size) hbm0.size))
      clear hOm hbm0 hWm r0 r1 r2 r3 r4 r5
      go_wp2_with fail
      refine wp_loop_rounds 1 ?_
      rw [rounds_succ]
      go_upto_region 10 with fail
      have hS : ∀ W, Hold Wm lo 75 8 u (n + k) (xs ++ flat kd T k) W → (Hold Wm lo 75 8 u (n + k) (xs ++ flat kd T k) W ∧ W.cell? ⟨wo.heap.size, 0, none⟩ = some (.string ⟨#[]⟩) ∧ W.cell? ⟨wo.heap.size, 1, none⟩ = some (.string ⟨#[]⟩) ∧ W.cell? ⟨wo.heap.size, 2, none⟩ = some (.string (T k)) ∧ W.cell? ⟨wo.heap.size, 3, none⟩ = some (.pointer none) ∧ W.cell? ⟨wo.heap.size, 5, none⟩ = some .nilIface) :=
        fun W h => ⟨h, ((h.own HOm.out (by decide)).cell 0).trans rfl, ((h.own HOm.out (by decide)).cell 1).trans rfl, ((h.own HOm.out (by decide)).cell 2).trans rfl, ((h.own HOm.out (by decide)).cell 3).trans rfl, ((h.own HOm.out (by decide)).cell 5).trans rfl⟩
      have hk1 : n + k + 1 ≤ maxLen := by unfold maxLen; omega
      have hk2 : (n + k + 1) * 96 ≤ 140737488355328 := by omega
      go_region_held3 (fun W => Hold Wm lo 75 8 u (n + k) (xs ++ flat kd T k) W ∧ W.cell? ⟨wo.heap.size, 0, none⟩ = some (.string ⟨#[]⟩) ∧ W.cell? ⟨wo.heap.size, 1, none⟩ = some (.string ⟨#[]⟩) ∧ W.cell? ⟨wo.heap.size, 2, none⟩ = some (.string (T k)) ∧ W.cell? ⟨wo.heap.size, 3, none⟩ = some (.pointer none) ∧ W.cell? ⟨wo.heap.size, 5, none⟩ = some .nilIface)
        (first | assumption | exact hS _ (Hold.drew HH.out) | exact hS _ (Apped.held hA) | exact hS _ (Hold.grow (And.left (by assumption)) hb3) | exact hS _ (Hold.alloc (And.left (by assumption)) _))
        (first
          | (go_at_call 18; refine (id18 _).mono ?_; rintro e w3 ⟨rfl, hb3⟩)
          | (go_at_call 17; refine (loc17 _).mono ?_; rintro e w5 ⟨rfl, rfl⟩)
          | (obtain ⟨v4, W4, ra, hA⟩ := Hold.app2 (P := Try.prog) 39 39 im (.agg msgZ) 96 Try.underlying39 him hzm hsm hbm rfl (by decide) hk1 hk2 (And.left (by assumption)) (by first | exact Own.new _ _ _ | exact Own.drew (Own.new _ _ _)) (by rfl) (by simp [Value.oneCell']); refine step_app rfl (.tmp 35) (.tmp 52) 39 rfl rfl _ _ _ (by simp [Act.eval, Act.put]) (by simp [Act.eval, Act.put]) ra ?_))
      have hu3 : Below Wm.heap.size Wm w3 := undrew hb3
      have HR4 : Hid (W4.ownsRow lo 75 8 v4 (n + (k + 1)) (xs ++ flat kd T (k + 1))) := Lib.hid (by
        have h := hA.row
        rw [List.append_assoc] at h
        rw [flat]
        exact h)
      have HB4 := Lib.hid (HBk.out.trans ((HBm.out.mono (Nat.le_trans hlo HBk.out.size)).trans hA.below))
      have HK4 : Hid (∀ p t cs, Own w p t cs → t ≠ 75 → Own W4 p t cs) := Lib.hid fun p t cs ho ht => by
        have o1 := HKk.out p t cs ho ht
        have o2 := o1.below HBm.out o1.lt
        have o3 := o2.below hu3 o2.lt
        exact hA.own (o3.alloc _) ht
      clear hA hb3 hu3 hS
      go_wp2_with fail
      go_roundw
      case rel => exact ⟨_, k + 1, rfl, by omega, by go_num, HR4, HB4, HK4⟩
      case measure => simp [intOf]; omega
    · obtain rfl : m = k := by omega
      have z0 : decide ((m : Int) < m) = false := decide_eq_false (by omega)
      go_wp2
      go_ret
      exact ⟨_, rfl, HRk.out, HBk.out, HKk.out⟩
end Go.Proofs.Ytobpghjknciobab.Pa
