/-
  Proved: what the helper functions on places (buildLoc, the conversion of a place, locBytes, locEq) return. Conditions: those that each theorem names
  as its hypotheses, and no others.
-/
import Derived.Test.YtmjfdhgfpgeboadCt
import Derived.WalkKit
import Derived.WalkSpells
import Derived.Handy
import Derived.Lib.Hide
import Derived.PlainAid
import Derived.Laws.EntriesVeiled
import Derived.Deep.RegionHeld3
import Derived.Deep.CutRange
import Derived.Deep.QuietTactic
import Derived.Deep.DeepCutAuto
import Derived.BigQuiet
namespace Go.Proofs.Ytmjfdhgfpgeboad.Lp
open Go.RowKit Go.PlainAid Mem Ho Rws Orw Lcs Msr Pg Idp Ct
set_option linter.unusedVariables false
set_option linter.unusedSimpArgs false
def lcA (l : Lc) : Array Value := #[.bool l.pr, .string l.fl, .string l.ns, .int .i64 l.ln, .int .i64 l.co, .int .i64 l.le, .string l.lt, .string l.sg]
theorem new2 (w : World) (o : Obj) (t : TypeId) (cs : Array Value) : Own ((w.alloc o).alloc (.cells cs t)) (w.heap.size + 1) t cs := by
  have h := Own.new (w.alloc o) t cs
  rwa [show (w.alloc o).heap.size = w.heap.size + 1 by simp] at h
/-- a place turned: nil, or a new block -/
def Turn (t : TypeId) (F : Lc → Array Value) (l : Lc) (w : World) (e : Ending) (w' : World) : Prop := ∃ q, e = .returned (.pointer q) ∧ Ptr t F w' l q ∧ Below w.heap.size w w'
set_option maxRecDepth 100000 in
set_option maxHeartbeats 4000000 in
theorem build13 (l : Lc) (w : World) : Calls Try.prog 13 #[.agg (lcA l)] w (Turn 58 aloc l w) := by
  obtain ⟨pr, fl, ns, ln, co, le, lt, sg⟩ := l
  simp only [lcA]
  cases pr
  · go_enter Try.func13, Try.ntmps13
    go_wp2_with fail
    go_ret
    exact ⟨none, rfl, .inl ⟨rfl, rfl⟩, by go_grown⟩
  · go_enter Try.func13, Try.ntmps13
    go_wp2_with fail
    go_ret
    exact ⟨_, rfl, .inr ⟨rfl, _, rfl, new2 _ _ _ _⟩, by go_grown⟩
theorem keep7 {W : World} {g : Nat} {v0 v2 v3 v4 v5 v6 : Value} (o : Obj) (h : W.cell? ⟨g, 0, none⟩ = some v0 ∧ W.cell? ⟨g, 2, none⟩ = some v2 ∧ W.cell? ⟨g, 3, none⟩ = some v3 ∧ W.cell? ⟨g, 4, none⟩ = some v4 ∧ W.cell? ⟨g, 5, none⟩ = some v5 ∧ W.cell? ⟨g, 6, none⟩ = some v6 ∧ g < W.heap.size) :
    (W.alloc o).cell? ⟨g, 0, none⟩ = some v0 ∧ (W.alloc o).cell? ⟨g, 2, none⟩ = some v2 ∧ (W.alloc o).cell? ⟨g, 3, none⟩ = some v3 ∧ (W.alloc o).cell? ⟨g, 4, none⟩ = some v4 ∧ (W.alloc o).cell? ⟨g, 5, none⟩ = some v5 ∧ (W.alloc o).cell? ⟨g, 6, none⟩ = some v6 ∧ g < (W.alloc o).heap.size := by
  obtain ⟨h0, h2, h3, h4, h5, h6, hl⟩ := h
  have hb : Below W.heap.size W (W.alloc o) := (Below.refl _ _).alloc (Nat.le_refl _) o
  have e : ∀ k, (W.alloc o).cell? ⟨g, k, none⟩ = W.cell? ⟨g, k, none⟩ := fun k => hb.cell (p := ⟨g, k, none⟩) hl
  exact ⟨(e _).trans h0, (e _).trans h2, (e _).trans h3, (e _).trans h4, (e _).trans h5, (e _).trans h6, Nat.lt_of_lt_of_le hl hb.size⟩
set_option maxRecDepth 100000 in
set_option maxHeartbeats 4000000 in
theorem conv17 (l : Lc) (q : Option Addr) (w : World) (h : Ptr 58 aloc w l q) : Calls Try.prog 17 #[.pointer q] w (Turn 64 mloc l w) := by
  rcases h with ⟨hp, rfl⟩ | ⟨hp, g, rfl, ho⟩
  · go_enter Try.func17, Try.ntmps17
    go_wp2
    go_ret
    exact ⟨none, rfl, .inl ⟨hp, rfl⟩, by go_grown⟩
  · obtain ⟨pr, fl, ns, ln, co, le, lt, sg⟩ := l
    have HP := Lib.hid hp
    have r0 : w.cell? ⟨g, 0, none⟩ = some (.string fl) := (ho.cell 0).trans rfl
    have r1 : w.cell? ⟨g, 1, none⟩ = some (.string ns) := (ho.cell 1).trans rfl
    have r2 : w.cell? ⟨g, 2, none⟩ = some (.int .i64 ln) := (ho.cell 2).trans rfl
    have r3 : w.cell? ⟨g, 3, none⟩ = some (.int .i64 co) := (ho.cell 3).trans rfl
    have r4 : w.cell? ⟨g, 4, none⟩ = some (.int .i64 le) := (ho.cell 4).trans rfl
    have r5 : w.cell? ⟨g, 5, none⟩ = some (.string lt) := (ho.cell 5).trans rfl
    have r6 : w.cell? ⟨g, 6, none⟩ = some (.string sg) := (ho.cell 6).trans rfl
    have hgl : g < w.heap.size := ho.lt
    clear hp ho
    rcases Bool.eq_false_or_eq_true (ns.toList == []) with t0 | t0
    · go_enter Try.func17, Try.ntmps17
      go_upto_region 5 with fail
      have hs0 : (fun W : World => W.cell? ⟨g, 0, none⟩ = some (.string fl) ∧ W.cell? ⟨g, 2, none⟩ = some (.int .i64 ln) ∧ W.cell? ⟨g, 3, none⟩ = some (.int .i64 co) ∧ W.cell? ⟨g, 4, none⟩ = some (.int .i64 le) ∧ W.cell? ⟨g, 5, none⟩ = some (.string lt) ∧ W.cell? ⟨g, 6, none⟩ = some (.string sg) ∧ g < W.heap.size) w.drew := ⟨r0, r2, r3, r4, r5, r6, hgl⟩
      go_region_held3 (fun W => W.cell? ⟨g, 0, none⟩ = some (.string fl) ∧ W.cell? ⟨g, 2, none⟩ = some (.int .i64 ln) ∧ W.cell? ⟨g, 3, none⟩ = some (.int .i64 co) ∧ W.cell? ⟨g, 4, none⟩ = some (.int .i64 le) ∧ W.cell? ⟨g, 5, none⟩ = some (.string lt) ∧ W.cell? ⟨g, 6, none⟩ = some (.string sg) ∧ g < W.heap.size)
        (first | assumption | exact hs0 | exact keep7 _ (by assumption))
        (fail)
      go_wp2
      go_ret
      refine ⟨_, rfl, .inr ⟨HP.out, _, rfl, ?_⟩, ?_⟩
      · simp only [mloc, nsOf, t0]
        exact Own.new _ _ _
      · exact ((below_drewN (Below.refl _ _) 1).alloc (Nat.le_refl _) _)
    · go_enter Try.func17, Try.ntmps17
      go_upto_region 5 with fail
      have hs0 : (fun W : World => W.cell? ⟨g, 0, none⟩ = some (.string fl) ∧ W.cell? ⟨g, 2, none⟩ = some (.int .i64 ln) ∧ W.cell? ⟨g, 3, none⟩ = some (.int .i64 co) ∧ W.cell? ⟨g, 4, none⟩ = some (.int .i64 le) ∧ W.cell? ⟨g, 5, none⟩ = some (.string lt) ∧ W.cell? ⟨g, 6, none⟩ = some (.string sg) ∧ g < W.heap.size) w.drew := ⟨r0, r2, r3, r4, r5, r6, hgl⟩
      go_region_held3 (fun W => W.cell? ⟨g, 0, none⟩ = some (.string fl) ∧ W.cell? ⟨g, 2, none⟩ = some (.int .i64 ln) ∧ W.cell? ⟨g, 3, none⟩ = some (.int .i64 co) ∧ W.cell? ⟨g, 4, none⟩ = some (.int .i64 le) ∧ W.cell? ⟨g, 5, none⟩ = some (.string lt) ∧ W.cell? ⟨g, 6, none⟩ = some (.string sg) ∧ g < W.heap.size)
        (first | assumption | exact hs0 | exact keep7 _ (by assumption))
        (fail)
      go_wp2
      go_ret
      refine ⟨_, rfl, .inr ⟨HP.out, _, rfl, ?_⟩, ?_⟩
      · simp only [mloc, nsOf, t0]
        exact Own.new _ _ _
      · exact ((below_drewN (Below.refl _ _) 1).alloc (Nat.le_refl _) _)
set_option maxRecDepth 100000 in
set_option maxHeartbeats 4000000 in
theorem bytes11 (l : Lc) (w : World) : Calls Try.prog 11 #[.agg (lcA l)] w fun e w' => (∃ x, e = .returned (.int .i64 x)) ∧ Below w.heap.size w w' := by
  obtain ⟨pr, fl, ns, ln, co, le, lt, sg⟩ := l
  simp only [lcA]
  go_enter Try.func11, Try.ntmps11
  go_wp2_with fail
  go_ret
  exact ⟨⟨_, rfl⟩, by go_grown⟩
set_option maxRecDepth 100000 in
set_option maxHeartbeats 4000000 in
theorem eq15 (l : Lc) (p q : Option Addr) (w : World) (hp : Ptr 64 mloc w l p) (hq : Ptr 64 mloc w l q) : Calls Try.prog 15 #[.pointer p, .pointer q] w fun e w' => e = .returned (.bool true) ∧ ∃ n, w' = w.drewN n := by
  rcases hp with ⟨h1, rfl⟩ | ⟨h1, g, rfl, ho⟩
  · rcases hq with ⟨h2, rfl⟩ | ⟨h2, g', rfl, ho'⟩
    · go_enter Try.func15, Try.ntmps15
      go_wp2
      go_ret
      exact ⟨rfl, 0, rfl⟩
    · rw [h1] at h2; cases h2
  · rcases hq with ⟨h2, rfl⟩ | ⟨h2, g', rfl, ho'⟩
    · rw [h1] at h2; cases h2
    · obtain ⟨pr, fl, ns, ln, co, le, lt, sg⟩ := l
      simp only [mloc] at ho ho'
      generalize nsOf ns = nn at ho ho'
      have r0 : w.cell? ⟨g, 0, none⟩ = some (.string fl) := (ho.cell 0).trans rfl
      have r1 : w.cell? ⟨g, 1, none⟩ = some (.string fl) := (ho.cell 1).trans rfl
      have r2 : w.cell? ⟨g, 2, none⟩ = some (.string nn) := (ho.cell 2).trans rfl
      have r3 : w.cell? ⟨g, 3, none⟩ = some (.string lt) := (ho.cell 3).trans rfl
      have r4 : w.cell? ⟨g, 4, none⟩ = some (.string sg) := (ho.cell 4).trans rfl
      have r5 : w.cell? ⟨g, 5, none⟩ = some (.int .i64 ln) := (ho.cell 5).trans rfl
      have r6 : w.cell? ⟨g, 6, none⟩ = some (.int .i64 co) := (ho.cell 6).trans rfl
      have r7 : w.cell? ⟨g, 7, none⟩ = some (.int .i64 le) := (ho.cell 7).trans rfl
      have s0 : w.cell? ⟨g', 0, none⟩ = some (.string fl) := (ho'.cell 0).trans rfl
      have s1 : w.cell? ⟨g', 1, none⟩ = some (.string fl) := (ho'.cell 1).trans rfl
      have s2 : w.cell? ⟨g', 2, none⟩ = some (.string nn) := (ho'.cell 2).trans rfl
      have s3 : w.cell? ⟨g', 3, none⟩ = some (.string lt) := (ho'.cell 3).trans rfl
      have s4 : w.cell? ⟨g', 4, none⟩ = some (.string sg) := (ho'.cell 4).trans rfl
      have s5 : w.cell? ⟨g', 5, none⟩ = some (.int .i64 ln) := (ho'.cell 5).trans rfl
      have s6 : w.cell? ⟨g', 6, none⟩ = some (.int .i64 co) := (ho'.cell 6).trans rfl
      have s7 : w.cell? ⟨g', 7, none⟩ = some (.int .i64 le) := (ho'.cell 7).trans rfl
      clear ho ho' h1 h2
      go_enter Try.func15, Try.ntmps15
      go_upto_region 3 with fail
      go_quiet (fail)
      go_wp2
      go_ret
      exact ⟨rfl, _, rfl⟩
end Go.Proofs.Ytmjfdhgfpgeboad.Lp
