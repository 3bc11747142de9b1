/-
  Contracts: the readers of one statement, at an expression statement and at a local statement. Conditions: sizes alone.
-/
import Derived.Test.YtmjfdhgfpgeboaaGm
import Derived.Test.YtmjfdhgfpgeboaaQt
import Derived.Deep.CutRange
import Derived.Deep.QuietTactic
namespace Go.Proofs.Ytmjfdhgfpgeboaa.Gg
open Go.RowKit Go.PlainAid Mem Sz Ga Gm
set_option linter.unusedVariables false
set_option linter.unusedSimpArgs false

theorem y60 (W : World) (v : Value) : (Instr.typeAssert (.iface 60 v) 33 60 true).run Try.prog W = .ok (.tuple #[v, .bool true]) W := by
  simp [Instr.typeAssert, run_underlying Try.underlying60, go_sem, Result.andThen]
theorem n60 (W : World) (v : Value) : (Instr.typeAssert (.iface 41 v) 33 60 true).run Try.prog W = .ok (.tuple #[.pointer none, .bool false]) W := by
  simp [Instr.typeAssert, run_underlying Try.underlying60, go_sem, Result.andThen, Try.zeroValue60]
theorem y41 (W : World) (v : Value) : (Instr.typeAssert (.iface 41 v) 33 41 true).run Try.prog W = .ok (.tuple #[v, .bool true]) W := by
  simp [Instr.typeAssert, run_underlying Try.underlying41, go_sem, Result.andThen]
theorem n41 (W : World) (v : Value) : (Instr.typeAssert (.iface 60 v) 33 41 true).run Try.prog W = .ok (.tuple #[.pointer none, .bool false]) W := by
  simp [Instr.typeAssert, run_underlying Try.underlying41, go_sem, Result.andThen, Try.zeroValue41]
theorem n76 (W : World) (t : TypeId) (v : Value) (h : t ≠ 76) : (Instr.typeAssert (.iface t v) 33 76 true).run Try.prog W = .ok (.tuple #[.pointer none, .bool false]) W := by
  simp [Instr.typeAssert, run_underlying Try.underlying76, go_sem, Result.andThen, Try.zeroValue76, h]
theorem n78 (W : World) (t : TypeId) (v : Value) (h : t ≠ 78) : (Instr.typeAssert (.iface t v) 33 78 true).run Try.prog W = .ok (.tuple #[.pointer none, .bool false]) W := by
  simp [Instr.typeAssert, run_underlying Try.underlying78, go_sem, Result.andThen, Try.zeroValue78, h]
theorem y49 (W : World) (v : Value) : (Instr.typeAssert (.iface 49 v) 55 49 true).run Try.prog W = .ok (.tuple #[v, .bool true]) W := by
  simp [Instr.typeAssert, run_underlying Try.underlying49, go_sem, Result.andThen]
theorem n85 (W : World) : (Instr.typeAssert .nilIface 43 85 true).run Try.prog W = .ok (.tuple #[.pointer none, .bool false]) W := by
  simp [Instr.typeAssert, run_underlying Try.underlying85, go_sem, Result.andThen, Try.zeroValue85]
theorem n89 (W : World) : (Instr.typeAssert .nilIface 43 89 true).run Try.prog W = .ok (.tuple #[.pointer none, .bool false]) W := by
  simp [Instr.typeAssert, run_underlying Try.underlying89, go_sem, Result.andThen, Try.zeroValue89]
theorem n93 (W : World) : (Instr.typeAssert .nilIface 43 93 true).run Try.prog W = .ok (.tuple #[.pointer none, .bool false]) W := by
  simp [Instr.typeAssert, run_underlying Try.underlying93, go_sem, Result.andThen, Try.zeroValue93]
def Gives (v : Value) (w : World) (e : Ending) (w' : World) : Prop := e = .returned v ∧ Below w.heap.size w w'
theorem new_keep {w : World} {b o : Nat} {v : Value} (h : w.cell? ⟨b, o, none⟩ = some v) (x : Obj) : (w.alloc x).cell? ⟨b, o, none⟩ = some v := by
  rw [World.cell?_alloc_lt _ _ _ (World.block_lt_of_cell? w _ h)]; exact h

set_option maxRecDepth 100000 in
set_option maxHeartbeats 1000000 in
theorem e15 (p : Nat) (l : Int) (w : World) (h : Own w p 47 exprC) : Calls Try.prog 15 #[.agg #[.iface 41 (.pointer (some ⟨p, 0, none⟩)), .int .i32 l]] w (Gives (.tuple #[.bool false, .int .u8 0, .bool false, .int .i64 0]) w) := by
  have c0 : ∀ o, (w.alloc o).cell? ⟨p, 0, none⟩ = some .nilIface := fun o => ((h.alloc o).cell 0).trans rfl
  have c1 : ∀ o, (w.alloc o).cell? ⟨p, 1, none⟩ = some (.int .i32 0) := fun o => ((h.alloc o).cell 1).trans rfl
  have f := n60
  clear h
  go_enter Try.func15, Try.ntmps15
  go_wp2
  go_returns
  exact ⟨rfl, by go_grown⟩

set_option maxRecDepth 100000 in
set_option maxHeartbeats 1000000 in
theorem e17 (p : Nat) (l : Int) (w : World) (h : Own w p 47 exprC) : Calls Try.prog 17 #[.agg #[.iface 41 (.pointer (some ⟨p, 0, none⟩)), .int .i32 l]] w (Gives (.bool true) w) := by
  have c0 : ∀ o, (w.alloc o).cell? ⟨p, 0, none⟩ = some .nilIface := fun o => ((h.alloc o).cell 0).trans rfl
  have c1 : ∀ o, (w.alloc o).cell? ⟨p, 1, none⟩ = some (.int .i32 0) := fun o => ((h.alloc o).cell 1).trans rfl
  have f := y41
  clear h
  go_enter Try.func17, Try.ntmps17
  go_wp2
  go_returns
  exact ⟨rfl, by go_grown⟩

set_option maxRecDepth 100000 in
set_option maxHeartbeats 1000000 in
theorem e18 (p : Nat) (l : Int) (w : World) (h : Own w p 47 exprC) : Calls Try.prog 18 #[.agg #[.iface 41 (.pointer (some ⟨p, 0, none⟩)), .int .i32 l]] w (Gives (.bool false) w) := by
  have c0 : ∀ o, (w.alloc o).cell? ⟨p, 0, none⟩ = some .nilIface := fun o => ((h.alloc o).cell 0).trans rfl
  have c1 : ∀ o, (w.alloc o).cell? ⟨p, 1, none⟩ = some (.int .i32 0) := fun o => ((h.alloc o).cell 1).trans rfl
  have f := fun W v => n76 W 41 v (by decide)
  clear h
  go_enter Try.func18, Try.ntmps18
  go_wp2
  go_returns
  exact ⟨rfl, by go_grown⟩

set_option maxRecDepth 100000 in
set_option maxHeartbeats 1000000 in
theorem e19 (p : Nat) (l : Int) (w : World) (h : Own w p 47 exprC) : Calls Try.prog 19 #[.agg #[.iface 41 (.pointer (some ⟨p, 0, none⟩)), .int .i32 l]] w (Gives (.tuple #[.bool false, .int .u32 0, .int .u32 0, .int .u32 0]) w) := by
  have c0 : ∀ o, (w.alloc o).cell? ⟨p, 0, none⟩ = some .nilIface := fun o => ((h.alloc o).cell 0).trans rfl
  have c1 : ∀ o, (w.alloc o).cell? ⟨p, 1, none⟩ = some (.int .i32 0) := fun o => ((h.alloc o).cell 1).trans rfl
  have f := fun W v => n78 W 41 v (by decide)
  clear h
  go_enter Try.func19, Try.ntmps19
  go_wp2
  go_returns
  exact ⟨rfl, by go_grown⟩

set_option maxRecDepth 100000 in
set_option maxHeartbeats 1000000 in
theorem e20 (p : Nat) (l : Int) (w : World) (h : Own w p 47 exprC) : Calls Try.prog 20 #[.agg #[.iface 41 (.pointer (some ⟨p, 0, none⟩)), .int .i32 l]] w (Gives (.tuple #[.bool false, .int .u32 0, .int .u32 0, .int .u32 0]) w) := by
  have c0 : ∀ o, (w.alloc o).cell? ⟨p, 0, none⟩ = some .nilIface := fun o => ((h.alloc o).cell 0).trans rfl
  have c1 : ∀ o, (w.alloc o).cell? ⟨p, 1, none⟩ = some (.int .i32 0) := fun o => ((h.alloc o).cell 1).trans rfl
  have f := n60
  clear h
  go_enter Try.func20, Try.ntmps20
  go_wp2
  go_returns
  exact ⟨rfl, by go_grown⟩

set_option maxRecDepth 100000 in
set_option maxHeartbeats 1000000 in
theorem e21 (p : Nat) (l : Int) (w : World) (h : Own w p 47 exprC) : Calls Try.prog 21 #[.agg #[.iface 41 (.pointer (some ⟨p, 0, none⟩)), .int .i32 l]] w (Gives (.tuple #[.bool false, .bool false, .int .u32 0, .int .u32 0]) w) := by
  have c0 : ∀ o, (w.alloc o).cell? ⟨p, 0, none⟩ = some .nilIface := fun o => ((h.alloc o).cell 0).trans rfl
  have c1 : ∀ o, (w.alloc o).cell? ⟨p, 1, none⟩ = some (.int .i32 0) := fun o => ((h.alloc o).cell 1).trans rfl
  have f := y41
  have f1 := n89
  have f2 := n93
  clear h
  go_enter Try.func21, Try.ntmps21
  go_wp2
  go_returns
  exact ⟨rfl, by go_grown⟩

set_option maxRecDepth 100000 in
set_option maxHeartbeats 4000000 in
theorem l15 (p : Nat) (l : Int) (w : World) (d n c : Nat) (kd : Int) (ex y : Bool) (h : Own w p 63 #[.slice (some ⟨d, 0, none⟩) n c, .int .u8 kd, .bool ex, .bool y]) : Calls Try.prog 15 #[.agg #[.iface 60 (.pointer (some ⟨p, 0, none⟩)), .int .i32 l]] w (Gives (.tuple #[.bool true, .int .u8 kd, .bool ex, .int .i64 n]) w) := by
  have c0 : ∀ o, (w.alloc o).cell? ⟨p, 0, none⟩ = some (.slice (some ⟨d, 0, none⟩) n c) := fun o => ((h.alloc o).cell 0).trans rfl
  have c1 : ∀ o, (w.alloc o).cell? ⟨p, 1, none⟩ = some (.int .u8 kd) := fun o => ((h.alloc o).cell 1).trans rfl
  have c2 : ∀ o, (w.alloc o).cell? ⟨p, 2, none⟩ = some (.bool ex) := fun o => ((h.alloc o).cell 2).trans rfl
  have f := y60
  clear h
  go_enter Try.func15, Try.ntmps15
  go_upto_region 4 with fail
  refine wp_region_quiet_lit (by kernel_rfl) (by kernel_rfl) (Qts.Qt.out ?_)
  repeat (refine Qts.Qt.step (fun K hK => ?_); go_simp; refine hK _ ?_; clear hK K)
  refine Qts.Qt.nil ?_
  intro _ hw'
  obtain ⟨nq, hw''⟩ := hw'
  subst hw''
  go_wp2_with fail
  go_returns
  exact ⟨rfl, below_drewN (by go_grown) nq⟩

set_option maxRecDepth 100000 in
set_option maxHeartbeats 4000000 in
theorem l17 (p : Nat) (l : Int) (w : World) (d n c : Nat) (kd : Int) (ex y : Bool) (h : Own w p 63 #[.slice (some ⟨d, 0, none⟩) n c, .int .u8 kd, .bool ex, .bool y]) : Calls Try.prog 17 #[.agg #[.iface 60 (.pointer (some ⟨p, 0, none⟩)), .int .i32 l]] w (Gives (.bool false) w) := by
  have c0 : ∀ o, (w.alloc o).cell? ⟨p, 0, none⟩ = some (.slice (some ⟨d, 0, none⟩) n c) := fun o => ((h.alloc o).cell 0).trans rfl
  have c1 : ∀ o, (w.alloc o).cell? ⟨p, 1, none⟩ = some (.int .u8 kd) := fun o => ((h.alloc o).cell 1).trans rfl
  have c2 : ∀ o, (w.alloc o).cell? ⟨p, 2, none⟩ = some (.bool ex) := fun o => ((h.alloc o).cell 2).trans rfl
  have f := n41
  clear h
  go_enter Try.func17, Try.ntmps17
  go_wp2
  go_returns
  exact ⟨rfl, by go_grown⟩

set_option maxRecDepth 100000 in
set_option maxHeartbeats 4000000 in
theorem l18 (p : Nat) (l : Int) (w : World) (d n c : Nat) (kd : Int) (ex y : Bool) (h : Own w p 63 #[.slice (some ⟨d, 0, none⟩) n c, .int .u8 kd, .bool ex, .bool y]) : Calls Try.prog 18 #[.agg #[.iface 60 (.pointer (some ⟨p, 0, none⟩)), .int .i32 l]] w (Gives (.bool false) w) := by
  have c0 : ∀ o, (w.alloc o).cell? ⟨p, 0, none⟩ = some (.slice (some ⟨d, 0, none⟩) n c) := fun o => ((h.alloc o).cell 0).trans rfl
  have c1 : ∀ o, (w.alloc o).cell? ⟨p, 1, none⟩ = some (.int .u8 kd) := fun o => ((h.alloc o).cell 1).trans rfl
  have c2 : ∀ o, (w.alloc o).cell? ⟨p, 2, none⟩ = some (.bool ex) := fun o => ((h.alloc o).cell 2).trans rfl
  have f := fun W v => n76 W 60 v (by decide)
  clear h
  go_enter Try.func18, Try.ntmps18
  go_wp2
  go_returns
  exact ⟨rfl, by go_grown⟩

set_option maxRecDepth 100000 in
set_option maxHeartbeats 4000000 in
theorem l19 (p : Nat) (l : Int) (w : World) (d n c : Nat) (kd : Int) (ex y : Bool) (h : Own w p 63 #[.slice (some ⟨d, 0, none⟩) n c, .int .u8 kd, .bool ex, .bool y]) : Calls Try.prog 19 #[.agg #[.iface 60 (.pointer (some ⟨p, 0, none⟩)), .int .i32 l]] w (Gives (.tuple #[.bool false, .int .u32 0, .int .u32 0, .int .u32 0]) w) := by
  have c0 : ∀ o, (w.alloc o).cell? ⟨p, 0, none⟩ = some (.slice (some ⟨d, 0, none⟩) n c) := fun o => ((h.alloc o).cell 0).trans rfl
  have c1 : ∀ o, (w.alloc o).cell? ⟨p, 1, none⟩ = some (.int .u8 kd) := fun o => ((h.alloc o).cell 1).trans rfl
  have c2 : ∀ o, (w.alloc o).cell? ⟨p, 2, none⟩ = some (.bool ex) := fun o => ((h.alloc o).cell 2).trans rfl
  have f := fun W v => n78 W 60 v (by decide)
  clear h
  go_enter Try.func19, Try.ntmps19
  go_wp2
  go_returns
  exact ⟨rfl, by go_grown⟩

set_option maxRecDepth 100000 in
set_option maxHeartbeats 4000000 in
theorem l21 (p : Nat) (l : Int) (w : World) (d n c : Nat) (kd : Int) (ex y : Bool) (h : Own w p 63 #[.slice (some ⟨d, 0, none⟩) n c, .int .u8 kd, .bool ex, .bool y]) : Calls Try.prog 21 #[.agg #[.iface 60 (.pointer (some ⟨p, 0, none⟩)), .int .i32 l]] w (Gives (.tuple #[.bool false, .bool false, .int .u32 0, .int .u32 0]) w) := by
  have c0 : ∀ o, (w.alloc o).cell? ⟨p, 0, none⟩ = some (.slice (some ⟨d, 0, none⟩) n c) := fun o => ((h.alloc o).cell 0).trans rfl
  have c1 : ∀ o, (w.alloc o).cell? ⟨p, 1, none⟩ = some (.int .u8 kd) := fun o => ((h.alloc o).cell 1).trans rfl
  have c2 : ∀ o, (w.alloc o).cell? ⟨p, 2, none⟩ = some (.bool ex) := fun o => ((h.alloc o).cell 2).trans rfl
  have f := n41
  clear h
  go_enter Try.func21, Try.ntmps21
  go_wp2
  go_returns
  exact ⟨rfl, by go_grown⟩

set_option maxRecDepth 100000 in
set_option maxHeartbeats 4000000 in
theorem l16 (p : Nat) (l : Int) (w : World) (d n c : Nat) (kd : Int) (ex y : Bool) (h : Own w p 63 #[.slice (some ⟨d, 0, none⟩) n c, .int .u8 kd, .bool ex, .bool y]) (k q : Nat) (a b : Int) (hk : k < n) (hd : w.cell? ⟨d, k * 4, none⟩ = some (.iface 49 (.pointer (some ⟨q, 0, none⟩)))) (hq : Own w q 53 #[.int .u32 a, .int .u32 b]) : Calls Try.prog 16 #[.agg #[.iface 60 (.pointer (some ⟨p, 0, none⟩)), .int .i32 l], .int .i64 k] w (Gives (.tuple #[.bool true, .int .u32 a, .int .u32 b]) w) := by
  have c0 : ∀ o, (w.alloc o).cell? ⟨p, 0, none⟩ = some (.slice (some ⟨d, 0, none⟩) n c) := fun o => ((h.alloc o).cell 0).trans rfl
  have c1 : ∀ o, (w.alloc o).cell? ⟨p, 1, none⟩ = some (.int .u8 kd) := fun o => ((h.alloc o).cell 1).trans rfl
  have c2 : ∀ o, (w.alloc o).cell? ⟨p, 2, none⟩ = some (.bool ex) := fun o => ((h.alloc o).cell 2).trans rfl
  have f := y60
  have f1 := y49
  have d0 : ∀ o, (w.alloc o).cell? ⟨d, k * 4, none⟩ = some (.iface 49 (.pointer (some ⟨q, 0, none⟩))) := fun o => new_keep hd o
  have q0 : ∀ o, (w.alloc o).cell? ⟨q, 0, none⟩ = some (.int .u32 a) := fun o => ((hq.alloc o).cell 0).trans rfl
  have q1 : ∀ o, (w.alloc o).cell? ⟨q, 1, none⟩ = some (.int .u32 b) := fun o => ((hq.alloc o).cell 1).trans rfl
  have t0 : decide ((k : Int) < 0) = false := decide_eq_false (by omega)
  have t1 : decide ((n : Int) ≤ (k : Int)) = false := decide_eq_false (by omega)
  have t2 : (0 : Int) ≤ (k : Int) := by omega
  have t3 : (k : Int) < (n : Int) := by omega
  clear hd hq
  clear h
  go_enter Try.func16, Try.ntmps16
  go_upto_region 7 with fail
  refine wp_region_quiet_lit (by kernel_rfl) (by kernel_rfl) (Qts.Qt.out ?_)
  repeat (refine Qts.Qt.step (fun K hK => ?_); go_simp; refine hK _ ?_; clear hK K)
  refine Qts.Qt.nil ?_
  intro _ hw'
  obtain ⟨nq, hw''⟩ := hw'
  subst hw''
  go_wp2_with fail
  go_returns
  exact ⟨rfl, below_drewN (by go_grown) nq⟩

set_option maxRecDepth 100000 in
set_option maxHeartbeats 4000000 in
theorem l20 (p : Nat) (l : Int) (w : World) (d n c : Nat) (kd : Int) (ex y : Bool) (h : Own w p 63 #[.slice (some ⟨d, 0, none⟩) n c, .int .u8 kd, .bool ex, .bool y]) (hd : n = 1 → (∃ q : Nat, w.cell? ⟨d, 0, none⟩ = some (.iface 49 (.pointer (some ⟨q, 0, none⟩)))) ∧ w.cell? ⟨d, 2, none⟩ = some .nilIface) : Calls Try.prog 20 #[.agg #[.iface 60 (.pointer (some ⟨p, 0, none⟩)), .int .i32 l]] w (Gives (.tuple #[.bool false, .int .u32 0, .int .u32 0, .int .u32 0]) w) := by
  have c0 : ∀ o, (w.alloc o).cell? ⟨p, 0, none⟩ = some (.slice (some ⟨d, 0, none⟩) n c) := fun o => ((h.alloc o).cell 0).trans rfl
  have c1 : ∀ o, (w.alloc o).cell? ⟨p, 1, none⟩ = some (.int .u8 kd) := fun o => ((h.alloc o).cell 1).trans rfl
  have c2 : ∀ o, (w.alloc o).cell? ⟨p, 2, none⟩ = some (.bool ex) := fun o => ((h.alloc o).cell 2).trans rfl
  have f := y60
  have f1 := y49
  have f2 := n85
  clear h
  go_enter Try.func20, Try.ntmps20
  by_cases hn : n = 1
  · obtain ⟨⟨q, g0⟩, g2⟩ := hd hn
    subst hn
    have d0 : ∀ o, (w.alloc o).cell? ⟨d, 0, none⟩ = some (.iface 49 (.pointer (some ⟨q, 0, none⟩))) := fun o => new_keep g0 o
    have d2 : ∀ o, (w.alloc o).cell? ⟨d, 2, none⟩ = some .nilIface := fun o => new_keep g2 o
    clear g0 g2 hd
    go_wp2
    go_returns
    exact ⟨rfl, by go_grown⟩
  · have tn : ((n : Int) != 1) = true := by rw [bne_iff_ne]; omega
    clear hd
    go_wp2
    go_returns
    exact ⟨rfl, by go_grown⟩
end Go.Proofs.Ytmjfdhgfpgeboaa.Gg
