/-
  Proved: the law FnNewSymbolMapFreshAndAddressable of folder n011_75 returns true for every argument that its parameter types allow, and leaves its arguments as they were; there is no further condition.
-/
import Derived.Test.YtnegfigjmjgknaaRows
import Derived.WalkKit
import Derived.ProofKit
import Derived.OpenShut
import Derived.Below
import Derived.Carry
import Derived.ChangeMaps5
import Derived.Handy
import Derived.Lib.Hide
import Derived.WalkSpells
import Derived.Deep.QuietTactic
import Derived.BigQuiet
import Derived.Lib.Builder
import Derived.Test.YtnegfigjmjgknaaMem
namespace Go.Proofs.Ytnegfigjmjgknaa.fnNewSymbolMapFreshAndAddressable
open Go.ChangeShapes Go.WideShapes Go.ChangeAt Go.RowKit
set_option linter.unusedVariables false

theorem own : ownKnob Try.prog.godebug = none := by kernel_rfl
theorem laid : laidOutB Try.prog = true := by kernel_rfl
theorem readAll : (Try.f3.params.toList.all fun t => Try.prog.readableRec t && decide (t < Try.prog.types.size)) = true := by kernel_rfl
theorem readEach : ∀ t ∈ Try.f3.params.toList, Try.prog.readableRec t = true ∧ t < Try.prog.types.size := fun t ht => by
  have := List.all_eq_true.1 readAll t ht
  simpa using this
section
variable {H : Type} {enc : TypeId × Value → H} {P : Program}
theorem trodAll_stays (hl : laidOutB P = true) {W W' : World} (hb : Below W.heap.size W W') {sp : Nat → Bool} : ∀ {ts : List TypeId} {vs : List Value} {ds : List (DataW H)} {ps : List MemPlace},
    (∀ t ∈ ts, P.readableRec t = true ∧ t < P.types.size) → DataW.TrodAll enc P W 0 (fun _ => true) true ts vs ds ps → (∀ p ∈ ps, p.block < W.heap.size) → (∀ p ∈ ps, sp p.block = true) → DataW.TrodAll enc P W' 0 sp true ts vs ds ps
  | [], [], [], _, _, h, _, _ => h
  | _ :: _, _ :: _, _ :: _, _, hT, ⟨p, q, h1, h2, e⟩, hlt, hs =>
    ⟨p, q, WideElems.Trod_stays hl (hT _ (List.mem_cons.2 (Or.inl rfl))).1 (hT _ (List.mem_cons.2 (Or.inl rfl))).2 h1 (fun x hx => hb.same (hlt x (by rw [e]; exact List.mem_append_left _ hx))) (fun x hx => hs x (by rw [e]; exact List.mem_append_left _ hx)),
      trodAll_stays hl hb (fun t ht => hT t (List.mem_cons.2 (Or.inr ht))) h2 (fun x hx => hlt x (by rw [e]; exact List.mem_append_right _ hx)) (fun x hx => hs x (by rw [e]; exact List.mem_append_right _ hx)), e⟩

/-- A law's step: the result is true, the arguments are kept, the world has changed in new blocks alone. -/
theorem law_post {f : Func} {s : ChangeSpec} {apart fresh handsOn again : Bool} {W W' : World} {args : Array Value} {ds gs : List (DataW H)} {before : List MemPlace} {tb : TypeId}
    (hl : laidOutB P = true) (hps : ∀ t ∈ f.params.toList, P.readableRec t = true ∧ t < P.types.size) (hv : s.vars = []) (hr : f.resultTypes = #[tb]) (ht : P.underlying tb = some .bool)
    (hs : (s.fn H (ds ++ [])).results = [.lit (.bool true)] ∧ (s.fn H (ds ++ [])).args = ds ∧ (s.fn H (ds ++ [])).vars = [])
    (hW : DataW.Whole enc P f.params.toList s.vars apart W args.toList ds gs before) (hb : Below W.heap.size W W') :
    s.post enc P f apart fresh handsOn again W args (.bool true) W' := by
  have hlt : ∀ p ∈ before, p.block < W.heap.size := fun p hp => hW.lt p hp
  have hold : ∀ p ∈ before, (fun b => decide (b < W.heap.size)) p.block = true := fun p hp => by simpa using hlt p hp
  have hW0 := hW
  obtain ⟨pa, pv, hA, hV, rfl, hz, hn⟩ := hW
  rw [hv] at hV
  obtain ⟨rfl, rfl⟩ := trodVars_none hV
  have hres : ∀ (b : Nat) (sp : Nat → Bool) (hd : Bool), DataW.TrodAll enc P W' b sp hd f.resultTypes.toList ((Value.bool true).resultList f.resultTypes.size) (s.fn H (ds ++ [])).results [] := fun b sp hd => by
    rw [hs.1, hr]; exact trodAll_cons_mk (shut_bool ht _) trodAll_mk0
  have hargs : ∀ sp : Nat → Bool, (∀ p ∈ pa ++ [], sp p.block = true) → DataW.TrodAll enc P W' 0 sp true f.params.toList args.toList (s.fn H (ds ++ [])).args pa := fun sp hsp => by
    rw [hs.2.1]; exact trodAll_stays hl hb hps hA (fun p hp => hlt p (by simpa using hp)) (fun p hp => hsp p (by simpa using hp))
  have hvars : ∀ sp : Nat → Bool, DataW.TrodVars enc P W' sp s.vars (s.fn H (ds ++ [])).vars [] := fun sp => by rw [hv, hs.2.2]; rfl
  refine ⟨ds, [], pa ++ [], [], pa, [], hW0, hres _ _ _, hargs _ hold, hvars _, World.keptBut_mono (fun p hp => ⟨hp, Or.inr (List.mem_append.1 hp)⟩) (hb.frame (· ∈ pa ++ [])), fun _ => ?_⟩
  refine ⟨?_, _, _, ([] ++ pa) ++ [], ⟨[] ++ pa, [], trodAll_append (hargs _ (fun _ _ => rfl)) (hres _ _ _), hvars _, rfl, ?_, ?_⟩, ?_⟩
  · intro j t r h1 h2
    rw [hr] at h1 h2
    match j, h1, h2 with
    | 0, h1, h2 =>
      obtain rfl : tb = t := by simpa using h1
      obtain rfl : Value.bool true = r := by simpa [Value.resultList] using h2
      exact okWide_bool_mk ht _
    | j + 1, h1, _ => simp at h1
  · intro b off hp
    have hp' : MemPlace.cell b off ∈ pa ++ [] := by simpa using hp
    rw [hb.frozen (hlt _ hp')]
    exact hz b off hp'
  · intro ha
    simpa using hn ha
  · intro p hp _
    simpa using hp
end

open Mem
def zer (n : Nat) : Array Value := madeCells #[.slice none 0 0] (n * 1)
theorem zer_at (n j : Nat) (h : j < n) : (zer n)[j]? = some (.slice none 0 0) := by
  unfold zer
  rw [made_at _ _ _ (by omega)]
  show some ((#[Value.slice none 0 0] : Array Value)[j % 1]!) = _
  rw [Nat.mod_one]
  rfl
theorem info38 : (Try.prog.info? 38).map (fun i => (i.zero, i.size, i.bytes)) = some (some (.slice none 0 0), 1, 24) := by kernel_rfl
theorem mk22 (n : Nat) (h : n ≤ 65536) (w : World) : (Instr.makeSlice 22 (.int .i64 (n : Int)) (.int .i64 (n : Int))).run Try.prog w = .ok (.slice (some ⟨w.heap.size, 0, none⟩) n n) (w.alloc (.cells (zer n) 38)) :=
  run_mkc (P := Try.prog) 22 38 _ _ rfl _ _ Try.underlying22 info38 n n (by omega) (by omega) (by omega) w
def Fresh (n : Nat) (w : World) (e : Ending) (w' : World) : Prop := ∃ g, e = .returned (.agg #[.slice (some ⟨g, 0, none⟩) n n]) ∧ w.heap.size ≤ g ∧ Own w' g 38 (zer n) ∧ Below w.heap.size w w'
theorem fresh_any (n : Nat) (h : n ≤ 65536) (w : World) : Calls Try.prog 5 #[.int .i64 n] w (Fresh n w) := by
  have hm := mk22 n h
  go_enter Try.func5, Try.ntmps5
  go_wp2
  go_returns
  refine ⟨w.heap.size + 1, rfl, by omega, ?_, by go_grown⟩
  have := Own.new (w.alloc (.cells #[.slice (some ⟨w.heap.size + 1, 0, none⟩) n n] 24)) 38 (zer n)
  rw [World.size_alloc] at this
  exact this
set_option maxHeartbeats 1000000 in
theorem get_any (g n s h : Nat) (hs : s < n) (hn : n ≤ 65536) (w : World) (hg : g < w.heap.size) (hc : w.cell? ⟨g, s, none⟩ = some (.slice (some ⟨h, 0, none⟩) 1 1)) :
    Calls Try.prog 6 #[.agg #[.slice (some ⟨g, 0, none⟩) n n], .agg #[.int .u32 s, .int .u32 0]] w fun e w' => e = .returned (.pointer (some ⟨h, 0, none⟩)) ∧ Below w.heap.size w w' := by
  have hne : g ≠ w.heap.size := by omega
  have hne1 : g ≠ w.heap.size + 1 := by omega
  have b1 : (0 : Int) ≤ (s : Int) := by omega
  have b2 : (s : Int) < (n : Int) := by omega
  go_enter Try.func6, Try.ntmps6
  go_wp2
  go_quiet (fail)
  go_wp2
  go_ret
  exact ⟨rfl, ⟨rfl, rfl, rfl, by simp; omega, fun k hk => ((Below.refl _ w).alloc (Nat.le_refl _) _ |>.alloc (by simp) _).block k hk⟩⟩
theorem info37 : (Try.prog.info? 37).isSome = true := by kernel_rfl
theorem ptr_same (a : Addr) (W : World) : (binOp .neq 39 (.pointer (some a)) (.pointer (some a))).run Try.prog W = .ok (.bool false) W := by
  obtain ⟨j, hj⟩ := Option.isSome_iff_exists.1 info37
  exact Lib.run_neq_ptr_same (P := Try.prog) W a Try.underlying39 hj
set_option maxRecDepth 100000 in
set_option maxHeartbeats 4000000 in
theorem walk (a0 : Int) (a1 : Int) (w : World) (w0 : (Lit.int .i64 a0).wf = true) (w1 : (Lit.int .i64 a1).wf = true) :
    Calls Try.prog 3 #[.int .i64 a0, .int .i64 a1] w fun e w' => e = .returned (.bool true) ∧ Below w.heap.size w w' := by
  have h0 : -9223372036854775808 ≤ a0 ∧ a0 ≤ 9223372036854775807 := by simpa [Lit.wf, IntKind.min, IntKind.max, IntKind.signed, IntKind.bits] using w0
  have h1 : -9223372036854775808 ≤ a1 ∧ a1 ≤ 9223372036854775807 := by simpa [Lit.wf, IntKind.min, IntKind.max, IntKind.signed, IntKind.bits] using w1
  clear w0 w1
  by_cases c1 : a0 < 0
  · go_enter Try.func3, Try.ntmps3
    go_wp2_with fail
    all_goals go_ret
    all_goals exact ⟨by simp_all, by go_grown⟩
  by_cases c2 : 65536 < a0
  · go_enter Try.func3, Try.ntmps3
    go_wp2_with fail
    all_goals go_ret
    all_goals exact ⟨by simp_all, by go_grown⟩
  by_cases c3 : a1 < 0
  · go_enter Try.func3, Try.ntmps3
    go_wp2_with fail
    all_goals go_ret
    all_goals exact ⟨by simp_all, by go_grown⟩
  by_cases c4 : a0 ≤ a1
  · go_enter Try.func3, Try.ntmps3
    go_wp2_with fail
    all_goals go_ret
    all_goals exact ⟨by simp_all, by go_grown⟩
  obtain ⟨n, rfl⟩ := Int.eq_ofNat_of_zero_le (show 0 ≤ a0 by omega)
  obtain ⟨s, rfl⟩ := Int.eq_ofNat_of_zero_le (show 0 ≤ a1 by omega)
  have hn : n ≤ 65536 := by omega
  have hs : s < n := by omega
  clear h0 h1 c1 c2 c3 c4
  go_enter Try.func3, Try.ntmps3
  go_wp2_with fail
  refine (fresh_any n hn _).mono ?_
  rintro e w1 ⟨g1, rfl, l1, o1, b1⟩
  go_wp2_with fail
  refine (fresh_any n hn _).mono ?_
  rintro e w2 ⟨g2, rfl, l2, o2, b2⟩
  have lt1 := o1.lt
  have lt2 := o2.lt
  rw [World.size_alloc] at l2 b2
  have hm1 : w2.cell? ⟨w1.heap.size, 0, none⟩ = some (.slice (some ⟨g1, 0, none⟩) n n) := (b2.cell (p := ⟨w1.heap.size, 0, none⟩) (Nat.lt_succ_self _)).trans (by go_simp)
  have hmO : Own w2 w1.heap.size 24 #[.slice (some ⟨g1, 0, none⟩) n n] := (Own.new w1 24 #[.slice (some ⟨g1, 0, none⟩) n n]).below b2 (Nat.lt_succ_self _)
  have HMO := Lib.hid hmO
  clear hmO
  have o1' : Own w2 g1 38 (zer n) := (o1.alloc _).below b2 (by omega)
  have c1 := (o1'.cell s).trans (zer_at n s hs)
  have f1 := o1'.frozen s
  have c2 := (o2.cell s).trans (zer_at n s hs)
  have bw : Below w.heap.size w w2 := (b1.alloc b1.size _).trans (b2.mono (by have := b1.size; omega))
  have z1 := b1.size
  have n12 : g1 ≠ g2 := by omega
  have n1m : g1 ≠ w1.heap.size := by omega
  have n2m : g2 ≠ w1.heap.size := by omega
  have n1x : g1 < w2.heap.size := o1'.lt
  have nmx : w1.heap.size < w2.heap.size := by omega
  clear b1 b2 o1
  have hnil : ∀ W : World, (binOp .neq 38 (.slice none 0 0) (.slice none 0 0)).run Try.prog W = .ok (.bool false) W := fun _ => by kernel_rfl
  have O1 := Lib.hid o1'
  have O2 := Lib.hid o2
  clear o1' o2
  go_wp2_with fail
  generalize hW3 : (((w2.setCell ⟨g1, s, none⟩ (Value.slice (some ⟨w2.heap.size + 1, 0, none⟩) 1 1)).alloc (Obj.cells #[Value.slice (some ⟨g2, 0, none⟩) n n] 24)).alloc (Obj.cells #[Value.pointer none, Value.string ⟨#[]⟩, Value.int .u32 0, Value.int .u32 0, Value.int .u32 7, Value.int .u32 0, Value.int .u32 0, Value.int .u16 0, Value.int .u8 0, Value.int .u8 0] 37)) = w3
  have s3 : w3.heap.size = w2.heap.size + 2 := by rw [← hW3]; simp
  have q1 : Own w3 g1 38 ((zer n).setIfInBounds s (.slice (some ⟨w2.heap.size + 1, 0, none⟩) 1 1)) := by rw [← hW3]; exact ((O1.out.set s _).alloc _).alloc _
  have q2 : Own w3 g2 38 (zer n) := by rw [← hW3]; exact ((O2.out.far (p := ⟨g1, s, none⟩) (Ne.symm n12) _).alloc _).alloc _
  have q3 : w3.cell? ⟨w1.heap.size, 0, none⟩ = some (.slice (some ⟨g1, 0, none⟩) n n) := by rw [← hW3]; exact (((HMO.out.far (p := ⟨g1, s, none⟩) (Ne.symm n1m) _).alloc _).alloc _).cell 0
  have q4 : w3.cell? ⟨w2.heap.size, 0, none⟩ = some (.slice (some ⟨g2, 0, none⟩) n n) := by
    rw [← hW3]
    have h := ((Own.new (w2.setCell ⟨g1, s, none⟩ (Value.slice (some ⟨w2.heap.size + 1, 0, none⟩) 1 1)) 24 #[Value.slice (some ⟨g2, 0, none⟩) n n]).alloc (Obj.cells #[Value.pointer none, Value.string ⟨#[]⟩, Value.int .u32 0, Value.int .u32 0, Value.int .u32 7, Value.int .u32 0, Value.int .u32 0, Value.int .u16 0, Value.int .u8 0, Value.int .u8 0] 37)).cell 0
    rw [World.size_setCell] at h
    exact h
  have q5 : w3.cell? ⟨w2.heap.size + 1, 4, none⟩ = some (.int .u32 7) := by
    rw [← hW3]
    have h := (Own.new ((w2.setCell ⟨g1, s, none⟩ (Value.slice (some ⟨w2.heap.size + 1, 0, none⟩) 1 1)).alloc (Obj.cells #[Value.slice (some ⟨g2, 0, none⟩) n n] 24)) 37 #[Value.pointer none, Value.string ⟨#[]⟩, Value.int .u32 0, Value.int .u32 0, Value.int .u32 7, Value.int .u32 0, Value.int .u32 0, Value.int .u16 0, Value.int .u8 0, Value.int .u8 0]).cell 4
    rw [World.size_alloc, World.size_setCell] at h
    exact h
  have bw3 : Below w.heap.size w w3 := by
    rw [← hW3]
    exact ((bw.setCell (by omega) _).alloc (by simp; omega) _).alloc (by simp; omega) _
  have szn : (zer n).size = n := by unfold zer; rw [size_madeCells]; omega
  have k1 : ∀ j, j < n → j ≠ s → w3.cell? ⟨g1, j, none⟩ = some (.slice none 0 0) := fun j hj hjs => by
    rw [q1.cell, Array.getElem?_setIfInBounds, if_neg (Ne.symm hjs)]; exact zer_at n j hj
  have k2 : w3.cell? ⟨g1, s, none⟩ = some (.slice (some ⟨w2.heap.size + 1, 0, none⟩) 1 1) := by
    rw [q1.cell, Array.getElem?_setIfInBounds, if_pos rfl, if_pos (by omega)]
  have k3 : w3.cell? ⟨g2, s, none⟩ = some (.slice none 0 0) := (q2.cell s).trans (zer_at n s hs)
  clear hW3 hm1 c1 f1 c2 O1 O2 q1 q2 szn bw
  have K1 := Lib.hid k1
  have S3 := Lib.hid s3
  clear k1
  refine (get_any g1 n s (w2.heap.size + 1) hs hn w3 (by omega) k2).mono ?_
  rintro e w4 ⟨rfl, b4⟩
  have e1 := (b4.cell (p := ⟨g1, s, none⟩) (show g1 < w3.heap.size by omega)).trans k2
  have e2 := (b4.cell (p := ⟨g2, s, none⟩) (show g2 < w3.heap.size by omega)).trans k3
  have e3 := (b4.cell (p := ⟨w1.heap.size, 0, none⟩) (show w1.heap.size < w3.heap.size by omega)).trans q3
  have e4 := (b4.cell (p := ⟨w2.heap.size, 0, none⟩) (show w2.heap.size < w3.heap.size by omega)).trans q4
  have e5 := (b4.cell (p := ⟨w2.heap.size + 1, 4, none⟩) (show w2.heap.size + 1 < w3.heap.size by omega)).trans q5
  have E1 : ∀ j, j < n → j ≠ s → w4.cell? ⟨g1, j, none⟩ = some (.slice none 0 0) := fun j hj hjs => (b4.cell (p := ⟨g1, j, none⟩) (show g1 < w3.heap.size by omega)).trans (K1.out j hj hjs)
  have E1' := Lib.hid E1
  have bw4 : Below w.heap.size w w4 := bw3.trans (b4.mono bw3.size)
  clear b4 k2 k3 q3 q4 q5 K1 bw3 E1 s3
  have hpt := ptr_same ⟨w2.heap.size + 1, 0, none⟩
  go_wp2_with fail
  go_loop [8] (fun i => ∃ k : Nat, k ≤ n ∧ i = .int .i64 k) (fun i => n - (intOf i).toNat)
  case atStart => exact ⟨0, by omega, rfl⟩
  case round =>
    obtain ⟨k, hk, rfl⟩ := hrel
    clear e1 e2 e4 e5 hpt
    by_cases hlt : k < n
    · by_cases hks : k = s
      · have hq : ((k : Int) != (s : Int)) = false := by simp [hks]
        clear hks
        go_wp2_with fail
        go_round
        case rel => exact ⟨k + 1, by omega, by go_num⟩
        case measure => simp [intOf]; omega
      · have hq : ((k : Int) != (s : Int)) = true := by simp; omega
        have hck := E1'.out k hlt hks
        clear hks
        go_wp2_with fail
        go_round
        case rel => exact ⟨k + 1, by omega, by go_num⟩
        case measure => simp [intOf]; omega
    · go_wp2_with fail
      go_ret
      exact ⟨rfl, bw4⟩

set_option maxRecDepth 100000 in
theorem lifted (os : Os) (started : os.Started) (H : Type) (enc : TypeId × Value → H) :
    ReturnsInHanded {} Try.checked os 3 .any (Rows.fnNewSymbolMapFreshAndAddressableSpec.pre6 enc Try.prog Try.f3 Rows.fnNewSymbolMapFreshAndAddressableRow.domain false) (Rows.fnNewSymbolMapFreshAndAddressableSpec.post enc Try.prog Try.f3 false true false false) := by
  refine returnsInHanded_of_change (C := Try.checked) own started (by kernel_rfl) Try.func3
    (ChangeSpec.witness6 (enc := enc) (C := Try.checked) false ⟨#[], #[.int .i64 0, .int .i64 0], []⟩ 8 (by kernel_rfl) (by kernel_rfl) (by kernel_rfl) (by kernel_rfl)) ?_
  intro W base args ds gs before hval0 hW hcnd _
  have hval : ∀ (j : Nat) t v, Try.f3.params[j]? = some t → args[j]? = some v → Value.okWide Try.prog W .any base t v := hval0
  have hW' := hW
  obtain ⟨p, q, hA0, hV, rfl, hfz, hnd⟩ := hW
  have hA : DataW.TrodAll enc Try.prog W 0 (fun _ => true) true Try.f3.params.toList args.toList ds p := hA0
  rw [Try.params3] at hA hval
  obtain ⟨v0, vs0, d0, ds0, p0, q0, hargs0, rfl, rfl, h0, r0⟩ := trodAll_cons hA
  obtain ⟨v1, vs1, d1, ds1, p1, q1, hargs1, rfl, rfl, h1, r1⟩ := trodAll_cons r0
  obtain ⟨rfl, rfl, rfl⟩ := trodAll_nil r1
  obtain rfl : args = #[v0, v1] := by cases args; simp_all
  obtain ⟨a0, rfl, rfl, rfl, w0⟩ := open_int Try.underlying3 (hval 0 3 v0 rfl rfl) h0
  obtain ⟨a1, rfl, rfl, rfl, w1⟩ := open_int Try.underlying3 (hval 1 3 v1 rfl rfl) h1
  clear hA0 hval0
  refine (walk a0 a1 W w0 w1).mono fun e W' ⟨he, hg⟩ => ?_
  subst he
  exact ⟨_, rfl, law_post laid readEach rfl rfl Try.underlying4 ⟨rfl, rfl, rfl⟩ hW' hg⟩

theorem over : Rows.fnNewSymbolMapFreshAndAddressableRow.holds Try.pinned (OpenSpec.ofChange Rows.fnNewSymbolMapFreshAndAddressableSpec) :=
  OpenClaim.holds_of_wide 3 Try.f3 rfl rfl rfl rfl rfl rfl rfl ⟨rfl, rfl, rfl, rfl, rfl⟩ rfl rfl rfl rfl rfl (by kernel_rfl) Try.func3 (by kernel_rfl)
    (of_decide_eq_true (by kernel_rfl)) (by unfold Func.isWrapper; first | (rw [if_pos (by decide +kernel)]; kernel_rfl) | (rw [if_neg (by decide +kernel)]; exact ⟨rfl, rfl⟩))
    (fun os started H enc _ => lifted os started H enc)

/-- The statement. -/
theorem proved : Rows.FnNewSymbolMapFreshAndAddressableSaid :=
  over
#print axioms proved
end Go.Proofs.Ytnegfigjmjgknaa.fnNewSymbolMapFreshAndAddressable
