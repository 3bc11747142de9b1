/-
  Proved: the law FnMergeAdjacentLocalsIdempotent of folder n011_171 returns true for every argument that its parameter types allow, and leaves its arguments as they were; there is no further condition.
-/
import Derived.Test.YtmjfdhgfpgeboaaRows
import Derived.WalkKit
import Derived.ProofKit
import Derived.OpenShut
import Derived.Below
import Derived.Carry
import Derived.ChangeMaps5
import Derived.Handy
import Derived.Lib.Hide
import Derived.WalkSpells
import Derived.OwnWalk
import Derived.Deep.RegionHeld3
import Derived.Deep.CutRange
import Derived.Deep.QuietTactic
import Derived.PlainAid
import Derived.Test.YtmjfdhgfpgeboaaGj
import Derived.Test.YtmjfdhgfpgeboaaOpb
namespace Go.Proofs.Ytmjfdhgfpgeboaa.fnMergeAdjacentLocalsIdempotent
open Go.ChangeShapes Go.WideShapes Go.ChangeAt Go.RowKit
set_option linter.unusedVariables false

theorem own : ownKnob Try.prog.godebug = none := by kernel_rfl
theorem laid : laidOutB Try.prog = true := by kernel_rfl
theorem readAll : (Try.f3.params.toList.all fun t => Try.prog.readableRec t && decide (t < Try.prog.types.size)) = true := by kernel_rfl
theorem readEach : ∀ t ∈ Try.f3.params.toList, Try.prog.readableRec t = true ∧ t < Try.prog.types.size := fun t ht => by
  have := List.all_eq_true.1 readAll t ht
  simpa using this
section
variable {H : Type} {enc : TypeId × Value → H} {P : Program}
theorem trodAll_stays (hl : laidOutB P = true) {W W' : World} (hb : Below W.heap.size W W') {sp : Nat → Bool} : ∀ {ts : List TypeId} {vs : List Value} {ds : List (DataW H)} {ps : List MemPlace},
    (∀ t ∈ ts, P.readableRec t = true ∧ t < P.types.size) → DataW.TrodAll enc P W 0 (fun _ => true) true ts vs ds ps → (∀ p ∈ ps, p.block < W.heap.size) → (∀ p ∈ ps, sp p.block = true) → DataW.TrodAll enc P W' 0 sp true ts vs ds ps
  | [], [], [], _, _, h, _, _ => h
  | _ :: _, _ :: _, _ :: _, _, hT, ⟨p, q, h1, h2, e⟩, hlt, hs =>
    ⟨p, q, WideElems.Trod_stays hl (hT _ (List.mem_cons.2 (Or.inl rfl))).1 (hT _ (List.mem_cons.2 (Or.inl rfl))).2 h1 (fun x hx => hb.same (hlt x (by rw [e]; exact List.mem_append_left _ hx))) (fun x hx => hs x (by rw [e]; exact List.mem_append_left _ hx)),
      trodAll_stays hl hb (fun t ht => hT t (List.mem_cons.2 (Or.inr ht))) h2 (fun x hx => hlt x (by rw [e]; exact List.mem_append_right _ hx)) (fun x hx => hs x (by rw [e]; exact List.mem_append_right _ hx)), e⟩

/-- A law's step: the result is true, the arguments are kept, the world has changed in new blocks alone. -/
theorem law_post {f : Func} {s : ChangeSpec} {apart fresh handsOn again : Bool} {W W' : World} {args : Array Value} {ds gs : List (DataW H)} {before : List MemPlace} {tb : TypeId}
    (hl : laidOutB P = true) (hps : ∀ t ∈ f.params.toList, P.readableRec t = true ∧ t < P.types.size) (hv : s.vars = []) (hr : f.resultTypes = #[tb]) (ht : P.underlying tb = some .bool)
    (hs : (s.fn H (ds ++ [])).results = [.lit (.bool true)] ∧ (s.fn H (ds ++ [])).args = ds ∧ (s.fn H (ds ++ [])).vars = [])
    (hW : DataW.Whole enc P f.params.toList s.vars apart W args.toList ds gs before) (hb : Below W.heap.size W W') :
    s.post enc P f apart fresh handsOn again W args (.bool true) W' := by
  have hlt : ∀ p ∈ before, p.block < W.heap.size := fun p hp => hW.lt p hp
  have hold : ∀ p ∈ before, (fun b => decide (b < W.heap.size)) p.block = true := fun p hp => by simpa using hlt p hp
  have hW0 := hW
  obtain ⟨pa, pv, hA, hV, rfl, hz, hn⟩ := hW
  rw [hv] at hV
  obtain ⟨rfl, rfl⟩ := trodVars_none hV
  have hres : ∀ (b : Nat) (sp : Nat → Bool) (hd : Bool), DataW.TrodAll enc P W' b sp hd f.resultTypes.toList ((Value.bool true).resultList f.resultTypes.size) (s.fn H (ds ++ [])).results [] := fun b sp hd => by
    rw [hs.1, hr]; exact trodAll_cons_mk (shut_bool ht _) trodAll_mk0
  have hargs : ∀ sp : Nat → Bool, (∀ p ∈ pa ++ [], sp p.block = true) → DataW.TrodAll enc P W' 0 sp true f.params.toList args.toList (s.fn H (ds ++ [])).args pa := fun sp hsp => by
    rw [hs.2.1]; exact trodAll_stays hl hb hps hA (fun p hp => hlt p (by simpa using hp)) (fun p hp => hsp p (by simpa using hp))
  have hvars : ∀ sp : Nat → Bool, DataW.TrodVars enc P W' sp s.vars (s.fn H (ds ++ [])).vars [] := fun sp => by rw [hv, hs.2.2]; rfl
  refine ⟨ds, [], pa ++ [], [], pa, [], hW0, hres _ _ _, hargs _ hold, hvars _, World.keptBut_mono (fun p hp => ⟨hp, Or.inr (List.mem_append.1 hp)⟩) (hb.frame (· ∈ pa ++ [])), fun _ => ?_⟩
  refine ⟨?_, _, _, ([] ++ pa) ++ [], ⟨[] ++ pa, [], trodAll_append (hargs _ (fun _ _ => rfl)) (hres _ _ _), hvars _, rfl, ?_, ?_⟩, ?_⟩
  · intro j t r h1 h2
    rw [hr] at h1 h2
    match j, h1, h2 with
    | 0, h1, h2 =>
      obtain rfl : tb = t := by simpa using h1
      obtain rfl : Value.bool true = r := by simpa [Value.resultList] using h2
      exact okWide_bool_mk ht _
    | j + 1, h1, _ => simp at h1
  · intro b off hp
    have hp' : MemPlace.cell b off ∈ pa ++ [] := by simpa using hp
    rw [hb.frozen (hlt _ hp')]
    exact hz b off hp'
  · intro ha
    simpa using hn ha
  · intro p hp _
    simpa using hp
end

set_option linter.unusedSimpArgs false
open Go.PlainAid Mem Sz Ga Gm Gb Gd Ge Gf Gi Gj
theorem u8_in {z : Int} (h : (Lit.int .u8 z).wf = true) : 0 ≤ z ∧ z ≤ 255 := by
  simp [Lit.wf, IntKind.min, IntKind.max, IntKind.signed, IntKind.bits] at h
  omega
set_option maxRecDepth 10000000 in
set_option maxHeartbeats 40000000 in
theorem walk (A0 : Option Addr) (n0 c0 : Nat) (Z0 : Nat → Int) (A1 : Option Addr) (n1 c1 : Nat) (Z1 : Nat → Bool) (A2 : Option Addr) (n2 c2 : Nat) (Z2 : Nat → Int) (w : World) (hA0 : Mem.Rd w w.heap.size 1 A0 n0 (fun j => .int .u8 (Z0 j))) (hc0 : c0 ≤ maxLen) (hn0 : n0 ≤ c0) (hz0 : A0 = none → n0 = 0 ∧ c0 = 0) (hZ0 : ∀ j, j < n0 → (Lit.int .u8 (Z0 j)).wf = true) (hA1 : Mem.Rd w w.heap.size 1 A1 n1 (fun j => .bool (Z1 j))) (hc1 : c1 ≤ maxLen) (hn1 : n1 ≤ c1) (hz1 : A1 = none → n1 = 0 ∧ c1 = 0) (hA2 : Mem.Rd w w.heap.size 1 A2 n2 (fun j => .int .u8 (Z2 j))) (hc2 : c2 ≤ maxLen) (hn2 : n2 ≤ c2) (hz2 : A2 = none → n2 = 0 ∧ c2 = 0) (hZ2 : ∀ j, j < n2 → (Lit.int .u8 (Z2 j)).wf = true) :
    Calls Try.prog 3 #[.slice A0 n0 c0, .slice A1 n1 c1, .slice A2 n2 c2] w fun e w' => e = .returned (.bool true) ∧ Below w.heap.size w w' := by
  have HA0 := Lib.hid hA0
  have HA1 := Lib.hid hA1
  have HA2 := Lib.hid hA2
  have hN0 : n0 ≤ maxLen := Nat.le_trans hn0 hc0
  have hN1 : n1 ≤ maxLen := Nat.le_trans hn1 hc1
  have hN2 : n2 ≤ maxLen := Nat.le_trans hn2 hc2
  have HZ0 := Lib.hid hz0
  have HZ1 := Lib.hid hz1
  have HZ2 := Lib.hid hz2
  have HU2 : Hid (∀ j, j < n2 → 0 ≤ Z2 j ∧ Z2 j ≤ 255) := Lib.hid fun j hj => u8_in (hZ2 j hj)
  clear hA0 hA1 hA2 hz0 hz1 hz2 hZ0 hZ2
  go_enter Try.func3, Try.ntmps3
  go_wp2_with fail
  refine (bytes4 A0 n0 c0 A1 n1 c1 A2 n2 c2 _ hN0 hN1 hN2).mono ?_
  rintro e w' ⟨rfl, rfl⟩
  by_cases ht : n0 + n1 + n2 ≤ 1048576
  · rw [szOk_yes ht]
    clear hN0 hN1 hN2 hc0 hc1 hc2 hn0 hn1 hn2
    go_wp2_with fail
    refine (guard5 A0 n0 c0 A1 n1 c1 A2 n2 c2 Z2 _ HA2.out (by omega) (by omega) (by omega) HU2.out).mono ?_
    rintro e w' ⟨b, rfl, hb, rfl⟩
    cases b
    · go_wp2_with fail
      go_ret
      exact ⟨rfl, Below.refl _ _⟩
    obtain ⟨g0, g1, g2⟩ := hb rfl
    replace g1 := g1.symm
    replace g2 := g2.symm
    subst g1 g2
    clear ht hb
    go_wp2_with fail
    refine (cloneI_any A0 n0 c0 Z0 _ HA0.out HZ0.out (by omega)).mono ?_
    rintro e w1 ⟨B0, k0, rfl, hB0, hw1⟩
    go_wp2_with fail
    refine (cloneB_any A1 n0 c1 Z1 _ ((HA1.out.below hw1).mono hw1.size) HZ1.out (by omega)).mono ?_
    rintro e w2 ⟨B1, k1, rfl, hB1, hw2⟩
    go_wp2_with fail
    have hw12 := hw1.trans (hw2.mono hw1.size)
    refine (cloneI_any A2 n0 c2 Z2 _ ((HA2.out.below hw12).mono hw12.size) HZ2.out (by omega)).mono ?_
    rintro e w3 ⟨B2, k2, rfl, hB2, hw3⟩
    have hw13 := hw12.trans (hw3.mono hw12.size)
    have HR0 := Lib.hid (((hB0.below hw2).mono hw2.size).below hw3 |>.mono hw3.size)
    have HR1 := Lib.hid ((hB1.below hw3).mono hw3.size)
    have HR2 := Lib.hid hB2
    have HW := Lib.hid hw13
    clear hw1 hw2 hw3 hw12 hw13 hB0 hB1 hB2 HA0 HA1 HA2 HZ0 HZ1 HZ2
    go_wp2_with fail
    refine (build8 B0 n0 k0 B1 k1 B2 k2 Z0 Z2 Z1 _ HR0.out HR1.out HR2.out g0 HU2.out).mono ?_
    rintro e w4 ⟨cs0, rfl, hB⟩
    obtain ⟨V0, C0, l0, hP⟩ := pick (P := fun i v C l => cs0[i * 2]? = some v ∧ cs0[i * 2 + 1]? = some (.int .i32 l) ∧ Ent w4 (w3.heap.size + 1) w4.heap.size (w3.heap.size + 1) w4.heap.size 255 v C) hB.set
    have HOW := Lib.hid hB.own
    have HSZ := Lib.hid hB.size
    have HP := Lib.hid hP
    have HW4 := Lib.hid hB.below
    clear hB hP HR0 HR1 HR2
    obtain hz | ⟨m, hm⟩ : n0 = 0 ∨ ∃ m, n0 = m + 1 := by cases n0 with
      | zero => exact .inl rfl
      | succ m => exact .inr ⟨m, rfl⟩
    · subst hz
      go_wp2_with fail
      refine (merge9n 0 w3.heap.size w4).mono ?_
      rintro e w' ⟨rfl, rfl⟩
      have hmk : (Instr.makeSlice 27 (.int .i64 0) (.int .i64 0)).run Try.prog w4 = .ok (.slice (some ⟨w4.heap.size, 0, none⟩) 0 0) (w4.alloc (.cells (madeCells rowZ (0 * 2)) 37)) := run_mkc (P := Try.prog) 27 37 (.agg rowZ) rowZ (by rfl) _ _ Try.underlying27 info37 0 0 (Nat.le_refl _) (by omega) (by omega) w4
      have hown := new_own (w := w4) (t := 37) (cs := madeCells rowZ (0 * 2)) rfl
      have hcopy := fun ty => run_copy2 (w4.alloc (.cells (madeCells rowZ (0 * 2)) 37)) ty w4.heap.size w3.heap.size 0 0 0 (madeCells rowZ (0 * 2)) [] hown (by simp [size_madeCells]) rfl (fun i v hv => by simp at hv) (fun v hv => by simp at hv)
      have hb6 : Below w4.heap.size w4 ((w4.alloc (.cells (madeCells rowZ (0 * 2)) 37)).setRow w4.heap.size ([] : List Value).toArray) :=
        ⟨rfl, rfl, rfl, by simp, fun k hk => (setRow_other _ _ k _ (by omega)).trans (Below.heap_alloc w4 _ k hk)⟩
      have hs6 : Own ((w4.alloc (.cells (madeCells rowZ (0 * 2)) 37)).setRow w4.heap.size ([] : List Value).toArray) w4.heap.size 37 ([] : List Value).toArray := setRow_heap _ _ _ _ _ _ hown
      go_wp2_with (refine wpList_copy2 rfl (.tmp 36) (.tmp 37) rfl _ _ _ (by simp [Act.eval, Act.put]) (by simp [Act.eval, Act.put]) hcopy ?_)
      clear hmk hcopy
      obtain ⟨w6, hw6⟩ : ∃ w6 : World, w6 = (w4.alloc (.cells (madeCells rowZ (0 * 2)) 37)).setRow w4.heap.size ([] : List Value).toArray := ⟨_, rfl⟩
      rw [← hw6] at hb6 hs6 ⊢
      clear hown hw6
      refine (merge9n 0 w3.heap.size w6).mono ?_
      rintro e w' ⟨rfl, rfl⟩
      have HSM := Lib.hid (same10 0 0 0 w3.heap.size w4.heap.size 0 0 0 0 0 (by omega) V0 C0 l0 w6 (Nat.lt_of_lt_of_le HOW.out.lt hb6.size) hs6.lt (fun i hi => absurd hi (by omega)) (fun i hi => absurd hi (by omega)) (fun i hi => absurd hi (by omega)) (Nat.zero_le _) (Nat.zero_le _) (by omega))
      have HB6 := Lib.hid hb6
      clear hb6 hs6
      go_wp2_with fail
      refine HSM.out.mono ?_
      rintro e w8 ⟨rfl, hw8⟩
      have HW8 := Lib.hid hw8
      clear hw8
      go_wp2_with fail
      go_ret
      have s1 := HW.out.size
      have s2 := HW4.out.size
      have c1 := (HW.out.trans (HW4.out.mono s1)).trans (HB6.out.mono (by omega))
      exact ⟨rfl, c1.trans (HW8.out.mono c1.size)⟩
    · subst hm
      go_wp2_with fail
      refine (merge9 m 255 m w3.heap.size g0 (by omega) (Nat.le_refl _) (by unfold maxLen; omega) cs0 V0 C0 l0 w4 HOW.out (by rw [HSZ.out]; exact Nat.le_refl _) (fun k hk => ⟨(HP.out k hk).1, (HP.out k hk).2.1⟩) (fun k hk => (HP.out k hk).2.2)).mono ?_
      rintro e w5 ⟨e1, did1, cs1, V1, C1, l1, B11, rfl, hM1⟩
      have HM1 := Lib.hid hM1
      clear hM1
      obtain ⟨q1, q2, _⟩ := HM1.out.ei
      have hmk := run_mkc (P := Try.prog) 27 37 (.agg rowZ) rowZ (by rfl) _ _ Try.underlying27 info37 e1 e1 (Nat.le_refl _) (by omega) (by omega) w5
      have hrb : w3.heap.size < w5.heap.size := HM1.out.own.lt
      have hsz1 := HM1.out.size
      have hown := new_own (w := w5) (t := 37) (cs := madeCells rowZ (e1 * 2)) rfl
      have hl : (cs1.toList.take (e1 * 2)).length = e1 * 2 := by rw [List.length_take, Array.length_toList]; omega
      have hget : ∀ i, i < e1 * 2 → (cs1.toList.take (e1 * 2))[i]? = cs1[i]? := fun i hi => by rw [List.getElem?_take, if_pos hi, Array.getElem?_toList]
      have hcopy := fun ty => run_copy2 (w5.alloc (.cells (madeCells rowZ (e1 * 2)) 37)) ty w5.heap.size w3.heap.size e1 e1 (m + 1) (madeCells rowZ (e1 * 2)) (cs1.toList.take (e1 * 2)) hown (by simp [size_madeCells]) hl
        (fun i v hv => by
          have hi : i < e1 * 2 := by rw [← hl]; exact (List.getElem?_eq_some_iff.1 hv).1
          rw [hget i hi] at hv
          rw [add_none]
          simpa using ((HM1.out.own.alloc _).cell i).trans hv)
        (fun v hv => by
          obtain ⟨i, hi'⟩ := List.getElem?_of_mem hv
          have hi : i < e1 * 2 := by rw [← hl]; exact (List.getElem?_eq_some_iff.1 hi').1
          rw [hget i hi] at hi'
          have hk := HM1.out.hd (i / 2) (by omega)
          have h5 : i = i / 2 * 2 ∨ i = i / 2 * 2 + 1 := by omega
          rcases h5 with e | e <;> rw [e] at hi'
          · rw [hk.1] at hi'
            cases hi'
            obtain ⟨_, p, hp, _⟩ | ⟨p, _, _, _, hp, _⟩ := HM1.out.all (Nat.le_refl _) (i / 2) (by omega) <;> rw [hp] <;> rfl
          · rw [hk.2] at hi'
            cases hi'
            rfl)
      have hb6 : Below w5.heap.size w5 ((w5.alloc (.cells (madeCells rowZ (e1 * 2)) 37)).setRow w5.heap.size (cs1.toList.take (e1 * 2)).toArray) :=
        ⟨rfl, rfl, rfl, by simp, fun k hk => (setRow_other _ _ k _ (by omega)).trans (Below.heap_alloc w5 _ k hk)⟩
      have hs6 : Own ((w5.alloc (.cells (madeCells rowZ (e1 * 2)) 37)).setRow w5.heap.size (cs1.toList.take (e1 * 2)).toArray) w5.heap.size 37 (cs1.toList.take (e1 * 2)).toArray := setRow_heap _ _ _ _ _ _ hown
      go_wp2_with (refine wpList_copy2 rfl (.tmp 36) (.tmp 37) rfl _ _ _ (by simp [Act.eval, Act.put]) (by simp [Act.eval, Act.put]) hcopy ?_)
      clear hmk hcopy
      obtain ⟨w6, hw6⟩ : ∃ w6 : World, w6 = (w5.alloc (.cells (madeCells rowZ (e1 * 2)) 37)).setRow w5.heap.size (cs1.toList.take (e1 * 2)).toArray := ⟨_, rfl⟩
      rw [← hw6] at hb6 hs6 ⊢
      clear hown hw6
      have hz6 : w5.heap.size < w6.heap.size := hs6.lt
      have heq6 : Eqs 0 w5.heap.size w5 w6 := Eqs.below hb6 (Nat.le_refl _)
      obtain ⟨j, hj⟩ : ∃ j, e1 = j + 1 := ⟨e1 - 1, by omega⟩
      have hwz : w4.heap.size ≤ w5.heap.size := Nat.le_trans HM1.out.b.2.1 HM1.out.b.2.2
      have hN2 : 255 * (m + 1) ≤ 16711680 := by omega
      have hMM := merge9 j (255 * (m + 1)) m w3.heap.size (by omega) hN2 (by omega) (by unfold maxLen; omega) cs1 V1 C1 l1 w6 (HM1.out.own.below hb6 hrb) (by omega) (fun k hk => HM1.out.hd k (by omega))
        (fun k hk => ((HM1.out.all (Nat.le_refl _) k (by omega)).eqs (heq6.mono (by omega) (Nat.le_refl _)) (heq6.mono (by omega) hwz)).widen (Nat.le_refl _) hb6.size (Nat.le_refl _) (Nat.le_trans hwz hb6.size) (Nat.le_refl _))
      rw [← hj] at hMM
      have HMM := Lib.hid hMM
      clear hMM heq6 hj
      go_wp2_with fail
      refine HMM.out.mono ?_
      rintro e w7 ⟨e2, did2, cs2, V2, C2, l2, B12, rfl, hM2⟩
      have HM2 := Lib.hid hM2
      clear hM2 HMM
      obtain ⟨rfl, _, hsame⟩ := HM2.out.same HM1.out.adj
      have hz7 : w6.heap.size ≤ w7.heap.size := Nat.le_trans HM2.out.b.2.1 HM2.out.b.2.2
      have hbig : 255 * (m + 1) * e2 ≤ 1200000000000 := by have := Nat.mul_le_mul hN2 (show e2 ≤ 65536 by omega); omega
      have hs7 := Own.eqs hs6 HM2.out.fr (by omega) hz6
      have hSAME := same10 e2 (m + 1) e2 w3.heap.size w5.heap.size (w3.heap.size + 1) w7.heap.size (w3.heap.size + 1) w6.heap.size (255 * (m + 1) * e2) (by omega) V1 C2 l1 w7 HM2.out.own.lt (by omega)
        (fun i hi => by
          have h := HM2.out.hd i hi
          obtain ⟨a, b, _⟩ := hsame i hi
          exact ⟨by rw [← a]; exact (HM2.out.own.cell _).trans h.1, by rw [← b]; exact (HM2.out.own.cell _).trans h.2⟩)
        (fun i hi => by
          have h := HM1.out.hd i hi
          exact ⟨by rw [hs7.cell, List.getElem?_toArray, hget _ (by omega)]; exact h.1, by rw [hs7.cell, List.getElem?_toArray, hget _ (by omega)]; exact h.2⟩)
        (fun i hi => by
          have h := HM2.out.all (Nat.le_refl _) i hi
          obtain ⟨a, _, _⟩ := hsame i hi
          rw [← a]
          exact h)
        (Nat.le_refl _) hz7 hbig
      have HSM := Lib.hid hSAME
      clear hSAME
      go_wp2_with fail
      refine HSM.out.mono ?_
      rintro e w8 ⟨rfl, hw8⟩
      have HW8 := Lib.hid hw8
      clear hw8
      go_wp2_with fail
      go_ret
      have s1 := HW.out.size
      have s2 := HW4.out.size
      have c1 := HW.out.trans (HW4.out.mono s1)
      have c2 := c1.trans (HM1.out.below.mono s1)
      have c3 := c2.trans (hb6.mono (by omega))
      have c4 := c3.trans (HM2.out.below.mono s1)
      exact ⟨rfl, c4.trans (HW8.out.mono (by omega))⟩
  · rw [szOk_no ht]
    go_wp2_with fail
    go_ret
    exact ⟨rfl, Below.refl _ _⟩

set_option maxRecDepth 10000000 in
theorem lifted (os : Os) (started : os.Started) (H : Type) (enc : TypeId × Value → H) :
    ReturnsInHanded {} Try.checked os 3 .any (Rows.fnMergeAdjacentLocalsIdempotentSpec.pre6 enc Try.prog Try.f3 Rows.fnMergeAdjacentLocalsIdempotentRow.domain false) (Rows.fnMergeAdjacentLocalsIdempotentSpec.post enc Try.prog Try.f3 false true false false) := by
  refine returnsInHanded_of_change (C := Try.checked) own started (by kernel_rfl) Try.func3
    (ChangeSpec.witness6 (enc := enc) (C := Try.checked) false ⟨#[], #[.slice none 0 0, .slice none 0 0, .slice none 0 0], []⟩ 8 (by kernel_rfl) (by kernel_rfl) (by kernel_rfl) (by kernel_rfl)) ?_
  intro W base args ds gs before hval0 hW hcnd _
  have hval : ∀ (j : Nat) t v, Try.f3.params[j]? = some t → args[j]? = some v → Value.okWide Try.prog W .any base t v := hval0
  have hW' := hW
  obtain ⟨p, q, hA0, hV, rfl, hfz, hnd⟩ := hW
  have hA : DataW.TrodAll enc Try.prog W 0 (fun _ => true) true Try.f3.params.toList args.toList ds p := hA0
  rw [Try.params3] at hA hval
  obtain ⟨v0, vs0, d0, ds0, p0, q0, hargs0, rfl, rfl, h0, r0⟩ := trodAll_cons hA
  obtain ⟨v1, vs1, d1, ds1, p1, q1, hargs1, rfl, rfl, h1, r1⟩ := trodAll_cons r0
  obtain ⟨v2, vs2, d2, ds2, p2, q2, hargs2, rfl, rfl, h2, r2⟩ := trodAll_cons r1
  obtain ⟨rfl, rfl, rfl⟩ := trodAll_nil r2
  obtain rfl : args = #[v0, v1, v2] := by cases args; simp_all
  obtain ⟨A0, n0, c0, Z0, rfl, hn0, hc0, hz0, hA0, hZ0⟩ := Mem.open_ints' Try.underlying22 Try.underlying5 (by kernel_rfl) (hval 0 22 v0 rfl rfl) h0
  obtain ⟨A1, n1, c1, Z1, rfl, hn1, hc1, hz1, hA1⟩ := Opb.open_bools' Try.underlying23 Try.underlying4 (by kernel_rfl) (hval 1 23 v1 rfl rfl) h1
  obtain ⟨A2, n2, c2, Z2, rfl, hn2, hc2, hz2, hA2, hZ2⟩ := Mem.open_ints' Try.underlying22 Try.underlying5 (by kernel_rfl) (hval 2 22 v2 rfl rfl) h2
  clear hA0 hval0
  refine (walk A0 n0 c0 Z0 A1 n1 c1 Z1 A2 n2 c2 Z2 W hA0 hc0 hn0 hz0 hZ0 hA1 hc1 hn1 hz1 hA2 hc2 hn2 hz2 hZ2).mono fun e W' ⟨he, hg⟩ => ?_
  subst he
  exact ⟨_, rfl, law_post laid readEach rfl rfl Try.underlying4 ⟨rfl, rfl, rfl⟩ hW' hg⟩

theorem over : Rows.fnMergeAdjacentLocalsIdempotentRow.holds Try.pinned (OpenSpec.ofChange Rows.fnMergeAdjacentLocalsIdempotentSpec) :=
  OpenClaim.holds_of_wide 3 Try.f3 rfl rfl rfl rfl rfl rfl rfl ⟨rfl, rfl, rfl, rfl, rfl⟩ rfl rfl rfl rfl rfl (by kernel_rfl) Try.func3 (by kernel_rfl)
    (of_decide_eq_true (by kernel_rfl)) (by unfold Func.isWrapper; first | (rw [if_pos (by decide +kernel)]; kernel_rfl) | (rw [if_neg (by decide +kernel)]; exact ⟨rfl, rfl⟩))
    (fun os started H enc _ => lifted os started H enc)

/-- The statement. -/
theorem proved : Rows.FnMergeAdjacentLocalsIdempotentSaid :=
  over
#print axioms proved
end Go.Proofs.Ytmjfdhgfpgeboaa.fnMergeAdjacentLocalsIdempotent
