/-
  Proved: the law FnExportsReverseRefusesNonSubpathRoots of folder n011_78 returns true for every argument that its parameter types allow, and leaves its arguments as they were; there is no further condition.
-/
import Derived.Test.YtjfegbkbhbhcoaaRows
import Derived.WalkKit
import Derived.ProofKit
import Derived.OpenShut
import Derived.Below
import Derived.Carry
import Derived.ChangeMaps5
import Derived.Handy
import Derived.Lib.Hide
import Derived.WalkSpells
import Derived.OwnWalk
import Derived.Maps.Own
import Derived.Maps.Keyed
import Derived.Deep.MidRow
import Derived.Deep.Cut
import Derived.Test.YtjfegbkbhbhcoaaEx
import Derived.Test.YtjfegbkbhbhcoaaSx
namespace Go.Proofs.Ytjfegbkbhbhcoaa.fnExportsReverseRefusesNonSubpathRoots
open Go.ChangeShapes Go.WideShapes Go.ChangeAt Go.RowKit
set_option linter.unusedVariables false

theorem own : ownKnob Try.prog.godebug = none := by kernel_rfl
theorem laid : laidOutB Try.prog = true := by kernel_rfl
theorem readAll : (Try.f4.params.toList.all fun t => Try.prog.readableRec t && decide (t < Try.prog.types.size)) = true := by kernel_rfl
theorem readEach : ∀ t ∈ Try.f4.params.toList, Try.prog.readableRec t = true ∧ t < Try.prog.types.size := fun t ht => by
  have := List.all_eq_true.1 readAll t ht
  simpa using this
section
variable {H : Type} {enc : TypeId × Value → H} {P : Program}
theorem trodAll_stays (hl : laidOutB P = true) {W W' : World} (hb : Below W.heap.size W W') {sp : Nat → Bool} : ∀ {ts : List TypeId} {vs : List Value} {ds : List (DataW H)} {ps : List MemPlace},
    (∀ t ∈ ts, P.readableRec t = true ∧ t < P.types.size) → DataW.TrodAll enc P W 0 (fun _ => true) true ts vs ds ps → (∀ p ∈ ps, p.block < W.heap.size) → (∀ p ∈ ps, sp p.block = true) → DataW.TrodAll enc P W' 0 sp true ts vs ds ps
  | [], [], [], _, _, h, _, _ => h
  | _ :: _, _ :: _, _ :: _, _, hT, ⟨p, q, h1, h2, e⟩, hlt, hs =>
    ⟨p, q, WideElems.Trod_stays hl (hT _ (List.mem_cons.2 (Or.inl rfl))).1 (hT _ (List.mem_cons.2 (Or.inl rfl))).2 h1 (fun x hx => hb.same (hlt x (by rw [e]; exact List.mem_append_left _ hx))) (fun x hx => hs x (by rw [e]; exact List.mem_append_left _ hx)),
      trodAll_stays hl hb (fun t ht => hT t (List.mem_cons.2 (Or.inr ht))) h2 (fun x hx => hlt x (by rw [e]; exact List.mem_append_right _ hx)) (fun x hx => hs x (by rw [e]; exact List.mem_append_right _ hx)), e⟩

/-- A law's step: the result is true, the arguments are kept, the world has changed in new blocks alone. -/
theorem law_post {f : Func} {s : ChangeSpec} {apart fresh handsOn again : Bool} {W W' : World} {args : Array Value} {ds gs : List (DataW H)} {before : List MemPlace} {tb : TypeId}
    (hl : laidOutB P = true) (hps : ∀ t ∈ f.params.toList, P.readableRec t = true ∧ t < P.types.size) (hv : s.vars = []) (hr : f.resultTypes = #[tb]) (ht : P.underlying tb = some .bool)
    (hs : (s.fn H (ds ++ [])).results = [.lit (.bool true)] ∧ (s.fn H (ds ++ [])).args = ds ∧ (s.fn H (ds ++ [])).vars = [])
    (hW : DataW.Whole enc P f.params.toList s.vars apart W args.toList ds gs before) (hb : Below W.heap.size W W') :
    s.post enc P f apart fresh handsOn again W args (.bool true) W' := by
  have hlt : ∀ p ∈ before, p.block < W.heap.size := fun p hp => hW.lt p hp
  have hold : ∀ p ∈ before, (fun b => decide (b < W.heap.size)) p.block = true := fun p hp => by simpa using hlt p hp
  have hW0 := hW
  obtain ⟨pa, pv, hA, hV, rfl, hz, hn⟩ := hW
  rw [hv] at hV
  obtain ⟨rfl, rfl⟩ := trodVars_none hV
  have hres : ∀ (b : Nat) (sp : Nat → Bool) (hd : Bool), DataW.TrodAll enc P W' b sp hd f.resultTypes.toList ((Value.bool true).resultList f.resultTypes.size) (s.fn H (ds ++ [])).results [] := fun b sp hd => by
    rw [hs.1, hr]; exact trodAll_cons_mk (shut_bool ht _) trodAll_mk0
  have hargs : ∀ sp : Nat → Bool, (∀ p ∈ pa ++ [], sp p.block = true) → DataW.TrodAll enc P W' 0 sp true f.params.toList args.toList (s.fn H (ds ++ [])).args pa := fun sp hsp => by
    rw [hs.2.1]; exact trodAll_stays hl hb hps hA (fun p hp => hlt p (by simpa using hp)) (fun p hp => hsp p (by simpa using hp))
  have hvars : ∀ sp : Nat → Bool, DataW.TrodVars enc P W' sp s.vars (s.fn H (ds ++ [])).vars [] := fun sp => by rw [hv, hs.2.2]; rfl
  refine ⟨ds, [], pa ++ [], [], pa, [], hW0, hres _ _ _, hargs _ hold, hvars _, World.keptBut_mono (fun p hp => ⟨hp, Or.inr (List.mem_append.1 hp)⟩) (hb.frame (· ∈ pa ++ [])), fun _ => ?_⟩
  refine ⟨?_, _, _, ([] ++ pa) ++ [], ⟨[] ++ pa, [], trodAll_append (hargs _ (fun _ _ => rfl)) (hres _ _ _), hvars _, rfl, ?_, ?_⟩, ?_⟩
  · intro j t r h1 h2
    rw [hr] at h1 h2
    match j, h1, h2 with
    | 0, h1, h2 =>
      obtain rfl : tb = t := by simpa using h1
      obtain rfl : Value.bool true = r := by simpa [Value.resultList] using h2
      exact okWide_bool_mk ht _
    | j + 1, h1, _ => simp at h1
  · intro b off hp
    have hp' : MemPlace.cell b off ∈ pa ++ [] := by simpa using hp
    rw [hb.frozen (hlt _ hp')]
    exact hz b off hp'
  · intro ha
    simpa using hn ha
  · intro p hp _
    simpa using hp
end

open Go.PlainAid Str Mem Rws Sx Ex
open Go.WideMaps Go.Maps
theorem info36 : (Try.prog.info? 36).map (fun i => (i.zero, i.size, i.bytes)) = some (some (.agg #[.string ⟨#[]⟩, .slice none 0 0, .slice none 0 0, .slice none 0 0, .int .i32 0, .int .i32 0, .int .u8 0]), 7, 104) := by kernel_rfl
theorem law : Keyed Try.prog 9 := string_keyed Try.underlying9
abbrev z7 : Array Value := #[.string ⟨#[]⟩, .slice none 0 0, .slice none 0 0, .slice none 0 0, .int .i32 0, .int .i32 0, .int .u8 0]
def imprt : ByteArray := ⟨#[105, 109, 112, 111, 114, 116]⟩
/-- The two conditions' map: what its making leaves. -/
theorem condMap (W : World) : ∃ w1 w2, (Instr.mapUpdate 44 (.map (some W.heap.size)) (.string dflt) (.bool true)).run Try.prog (W.alloc (.map #[] 0)) = .ok () w1 ∧ (Instr.mapUpdate 44 (.map (some W.heap.size)) (.string imprt) (.bool true)).run Try.prog w1 = .ok () w2 ∧ Below W.heap.size W w2 := by
  obtain ⟨w1, r1, o1, g1⟩ := (World.ownsMap_made (H := Unit) W Try.prog 9 (plainElem Try.prog 4)).update law Try.underlying44 (by unfold maxLen; omega) (keyOf_string_mk Try.underlying9 (s := dflt) (by decide)) (plainElem_bool Try.underlying4 true)
  obtain ⟨w2, r2, o2, g2⟩ := o1.update law Try.underlying44 (by unfold maxLen; omega) (keyOf_string_mk Try.underlying9 (s := imprt) (by decide)) (plainElem_bool Try.underlying4 true)
  refine ⟨w1, w2, r1, r2, ?_⟩
  have hz := g1.size
  have b0 : Below W.heap.size W (W.alloc (.map #[] 0)) := (Below.refl _ _).alloc (Nat.le_refl _) _
  have b1 := b0.grown g1 (by simp) (by simp)
  exact b1.grown g2 (by simp at hz; omega) (by simp)
theorem seven {W : World} {g o : Nat} (h : W.there g o 7) : ∃ x0 x1 x2 x3 x4 x5 x6 : Value, W.cell? ⟨g, o, none⟩ = some x0 ∧ W.cell? ⟨g, o + 1, none⟩ = some x1 ∧ W.cell? ⟨g, o + 2, none⟩ = some x2 ∧ W.cell? ⟨g, o + 3, none⟩ = some x3 ∧ W.cell? ⟨g, o + 4, none⟩ = some x4 ∧ W.cell? ⟨g, o + 5, none⟩ = some x5 ∧ W.cell? ⟨g, o + 6, none⟩ = some x6 ∧ W.frozen? ⟨g, o, none⟩ = false ∧ W.frozen? ⟨g, o + 1, none⟩ = false ∧ W.frozen? ⟨g, o + 2, none⟩ = false ∧ W.frozen? ⟨g, o + 3, none⟩ = false ∧ W.frozen? ⟨g, o + 4, none⟩ = false ∧ W.frozen? ⟨g, o + 5, none⟩ = false ∧ W.frozen? ⟨g, o + 6, none⟩ = false := by
  obtain ⟨x0, h0⟩ := Option.isSome_iff_exists.1 (h 0 (by omega)).1
  obtain ⟨x1, h1⟩ := Option.isSome_iff_exists.1 (h 1 (by omega)).1
  obtain ⟨x2, h2⟩ := Option.isSome_iff_exists.1 (h 2 (by omega)).1
  obtain ⟨x3, h3⟩ := Option.isSome_iff_exists.1 (h 3 (by omega)).1
  obtain ⟨x4, h4⟩ := Option.isSome_iff_exists.1 (h 4 (by omega)).1
  obtain ⟨x5, h5⟩ := Option.isSome_iff_exists.1 (h 5 (by omega)).1
  obtain ⟨x6, h6⟩ := Option.isSome_iff_exists.1 (h 6 (by omega)).1
  exact ⟨x0, x1, x2, x3, x4, x5, x6, h0, h1, h2, h3, h4, h5, h6, (h 0 (by omega)).2, (h 1 (by omega)).2, (h 2 (by omega)).2, (h 3 (by omega)).2, (h 4 (by omega)).2, (h 5 (by omega)).2, (h 6 (by omega)).2⟩
theorem own7 {w : World} {g : Nat} {t : TypeId} {x0 x1 x2 x3 x4 x5 x6 : Value} (h : Own w g t #[x0, x1, x2, x3, x4, x5, x6]) (v0 v1 v2 v3 v4 v5 v6 : Value) : Own (((((((w.setCell ⟨g, 0, none⟩ v0).setCell ⟨g, 1, none⟩ v1).setCell ⟨g, 2, none⟩ v2).setCell ⟨g, 3, none⟩ v3).setCell ⟨g, 4, none⟩ v4).setCell ⟨g, 5, none⟩ v5).setCell ⟨g, 6, none⟩ v6) g t #[v0, v1, v2, v3, v4, v5, v6] := by
  have h7 := ((((((h.set 0 v0).set 1 v1).set 2 v2).set 3 v3).set 4 v4).set 5 v5).set 6 v6
  simp only [List.setIfInBounds_toArray, List.set_cons_zero, List.set_cons_succ] at h7
  exact h7
theorem below7 {B : Nat} {a w : World} {g : Nat} (h : Below B a w) (hg : B ≤ g) (v0 v1 v2 v3 v4 v5 v6 : Value) : Below B a (((((((w.setCell ⟨g, 0, none⟩ v0).setCell ⟨g, 1, none⟩ v1).setCell ⟨g, 2, none⟩ v2).setCell ⟨g, 3, none⟩ v3).setCell ⟨g, 4, none⟩ v4).setCell ⟨g, 5, none⟩ v5).setCell ⟨g, 6, none⟩ v6) :=
  ((((((h.setCell hg v0).setCell hg v1).setCell hg v2).setCell hg v3).setCell hg v4).setCell hg v5).setCell hg v6
theorem chain7 (w : World) (g o : Nat) (v0 v1 v2 v3 v4 v5 v6 : Value) : (((((((w.setCell ⟨g, o, none⟩ v0).setCell ⟨g, o + 1, none⟩ v1).setCell ⟨g, o + 2, none⟩ v2).setCell ⟨g, o + 3, none⟩ v3).setCell ⟨g, o + 4, none⟩ v4).setCell ⟨g, o + 5, none⟩ v5).setCell ⟨g, o + 6, none⟩ v6) = w.setCells g o [v0, v1, v2, v3, v4, v5, v6] := rfl
theorem refuse_plain (w : World) (s : ByteArray) (A : Option Addr) (n c : Nat) (a b kd : Int) (h0 : 0 ≤ kd) (h1 : kd ≤ 2) : Refused w (.agg #[.string s, .slice A n c, .slice none 0 0, .slice none 0 0, .int .i32 a, .int .i32 b, .int .u8 kd]) :=
  ⟨s, A, none, n, c, 0, 0, a, b, kd, rfl, h0, by omega, fun h => by omega⟩
set_option maxRecDepth 100000 in
set_option maxHeartbeats 4000000 in
theorem walk (a0 : ByteArray) (a1 : ByteArray) (A2 : Option Addr) (n2 c2 : Nat) (S2 : Nat → ByteArray) (a3 : Int) (w : World) (w0 : a0.size ≤ maxLen) (w1 : a1.size ≤ maxLen) (hA2 : Mem.Rd w w.heap.size 1 A2 n2 (fun j => .string (S2 j))) (hc2 : c2 ≤ maxLen) (hn2 : n2 ≤ c2) (hz2 : A2 = none → n2 = 0 ∧ c2 = 0) (hS2 : ∀ j, j < n2 → (S2 j).size ≤ maxLen) (w3 : (Lit.int .u8 a3).wf = true) :
    Calls Try.prog 4 #[.string a0, .string a1, .slice A2 n2 c2, .int .u8 a3] w fun e w' => e = .returned (.bool true) ∧ Below w.heap.size w w' := by
  have HA2 := Lib.hid hA2
  have HS2 := Lib.hid hS2
  have hN2 : n2 ≤ maxLen := Nat.le_trans hn2 hc2
  have hb3 := bounds_u8 w3
  obtain ⟨h30, h31⟩ := hb3
  clear hA2 hS2 hz2 w3
  go_enter Try.func4, Try.ntmps4
  go_wp2_with fail
  refine (bytes10 a0 a1 A2 n2 c2 S2 a3 _ w0 w1 HA2.out hN2 HS2.out).mono ?_
  rintro e w' ⟨rfl, rfl⟩
  by_cases ht : a0.size + a1.size + (n2 + tot S2 n2) ≤ 1048576
  · rw [szOk_yes ht]
    clear hN2 hc2 w0 w1
    go_wp2_with fail
    all_goals first | (go_ret; exact ⟨rfl, by go_grown⟩) | skip
    go_loop [9, 10] (fun z i => ∃ k : Nat, k ≤ n2 ∧ i = .int .i64 k ∧ z = .int .i64 ((a0.size + a1.size + 16 * k + tot S2 k : Nat) : Int)) (fun _ i => n2 - (intOf i).toNat)
    case atStart => exact ⟨0, by omega, rfl, vi (by have := tot0 S2; omega)⟩
    case round =>
      obtain ⟨k, hk, rfl, rfl⟩ := hrel
      have hm := tot_mono S2 hk
      by_cases hlt : k < n2
      · obtain ⟨b, off, rfl, hb, hc⟩ := HA2.out (by omega)
        have hck := hc k (by omega)
        clear hc
        have hta := tot_at S2 hlt
        have hts := Lib.hid (totS S2 k)
        go_wp2_with fail
        · go_ret
          exact ⟨rfl, by go_grown⟩
        · go_round
          case rel => exact ⟨k + 1, by omega, by go_num, vi (by have := hts.out; omega)⟩
          case measure => simp [intOf]; omega
      · obtain rfl : n2 = k := by omega
        clear hk hlt hm
        have hN0 := Own.new w 36 z7
        have hcase : a3 % 4 = 0 ∨ a3 % 4 = 1 ∨ a3 % 4 = 2 ∨ a3 % 4 = 3 := by omega
        rcases hcase with h4 | h4 | h4 | h4
        focus
          have t0 : (a3 % 4 == 0) = true := by simp [h4]
          clear h4
          go_wp2_with fail
          refine (newStr a1 1 1 _).mono ?_
          rintro e wn ⟨rfl, bn⟩
          have hN1 := hN0.below bn (by simp)
          have hBn : Below w.heap.size w wn := ((Below.refl _ _).alloc (Nat.le_refl _) _).trans (bn.mono (by simp))
          clear hN0 bn
          have q0 := hN1.cell 0
          have q1 := hN1.cell 1
          have q2 := hN1.cell 2
          have q3 := hN1.cell 3
          have q4 := hN1.cell 4
          have q5 := hN1.cell 5
          have q6 := hN1.cell 6
          have f0 := hN1.frozen 0
          have f1 := hN1.frozen 1
          have f2 := hN1.frozen 2
          have f3 := hN1.frozen 3
          have f4 := hN1.frozen 4
          have f5 := hN1.frozen 5
          have f6 := hN1.frozen 6
          have HN1 := Lib.hid hN1
          clear hN1
          go_upto_region 27 with (fail)
          clear q0 q1 q2 q3 q4 q5 q6 f0 f1 f2 f3 f4 f5 f6
          have HO := Lib.hid (own7 HN1.out (.string a1) (.slice none 0 0) (.slice none 0 0) (.slice none 0 0) (.int .i32 1) (.int .i32 1) (.int .u8 1))
          have HB := Lib.hid (below7 hBn (Nat.le_refl w.heap.size) (.string a1) (.slice none 0 0) (.slice none 0 0) (.slice none 0 0) (.int .i32 1) (.int .i32 1) (.int .u8 1))
          have HRF : Hid (Refused (((((((wn.setCell ⟨w.heap.size, 0, none⟩ (.string a1)).setCell ⟨w.heap.size, 1, none⟩ (.slice none 0 0)).setCell ⟨w.heap.size, 2, none⟩ (.slice none 0 0)).setCell ⟨w.heap.size, 3, none⟩ (.slice none 0 0)).setCell ⟨w.heap.size, 4, none⟩ (.int .i32 1)).setCell ⟨w.heap.size, 5, none⟩ (.int .i32 1)).setCell ⟨w.heap.size, 6, none⟩ (.int .u8 1)) (.agg #[.string a1, .slice none 0 0, .slice none 0 0, .slice none 0 0, .int .i32 1, .int .i32 1, .int .u8 1])) := Lib.hid (refuse_plain _ a1 none 0 0 1 1 1 (by omega) (by omega))
          clear HN1 hBn
          generalize (((((((wn.setCell ⟨w.heap.size, 0, none⟩ (.string a1)).setCell ⟨w.heap.size, 1, none⟩ (.slice none 0 0)).setCell ⟨w.heap.size, 2, none⟩ (.slice none 0 0)).setCell ⟨w.heap.size, 3, none⟩ (.slice none 0 0)).setCell ⟨w.heap.size, 4, none⟩ (.int .i32 1)).setCell ⟨w.heap.size, 5, none⟩ (.int .i32 1)).setCell ⟨w.heap.size, 6, none⟩ (.int .u8 1)) = wX at *
          obtain ⟨rt, hrt⟩ : ∃ rt, rt = (.agg #[.string a1, .slice none 0 0, .slice none 0 0, .slice none 0 0, .int .i32 1, .int .i32 1, .int .u8 1] : Value) := ⟨_, rfl⟩
          obtain ⟨wm1, wm2, r1, r2, bm⟩ := condMap wX
          have hmm := @run_makeMap Try.prog
          have HRF2 := Lib.hid (HRF.out.below bm)
          have ho2 := HO.out.below bm HO.out.lt
          have hBm := HB.out.trans (bm.mono HB.out.size)
          have c0 := ho2.cell 0
          have c1 := ho2.cell 1
          have c2 := ho2.cell 2
          have c3 := ho2.cell 3
          have c4 := ho2.cell 4
          have c5 := ho2.cell 5
          have c6 := ho2.cell 6
          clear ho2 HO HB HRF hrt bm
          unfold dflt at r1
          unfold imprt at r2
          go_wp2_with fail
          refine (exp16 a0 _ _ _ HRF2.out).mono ?_
          rintro e w5 ⟨rfl, b5⟩
          have hBf := hBm.trans (b5.mono hBm.size)
          clear c0 c1 c2 c3 c4 c5 c6 hBm b5 r1 r2 hmm
          go_wp2_with fail
          go_ret
          exact ⟨rfl, hBf.alloc hBf.size _⟩
        rotate_left
        focus
          have t0 : (a3 % 4 == 0) = false := by simp [h4]
          have t1 : (a3 % 4 == 1) = false := by simp [h4]
          have t2 : (a3 % 4 == 2) = true := by simp [h4]
          clear h4
          go_wp2_with fail
          refine (newNull _).mono ?_
          rintro e wn ⟨rfl, bn⟩
          have hN1 := hN0.below bn (by simp)
          have hBn : Below w.heap.size w wn := ((Below.refl _ _).alloc (Nat.le_refl _) _).trans (bn.mono (by simp))
          clear hN0 bn
          have q0 := hN1.cell 0
          have q1 := hN1.cell 1
          have q2 := hN1.cell 2
          have q3 := hN1.cell 3
          have q4 := hN1.cell 4
          have q5 := hN1.cell 5
          have q6 := hN1.cell 6
          have f0 := hN1.frozen 0
          have f1 := hN1.frozen 1
          have f2 := hN1.frozen 2
          have f3 := hN1.frozen 3
          have f4 := hN1.frozen 4
          have f5 := hN1.frozen 5
          have f6 := hN1.frozen 6
          have HN1 := Lib.hid hN1
          clear hN1
          go_upto_region 27 with (fail)
          clear q0 q1 q2 q3 q4 q5 q6 f0 f1 f2 f3 f4 f5 f6
          have HO := Lib.hid (own7 HN1.out (.string ⟨#[]⟩) (.slice none 0 0) (.slice none 0 0) (.slice none 0 0) (.int .i32 0) (.int .i32 0) (.int .u8 0))
          have HB := Lib.hid (below7 hBn (Nat.le_refl w.heap.size) (.string ⟨#[]⟩) (.slice none 0 0) (.slice none 0 0) (.slice none 0 0) (.int .i32 0) (.int .i32 0) (.int .u8 0))
          have HRF : Hid (Refused (((((((wn.setCell ⟨w.heap.size, 0, none⟩ (.string ⟨#[]⟩)).setCell ⟨w.heap.size, 1, none⟩ (.slice none 0 0)).setCell ⟨w.heap.size, 2, none⟩ (.slice none 0 0)).setCell ⟨w.heap.size, 3, none⟩ (.slice none 0 0)).setCell ⟨w.heap.size, 4, none⟩ (.int .i32 0)).setCell ⟨w.heap.size, 5, none⟩ (.int .i32 0)).setCell ⟨w.heap.size, 6, none⟩ (.int .u8 0)) (.agg #[.string ⟨#[]⟩, .slice none 0 0, .slice none 0 0, .slice none 0 0, .int .i32 0, .int .i32 0, .int .u8 0])) := Lib.hid (refuse_plain _ ⟨#[]⟩ none 0 0 0 0 0 (by omega) (by omega))
          clear HN1 hBn
          generalize (((((((wn.setCell ⟨w.heap.size, 0, none⟩ (.string ⟨#[]⟩)).setCell ⟨w.heap.size, 1, none⟩ (.slice none 0 0)).setCell ⟨w.heap.size, 2, none⟩ (.slice none 0 0)).setCell ⟨w.heap.size, 3, none⟩ (.slice none 0 0)).setCell ⟨w.heap.size, 4, none⟩ (.int .i32 0)).setCell ⟨w.heap.size, 5, none⟩ (.int .i32 0)).setCell ⟨w.heap.size, 6, none⟩ (.int .u8 0)) = wX at *
          obtain ⟨rt, hrt⟩ : ∃ rt, rt = (.agg #[.string ⟨#[]⟩, .slice none 0 0, .slice none 0 0, .slice none 0 0, .int .i32 0, .int .i32 0, .int .u8 0] : Value) := ⟨_, rfl⟩
          obtain ⟨wm1, wm2, r1, r2, bm⟩ := condMap wX
          have hmm := @run_makeMap Try.prog
          have HRF2 := Lib.hid (HRF.out.below bm)
          have ho2 := HO.out.below bm HO.out.lt
          have hBm := HB.out.trans (bm.mono HB.out.size)
          have c0 := ho2.cell 0
          have c1 := ho2.cell 1
          have c2 := ho2.cell 2
          have c3 := ho2.cell 3
          have c4 := ho2.cell 4
          have c5 := ho2.cell 5
          have c6 := ho2.cell 6
          clear ho2 HO HB HRF hrt bm
          unfold dflt at r1
          unfold imprt at r2
          go_wp2_with fail
          refine (exp16 a0 _ _ _ HRF2.out).mono ?_
          rintro e w5 ⟨rfl, b5⟩
          have hBf := hBm.trans (b5.mono hBm.size)
          clear c0 c1 c2 c3 c4 c5 c6 hBm b5 r1 r2 hmm
          go_wp2_with fail
          go_ret
          exact ⟨rfl, hBf.alloc hBf.size _⟩
        focus
          have t0 : (a3 % 4 == 0) = false := by simp [h4]
          have t1 : (a3 % 4 == 1) = false := by simp [h4]
          have t2 : (a3 % 4 == 2) = false := by simp [h4]
          clear h4
          go_wp2_with fail
          refine (newStr a1 1 1 _).mono ?_
          rintro e wm ⟨rfl, bm⟩
          go_wp2_with fail
          refine (newEnt dflt a1 1 1 _).mono ?_
          rintro e wl ⟨rfl, bl⟩
          have hBl : Below w.heap.size w wl := (((Below.refl _ _).alloc (Nat.le_refl _) _).trans (bm.mono (by simp))).trans (bl.mono (by have := bm.size; simp at this; omega))
          have hNl := (hN0.below bm (by simp)).below bl (by have := bm.size; simp at this; omega)
          have hzl := hNl.lt
          clear bm bl hN0
          go_wp2_with fail
          refine (Ex.newObj _ _ _ _).mono ?_
          rintro e wn ⟨rfl, bn⟩
          have hN1 := (hNl.alloc _).below bn (by simp; omega)
          have hBn : Below w.heap.size w wn := (hBl.alloc hBl.size _).trans (bn.mono (by simp; omega))
          have hgn : wl.heap.size < wn.heap.size := by have := bn.size; simp at this; omega
          have hcn : wn.cell? ⟨wl.heap.size, 0, none⟩ = some (.string dflt) := by
            rw [bn.cell (p := ⟨wl.heap.size, 0, none⟩) (by simp)]
            exact (Own.new wl _ _).cell 0
          clear bn hBl hNl
          have q0 := hN1.cell 0
          have q1 := hN1.cell 1
          have q2 := hN1.cell 2
          have q3 := hN1.cell 3
          have q4 := hN1.cell 4
          have q5 := hN1.cell 5
          have q6 := hN1.cell 6
          have f0 := hN1.frozen 0
          have f1 := hN1.frozen 1
          have f2 := hN1.frozen 2
          have f3 := hN1.frozen 3
          have f4 := hN1.frozen 4
          have f5 := hN1.frozen 5
          have f6 := hN1.frozen 6
          have HN1 := Lib.hid hN1
          clear hN1
          have HCN := Lib.hid hcn
          clear hcn
          go_upto_region 27 with (fail)
          clear q0 q1 q2 q3 q4 q5 q6 f0 f1 f2 f3 f4 f5 f6
          have HO := Lib.hid (own7 HN1.out (.string ⟨#[]⟩) (.slice none 0 0) (.slice (some ⟨wl.heap.size, 0, none⟩) 1 1) (.slice none 0 0) (.int .i32 0) (.int .i32 0) (.int .u8 3))
          have HB := Lib.hid (below7 hBn (Nat.le_refl w.heap.size) (.string ⟨#[]⟩) (.slice none 0 0) (.slice (some ⟨wl.heap.size, 0, none⟩) 1 1) (.slice none 0 0) (.int .i32 0) (.int .i32 0) (.int .u8 3))
          have HRF : Hid (Refused (((((((wn.setCell ⟨w.heap.size, 0, none⟩ (.string ⟨#[]⟩)).setCell ⟨w.heap.size, 1, none⟩ (.slice none 0 0)).setCell ⟨w.heap.size, 2, none⟩ (.slice (some ⟨wl.heap.size, 0, none⟩) 1 1)).setCell ⟨w.heap.size, 3, none⟩ (.slice none 0 0)).setCell ⟨w.heap.size, 4, none⟩ (.int .i32 0)).setCell ⟨w.heap.size, 5, none⟩ (.int .i32 0)).setCell ⟨w.heap.size, 6, none⟩ (.int .u8 3)) (.agg #[.string ⟨#[]⟩, .slice none 0 0, .slice (some ⟨wl.heap.size, 0, none⟩) 1 1, .slice none 0 0, .int .i32 0, .int .i32 0, .int .u8 3])) := Lib.hid (⟨⟨#[]⟩, none, some ⟨wl.heap.size, 0, none⟩, 0, 0, 1, 1, 0, 0, 3, rfl, by omega, by omega, fun _ => ⟨rfl, wl.heap.size, 0, rfl, by simpa using hgn, by rw [chain7, World.cell?_setCells_out _ _ _ _ _ (fun h _ => by have : wl.heap.size = w.heap.size := h; omega)]; exact HCN.out⟩⟩)
          clear HN1 hBn
          generalize (((((((wn.setCell ⟨w.heap.size, 0, none⟩ (.string ⟨#[]⟩)).setCell ⟨w.heap.size, 1, none⟩ (.slice none 0 0)).setCell ⟨w.heap.size, 2, none⟩ (.slice (some ⟨wl.heap.size, 0, none⟩) 1 1)).setCell ⟨w.heap.size, 3, none⟩ (.slice none 0 0)).setCell ⟨w.heap.size, 4, none⟩ (.int .i32 0)).setCell ⟨w.heap.size, 5, none⟩ (.int .i32 0)).setCell ⟨w.heap.size, 6, none⟩ (.int .u8 3)) = wX at *
          obtain ⟨rt, hrt⟩ : ∃ rt, rt = (.agg #[.string ⟨#[]⟩, .slice none 0 0, .slice (some ⟨wl.heap.size, 0, none⟩) 1 1, .slice none 0 0, .int .i32 0, .int .i32 0, .int .u8 3] : Value) := ⟨_, rfl⟩
          obtain ⟨wm1, wm2, r1, r2, bm⟩ := condMap wX
          have hmm := @run_makeMap Try.prog
          have HRF2 := Lib.hid (HRF.out.below bm)
          have ho2 := HO.out.below bm HO.out.lt
          have hBm := HB.out.trans (bm.mono HB.out.size)
          have c0 := ho2.cell 0
          have c1 := ho2.cell 1
          have c2 := ho2.cell 2
          have c3 := ho2.cell 3
          have c4 := ho2.cell 4
          have c5 := ho2.cell 5
          have c6 := ho2.cell 6
          clear ho2 HO HB HRF hrt bm
          unfold dflt at r1
          unfold imprt at r2
          go_wp2_with fail
          refine (exp16 a0 _ _ _ HRF2.out).mono ?_
          rintro e w5 ⟨rfl, b5⟩
          have hBf := hBm.trans (b5.mono hBm.size)
          clear c0 c1 c2 c3 c4 c5 c6 hBm b5 r1 r2 hmm
          go_wp2_with fail
          go_ret
          exact ⟨rfl, hBf.alloc hBf.size _⟩
        focus
          have t0 : (a3 % 4 == 0) = false := by simp [h4]
          have t1 : (a3 % 4 == 1) = true := by simp [h4]
          have hmk := run_mkc (P := Try.prog) 27 36 _ z7 rfl _ _ Try.underlying27 info36 n2 n2 (Nat.le_refl _) (by omega) (by omega)
          clear h4
          go_wp2_with fail
          clear hmk t0 t1
          go_loopw [13] (fun x wr => ∃ (k : Nat) (cs : Array Value), k ≤ n2 ∧ x = .int .i64 k ∧ Own wr (w.heap.size + 1) 36 cs ∧ cs.size = n2 * 7 ∧ Own wr w.heap.size 36 z7 ∧ Below w.heap.size w wr) (fun x _ => n2 - (intOf x).toNat)
          case atStart =>
            refine ⟨0, madeCells z7 (n2 * 7), by omega, rfl, ?_, size_madeCells _ _, hN0.alloc _, by go_grown⟩
            have := Own.new (w.alloc (.cells z7 36)) 36 (madeCells z7 (n2 * 7))
            rw [World.size_alloc] at this
            exact this
          case round =>
            clear hN0
            obtain ⟨k, cs, hk, rfl, ho, hsz, ho0, hb⟩ := hrel
            have HSZ := Lib.hid hsz
            have hlo := ho.lt
            clear hsz
            by_cases hlt : k < n2
            · obtain ⟨b, off, rfl, hbb, hc⟩ := HA2.out (by omega)
              have hck := (hb.cell (p := ⟨b, off + k, none⟩) hbb).trans (hc k (by omega))
              clear hc
              go_wp2_with fail
              refine (newStr _ _ _ _).mono ?_
              rintro e w1 ⟨rfl, b1⟩
              have ho1 := ho.below b1 hlo
              have ho01 := ho0.below b1 (by omega)
              have hb1 := hb.trans (b1.mono hb.size)
              obtain ⟨x0, x1, x2, x3, x4, x5, x6, p0, p1, p2, p3, p4, p5, p6, g0, g1, g2, g3, g4, g5, g6⟩ := seven (Own.there ho1 (k * 7) 7 (by have := HSZ.out; omega))
              have H1 := Lib.hid ho1
              have H2 := Lib.hid ho01
              have H3 := Lib.hid hb1
              clear ho ho0 hb ho1 ho01 hb1 b1 hck
              go_wp2_with fail
              rw [chain7]
              exact ⟨⟨k + 1, _, by omega, by go_num, Own.setCells _ _ _ _ H1.out, by rw [putL_size]; exact HSZ.out, Own.farCells (by omega) _ _ _ H2.out, below_setCells _ (by omega) _ _ _ H3.out⟩, by simp [intOf]; omega⟩
            · go_wp2_with fail
              refine (newArr _ _ _ _).mono ?_
              rintro e wn ⟨rfl, bn⟩
              have hN1 := ho0.below bn (by omega)
              have hBn := hb.trans (bn.mono hb.size)
              clear ho ho0 hb bn
              have q0 := hN1.cell 0
              have q1 := hN1.cell 1
              have q2 := hN1.cell 2
              have q3 := hN1.cell 3
              have q4 := hN1.cell 4
              have q5 := hN1.cell 5
              have q6 := hN1.cell 6
              have f0 := hN1.frozen 0
              have f1 := hN1.frozen 1
              have f2 := hN1.frozen 2
              have f3 := hN1.frozen 3
              have f4 := hN1.frozen 4
              have f5 := hN1.frozen 5
              have f6 := hN1.frozen 6
              have HN1 := Lib.hid hN1
              clear hN1
              go_upto_region 27 with (fail)
              clear q0 q1 q2 q3 q4 q5 q6 f0 f1 f2 f3 f4 f5 f6
              have HO := Lib.hid (own7 HN1.out (.string ⟨#[]⟩) (.slice (some ⟨w.heap.size + 1, 0, none⟩) n2 n2) (.slice none 0 0) (.slice none 0 0) (.int .i32 0) (.int .i32 0) (.int .u8 2))
              have HB := Lib.hid (below7 hBn (Nat.le_refl w.heap.size) (.string ⟨#[]⟩) (.slice (some ⟨w.heap.size + 1, 0, none⟩) n2 n2) (.slice none 0 0) (.slice none 0 0) (.int .i32 0) (.int .i32 0) (.int .u8 2))
              have HRF : Hid (Refused (((((((wn.setCell ⟨w.heap.size, 0, none⟩ (.string ⟨#[]⟩)).setCell ⟨w.heap.size, 1, none⟩ (.slice (some ⟨w.heap.size + 1, 0, none⟩) n2 n2)).setCell ⟨w.heap.size, 2, none⟩ (.slice none 0 0)).setCell ⟨w.heap.size, 3, none⟩ (.slice none 0 0)).setCell ⟨w.heap.size, 4, none⟩ (.int .i32 0)).setCell ⟨w.heap.size, 5, none⟩ (.int .i32 0)).setCell ⟨w.heap.size, 6, none⟩ (.int .u8 2)) (.agg #[.string ⟨#[]⟩, .slice (some ⟨w.heap.size + 1, 0, none⟩) n2 n2, .slice none 0 0, .slice none 0 0, .int .i32 0, .int .i32 0, .int .u8 2])) := Lib.hid (refuse_plain _ ⟨#[]⟩ (some ⟨w.heap.size + 1, 0, none⟩) n2 n2 0 0 2 (by omega) (by omega))
              clear HN1 hBn
              generalize (((((((wn.setCell ⟨w.heap.size, 0, none⟩ (.string ⟨#[]⟩)).setCell ⟨w.heap.size, 1, none⟩ (.slice (some ⟨w.heap.size + 1, 0, none⟩) n2 n2)).setCell ⟨w.heap.size, 2, none⟩ (.slice none 0 0)).setCell ⟨w.heap.size, 3, none⟩ (.slice none 0 0)).setCell ⟨w.heap.size, 4, none⟩ (.int .i32 0)).setCell ⟨w.heap.size, 5, none⟩ (.int .i32 0)).setCell ⟨w.heap.size, 6, none⟩ (.int .u8 2)) = wX at *
              obtain ⟨rt, hrt⟩ : ∃ rt, rt = (.agg #[.string ⟨#[]⟩, .slice (some ⟨w.heap.size + 1, 0, none⟩) n2 n2, .slice none 0 0, .slice none 0 0, .int .i32 0, .int .i32 0, .int .u8 2] : Value) := ⟨_, rfl⟩
              obtain ⟨wm1, wm2, r1, r2, bm⟩ := condMap wX
              have hmm := @run_makeMap Try.prog
              have HRF2 := Lib.hid (HRF.out.below bm)
              have ho2 := HO.out.below bm HO.out.lt
              have hBm := HB.out.trans (bm.mono HB.out.size)
              have c0 := ho2.cell 0
              have c1 := ho2.cell 1
              have c2 := ho2.cell 2
              have c3 := ho2.cell 3
              have c4 := ho2.cell 4
              have c5 := ho2.cell 5
              have c6 := ho2.cell 6
              clear ho2 HO HB HRF hrt bm
              unfold dflt at r1
              unfold imprt at r2
              go_wp2_with fail
              refine (exp16 a0 _ _ _ HRF2.out).mono ?_
              rintro e w5 ⟨rfl, b5⟩
              have hBf := hBm.trans (b5.mono hBm.size)
              clear c0 c1 c2 c3 c4 c5 c6 hBm b5 r1 r2 hmm
              go_wp2_with fail
              go_ret
              exact ⟨rfl, hBf.alloc hBf.size _⟩
  · rw [szOk_no ht]
    go_wp2_with fail
    go_ret
    exact ⟨rfl, by go_grown⟩

set_option maxRecDepth 100000 in
theorem lifted (os : Os) (started : os.Started) (H : Type) (enc : TypeId × Value → H) :
    ReturnsInHanded {} Try.checked os 4 .any (Rows.fnExportsReverseRefusesNonSubpathRootsSpec.pre6 enc Try.prog Try.f4 Rows.fnExportsReverseRefusesNonSubpathRootsRow.domain false) (Rows.fnExportsReverseRefusesNonSubpathRootsSpec.post enc Try.prog Try.f4 false true false false) := by
  refine returnsInHanded_of_change (C := Try.checked) own started (by kernel_rfl) Try.func4
    (ChangeSpec.witness6 (enc := enc) (C := Try.checked) false ⟨#[], #[.string ⟨#[]⟩, .string ⟨#[]⟩, .slice none 0 0, .int .u8 0], []⟩ 8 (by kernel_rfl) (by kernel_rfl) (by kernel_rfl) (by kernel_rfl)) ?_
  intro W base args ds gs before hval0 hW hcnd _
  have hval : ∀ (j : Nat) t v, Try.f4.params[j]? = some t → args[j]? = some v → Value.okWide Try.prog W .any base t v := hval0
  have hW' := hW
  obtain ⟨p, q, hA0, hV, rfl, hfz, hnd⟩ := hW
  have hA : DataW.TrodAll enc Try.prog W 0 (fun _ => true) true Try.f4.params.toList args.toList ds p := hA0
  rw [Try.params4] at hA hval
  obtain ⟨v0, vs0, d0, ds0, p0, q0, hargs0, rfl, rfl, h0, r0⟩ := trodAll_cons hA
  obtain ⟨v1, vs1, d1, ds1, p1, q1, hargs1, rfl, rfl, h1, r1⟩ := trodAll_cons r0
  obtain ⟨v2, vs2, d2, ds2, p2, q2, hargs2, rfl, rfl, h2, r2⟩ := trodAll_cons r1
  obtain ⟨v3, vs3, d3, ds3, p3, q3, hargs3, rfl, rfl, h3, r3⟩ := trodAll_cons r2
  obtain ⟨rfl, rfl, rfl⟩ := trodAll_nil r3
  obtain rfl : args = #[v0, v1, v2, v3] := by cases args; simp_all
  obtain ⟨a0, rfl, rfl, rfl, w0⟩ := Go.ChangeMaps.open_string Try.underlying9 (hval 0 9 v0 rfl rfl) h0
  obtain ⟨a1, rfl, rfl, rfl, w1⟩ := Go.ChangeMaps.open_string Try.underlying9 (hval 1 9 v1 rfl rfl) h1
  obtain ⟨A2, n2, c2, S2, rfl, hn2, hc2, hz2, hA2, hS2⟩ := Mem.open_strings Try.underlying25 Try.underlying9 (by kernel_rfl) (hval 2 25 v2 rfl rfl) h2
  obtain ⟨a3, rfl, rfl, rfl, w3⟩ := open_int Try.underlying5 (hval 3 5 v3 rfl rfl) h3
  clear hA0 hval0
  refine (walk a0 a1 A2 n2 c2 S2 a3 W w0 w1 hA2 hc2 hn2 hz2 hS2 w3).mono fun e W' ⟨he, hg⟩ => ?_
  subst he
  exact ⟨_, rfl, law_post laid readEach rfl rfl Try.underlying4 ⟨rfl, rfl, rfl⟩ hW' hg⟩

theorem over : Rows.fnExportsReverseRefusesNonSubpathRootsRow.holds Try.pinned (OpenSpec.ofChange Rows.fnExportsReverseRefusesNonSubpathRootsSpec) :=
  OpenClaim.holds_of_wide 4 Try.f4 rfl rfl rfl rfl rfl rfl rfl ⟨rfl, rfl, rfl, rfl, rfl⟩ rfl rfl rfl rfl rfl (by kernel_rfl) Try.func4 (by kernel_rfl)
    (of_decide_eq_true (by kernel_rfl)) (by unfold Func.isWrapper; first | (rw [if_pos (by decide +kernel)]; kernel_rfl) | (rw [if_neg (by decide +kernel)]; exact ⟨rfl, rfl⟩))
    (fun os started H enc _ => lifted os started H enc)

/-- The statement. -/
theorem proved : Rows.FnExportsReverseRefusesNonSubpathRootsSaid :=
  over
#print axioms proved
end Go.Proofs.Ytjfegbkbhbhcoaa.fnExportsReverseRefusesNonSubpathRoots
