/-
  Proved: the law FnFindInvalidSegmentFirstSegmentIrrelevantAndFindsStay of folder n011_278 returns true for every argument that its parameter types allow, and leaves its arguments as they were; there is no further condition.
-/
import Derived.Test.YtjfegbkbhbhcoaaRows
import Derived.WalkKit
import Derived.ProofKit
import Derived.OpenShut
import Derived.Below
import Derived.Carry
import Derived.ChangeMaps5
import Derived.Handy
import Derived.Lib.Hide
import Derived.WalkSpells
import Derived.OwnWalk
import Derived.Test.YtjfegbkbhbhcoaaFs
import Derived.Test.YtjfegbkbhbhcoaaSz
namespace Go.Proofs.Ytjfegbkbhbhcoaa.fnFindInvalidSegmentFirstSegmentIrrelevantAndFindsStay
open Go.ChangeShapes Go.WideShapes Go.ChangeAt Go.RowKit
set_option linter.unusedVariables false

theorem own : ownKnob Try.prog.godebug = none := by kernel_rfl
theorem laid : laidOutB Try.prog = true := by kernel_rfl
theorem readAll : (Try.f3.params.toList.all fun t => Try.prog.readableRec t && decide (t < Try.prog.types.size)) = true := by kernel_rfl
theorem readEach : ∀ t ∈ Try.f3.params.toList, Try.prog.readableRec t = true ∧ t < Try.prog.types.size := fun t ht => by
  have := List.all_eq_true.1 readAll t ht
  simpa using this
section
variable {H : Type} {enc : TypeId × Value → H} {P : Program}
theorem trodAll_stays (hl : laidOutB P = true) {W W' : World} (hb : Below W.heap.size W W') {sp : Nat → Bool} : ∀ {ts : List TypeId} {vs : List Value} {ds : List (DataW H)} {ps : List MemPlace},
    (∀ t ∈ ts, P.readableRec t = true ∧ t < P.types.size) → DataW.TrodAll enc P W 0 (fun _ => true) true ts vs ds ps → (∀ p ∈ ps, p.block < W.heap.size) → (∀ p ∈ ps, sp p.block = true) → DataW.TrodAll enc P W' 0 sp true ts vs ds ps
  | [], [], [], _, _, h, _, _ => h
  | _ :: _, _ :: _, _ :: _, _, hT, ⟨p, q, h1, h2, e⟩, hlt, hs =>
    ⟨p, q, WideElems.Trod_stays hl (hT _ (List.mem_cons.2 (Or.inl rfl))).1 (hT _ (List.mem_cons.2 (Or.inl rfl))).2 h1 (fun x hx => hb.same (hlt x (by rw [e]; exact List.mem_append_left _ hx))) (fun x hx => hs x (by rw [e]; exact List.mem_append_left _ hx)),
      trodAll_stays hl hb (fun t ht => hT t (List.mem_cons.2 (Or.inr ht))) h2 (fun x hx => hlt x (by rw [e]; exact List.mem_append_right _ hx)) (fun x hx => hs x (by rw [e]; exact List.mem_append_right _ hx)), e⟩

/-- A law's step: the result is true, the arguments are kept, the world has changed in new blocks alone. -/
theorem law_post {f : Func} {s : ChangeSpec} {apart fresh handsOn again : Bool} {W W' : World} {args : Array Value} {ds gs : List (DataW H)} {before : List MemPlace} {tb : TypeId}
    (hl : laidOutB P = true) (hps : ∀ t ∈ f.params.toList, P.readableRec t = true ∧ t < P.types.size) (hv : s.vars = []) (hr : f.resultTypes = #[tb]) (ht : P.underlying tb = some .bool)
    (hs : (s.fn H (ds ++ [])).results = [.lit (.bool true)] ∧ (s.fn H (ds ++ [])).args = ds ∧ (s.fn H (ds ++ [])).vars = [])
    (hW : DataW.Whole enc P f.params.toList s.vars apart W args.toList ds gs before) (hb : Below W.heap.size W W') :
    s.post enc P f apart fresh handsOn again W args (.bool true) W' := by
  have hlt : ∀ p ∈ before, p.block < W.heap.size := fun p hp => hW.lt p hp
  have hold : ∀ p ∈ before, (fun b => decide (b < W.heap.size)) p.block = true := fun p hp => by simpa using hlt p hp
  have hW0 := hW
  obtain ⟨pa, pv, hA, hV, rfl, hz, hn⟩ := hW
  rw [hv] at hV
  obtain ⟨rfl, rfl⟩ := trodVars_none hV
  have hres : ∀ (b : Nat) (sp : Nat → Bool) (hd : Bool), DataW.TrodAll enc P W' b sp hd f.resultTypes.toList ((Value.bool true).resultList f.resultTypes.size) (s.fn H (ds ++ [])).results [] := fun b sp hd => by
    rw [hs.1, hr]; exact trodAll_cons_mk (shut_bool ht _) trodAll_mk0
  have hargs : ∀ sp : Nat → Bool, (∀ p ∈ pa ++ [], sp p.block = true) → DataW.TrodAll enc P W' 0 sp true f.params.toList args.toList (s.fn H (ds ++ [])).args pa := fun sp hsp => by
    rw [hs.2.1]; exact trodAll_stays hl hb hps hA (fun p hp => hlt p (by simpa using hp)) (fun p hp => hsp p (by simpa using hp))
  have hvars : ∀ sp : Nat → Bool, DataW.TrodVars enc P W' sp s.vars (s.fn H (ds ++ [])).vars [] := fun sp => by rw [hv, hs.2.2]; rfl
  refine ⟨ds, [], pa ++ [], [], pa, [], hW0, hres _ _ _, hargs _ hold, hvars _, World.keptBut_mono (fun p hp => ⟨hp, Or.inr (List.mem_append.1 hp)⟩) (hb.frame (· ∈ pa ++ [])), fun _ => ?_⟩
  refine ⟨?_, _, _, ([] ++ pa) ++ [], ⟨[] ++ pa, [], trodAll_append (hargs _ (fun _ _ => rfl)) (hres _ _ _), hvars _, rfl, ?_, ?_⟩, ?_⟩
  · intro j t r h1 h2
    rw [hr] at h1 h2
    match j, h1, h2 with
    | 0, h1, h2 =>
      obtain rfl : tb = t := by simpa using h1
      obtain rfl : Value.bool true = r := by simpa [Value.resultList] using h2
      exact okWide_bool_mk ht _
    | j + 1, h1, _ => simp at h1
  · intro b off hp
    have hp' : MemPlace.cell b off ∈ pa ++ [] := by simpa using hp
    rw [hb.frozen (hlt _ hp')]
    exact hz b off hp'
  · intro ha
    simpa using hn ha
  · intro p hp _
    simpa using hp
end

open Go.PlainAid Str Sz Fi Fz Fs
set_option maxRecDepth 100000 in
set_option maxHeartbeats 4000000 in
theorem walk (a0 : ByteArray) (a1 : ByteArray) (a2 : ByteArray) (a3 : Bool) (w : World) (w0 : a0.size ≤ maxLen) (w1 : a1.size ≤ maxLen) (w2 : a2.size ≤ maxLen) :
    Calls Try.prog 3 #[.string a0, .string a1, .string a2, .bool a3] w fun e w' => e = .returned (.bool true) ∧ Below w.heap.size w w' := by
  go_enter Try.func3, Try.ntmps3
  go_wp2_with fail
  refine (bytes6 a0 a1 a2 a3 _ w0 w1 w2).mono ?_
  rintro e w' ⟨rfl, rfl⟩
  by_cases ht : a0.size + a1.size + a2.size ≤ 1048576
  · rw [szOk_yes ht]
    clear w0 w1 w2
    go_wp2_with fail
    refine (hasSep7 a0 (by omega) _).mono ?_
    rintro e w1 ⟨hs, rfl⟩
    rcases hs with ⟨hno, rfl⟩ | rfl
    rotate_left
    · go_wp2_with fail
      go_ret
      exact ⟨rfl, by go_grown⟩
    have HNO := Lib.hid hno
    clear hno
    cases a3
    focus
      go_wp2_with fail
      have HSP : Hid (bl (⟨#[47]⟩ : ByteArray) = [(47 : UInt8)] ∧ isSep 47 = true ∧ (⟨#[47]⟩ : ByteArray).size = 1) := Lib.hid ⟨rfl, rfl, rfl⟩
      generalize (⟨#[47]⟩ : ByteArray) = sp at *
      generalize (47 : UInt8) = c at *
    rotate_left
    focus
      go_wp2_with fail
      have HSP : Hid (bl (⟨#[92]⟩ : ByteArray) = [(92 : UInt8)] ∧ isSep 92 = true ∧ (⟨#[92]⟩ : ByteArray).size = 1) := Lib.hid ⟨rfl, rfl, rfl⟩
      generalize (⟨#[92]⟩ : ByteArray) = sp at *
      generalize (92 : UInt8) = c at *
    all_goals
      have hlc : bl sp = [c] ∧ isSep c = true ∧ sp.size = 1 := HSP.out
      have hcat : ∀ x y : ByteArray, bl (x ++ y) = bl x ++ bl y := fun x y => append_list x y
      have HA : Hid (ofL (fis (bl ((a0 ++ sp) ++ a1))) = ofL (fb [] (bl a1))) := Lib.hid (by
        rw [hcat, hcat, hlc.1, List.append_assoc, List.singleton_append, fis_seg (bl a0) HNO.out c hlc.2.1])
      have HB : Hid (ofL (fis (bl (sp ++ a1))) = ofL (fb [] (bl a1))) := Lib.hid (by
        rw [hcat, hlc.1, List.singleton_append, ← List.nil_append (c :: bl a1), fis_seg [] (by simp) c hlc.2.1])
      have HC : Hid (fb [] (bl a1) ≠ [] → ofL (fis (bl ((((a0 ++ sp) ++ a1) ++ sp) ++ a2))) = ofL (fb [] (bl a1))) := Lib.hid (fun hne => by
        rw [hcat, hcat, hcat, hcat, hlc.1]
        rw [show bl a0 ++ [c] ++ bl a1 ++ [c] ++ bl a2 = bl a0 ++ c :: (bl a1 ++ c :: bl a2) by simp]
        rw [fis_seg (bl a0) HNO.out c hlc.2.1, fb_stays (bl a1) c hlc.2.1 (bl a2) [] hne])
      have s1 : (a0 ++ sp ++ a1).size ≤ 4000000 := by rw [size_append, size_append, hlc.2.2]; omega
      have s2 : (sp ++ a1).size ≤ 4000000 := by rw [size_append, hlc.2.2]; omega
      have s3 : (a0 ++ sp ++ a1 ++ sp ++ a2).size ≤ 4000000 := by rw [size_append, size_append, size_append, size_append, hlc.2.2]; omega
      have z1 : sp.size ≤ 1 := by rw [hlc.2.2]; omega
      clear hlc hcat
      refine (find8 _ s1 _).mono ?_
      rintro e w2 ⟨rfl, b2⟩
      rw [HA.out]
      go_wp2_with fail
      refine (find8 _ s2 _).mono ?_
      rintro e w3 ⟨rfl, b3⟩
      rw [HB.out]
      have b23 := b2.trans (b3.mono b2.size)
      have hz23 := b23.size
      clear b2 b3
      have HR := Lib.hid (fb_bad (bl a1) [])
      generalize fb [] (bl a1) = R at *
      have te : ((ofL R).toList == (ofL R).toList) = true := by simp
      by_cases hR : R = []
      · have e1 : (ofL R).toList.isEmpty = true := by rw [bl_toList, bl_ofL, hR]; rfl
        have e2 : (ofL R).toList = [] := by rw [bl_toList, bl_ofL, hR]
        clear hR
        go_wp2_with fail
        go_ret
        exact ⟨rfl, b23⟩
      · have e1 : (ofL R).toList.isEmpty = false := by
          rw [bl_toList, bl_ofL]
          cases R with
          | nil => exact absurd rfl hR
          | cons x r => rfl
        have hbad : badB (ofL R) = true := by
          rcases HR.out with h | h
          · exact absurd h hR
          · exact h
        have HBD := Lib.hid hbad
        have HC' := Lib.hid (HC.out hR)
        clear hR hbad
        go_wp2_with fail
        refine (bad9 (ofL R) _).mono ?_
        rintro e w4 ⟨rfl, rfl⟩
        rw [HBD.out]
        go_wp2_with fail
        refine (find8 _ s3 _).mono ?_
        rintro e w5 ⟨rfl, b5⟩
        rw [HC'.out]
        go_wp2_with fail
        go_ret
        exact ⟨rfl, b23.trans (b5.mono hz23)⟩
  · rw [szOk_no ht]
    go_wp2_with fail
    go_ret
    exact ⟨rfl, by go_grown⟩

set_option maxRecDepth 100000 in
theorem lifted (os : Os) (started : os.Started) (H : Type) (enc : TypeId × Value → H) :
    ReturnsInHanded {} Try.checked os 3 .any (Rows.fnFindInvalidSegmentFirstSegmentIrrelevantAndFindsStaySpec.pre6 enc Try.prog Try.f3 Rows.fnFindInvalidSegmentFirstSegmentIrrelevantAndFindsStayRow.domain false) (Rows.fnFindInvalidSegmentFirstSegmentIrrelevantAndFindsStaySpec.post enc Try.prog Try.f3 false true false false) := by
  refine returnsInHanded_of_change (C := Try.checked) own started (by kernel_rfl) Try.func3
    (ChangeSpec.witness6 (enc := enc) (C := Try.checked) false ⟨#[], #[.string ⟨#[]⟩, .string ⟨#[]⟩, .string ⟨#[]⟩, .bool false], []⟩ 8 (by kernel_rfl) (by kernel_rfl) (by kernel_rfl) (by kernel_rfl)) ?_
  intro W base args ds gs before hval0 hW hcnd _
  have hval : ∀ (j : Nat) t v, Try.f3.params[j]? = some t → args[j]? = some v → Value.okWide Try.prog W .any base t v := hval0
  have hW' := hW
  obtain ⟨p, q, hA0, hV, rfl, hfz, hnd⟩ := hW
  have hA : DataW.TrodAll enc Try.prog W 0 (fun _ => true) true Try.f3.params.toList args.toList ds p := hA0
  rw [Try.params3] at hA hval
  obtain ⟨v0, vs0, d0, ds0, p0, q0, hargs0, rfl, rfl, h0, r0⟩ := trodAll_cons hA
  obtain ⟨v1, vs1, d1, ds1, p1, q1, hargs1, rfl, rfl, h1, r1⟩ := trodAll_cons r0
  obtain ⟨v2, vs2, d2, ds2, p2, q2, hargs2, rfl, rfl, h2, r2⟩ := trodAll_cons r1
  obtain ⟨v3, vs3, d3, ds3, p3, q3, hargs3, rfl, rfl, h3, r3⟩ := trodAll_cons r2
  obtain ⟨rfl, rfl, rfl⟩ := trodAll_nil r3
  obtain rfl : args = #[v0, v1, v2, v3] := by cases args; simp_all
  obtain ⟨a0, rfl, rfl, rfl, w0⟩ := Go.ChangeMaps.open_string Try.underlying9 (hval 0 9 v0 rfl rfl) h0
  obtain ⟨a1, rfl, rfl, rfl, w1⟩ := Go.ChangeMaps.open_string Try.underlying9 (hval 1 9 v1 rfl rfl) h1
  obtain ⟨a2, rfl, rfl, rfl, w2⟩ := Go.ChangeMaps.open_string Try.underlying9 (hval 2 9 v2 rfl rfl) h2
  obtain ⟨a3, rfl, rfl, rfl⟩ := open_bool Try.underlying4 (hval 3 4 v3 rfl rfl) h3
  clear hA0 hval0
  refine (walk a0 a1 a2 a3 W w0 w1 w2).mono fun e W' ⟨he, hg⟩ => ?_
  subst he
  exact ⟨_, rfl, law_post laid readEach rfl rfl Try.underlying4 ⟨rfl, rfl, rfl⟩ hW' hg⟩

theorem over : Rows.fnFindInvalidSegmentFirstSegmentIrrelevantAndFindsStayRow.holds Try.pinned (OpenSpec.ofChange Rows.fnFindInvalidSegmentFirstSegmentIrrelevantAndFindsStaySpec) :=
  OpenClaim.holds_of_wide 3 Try.f3 rfl rfl rfl rfl rfl rfl rfl ⟨rfl, rfl, rfl, rfl, rfl⟩ rfl rfl rfl rfl rfl (by kernel_rfl) Try.func3 (by kernel_rfl)
    (of_decide_eq_true (by kernel_rfl)) (by unfold Func.isWrapper; first | (rw [if_pos (by decide +kernel)]; kernel_rfl) | (rw [if_neg (by decide +kernel)]; exact ⟨rfl, rfl⟩))
    (fun os started H enc _ => lifted os started H enc)

/-- The statement. -/
theorem proved : Rows.FnFindInvalidSegmentFirstSegmentIrrelevantAndFindsStaySaid :=
  over
#print axioms proved
end Go.Proofs.Ytjfegbkbhbhcoaa.fnFindInvalidSegmentFirstSegmentIrrelevantAndFindsStay
