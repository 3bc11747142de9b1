/-
  Proved: the tied card of the law FnConsumeEscapeAgreesWithTokenDecoder of folder n011_170: it returns true for every argument that its parameter types allow, wherever unicode/utf8's two tables hold what their initialisers lay, and leaves its arguments as they were; there is no further condition.
-/
import Derived.Test.YtcljenkgbbbfpaaDoorCards
import Derived.Test.YtcljenkgbbbfpaaDoorTie
import Derived.Test.YtcljenkgbbbfpaaDoorShelf
import Derived.WalkKit
import Derived.ProofKit
import Derived.OpenShut
import Derived.Below
import Derived.Carry
import Derived.ChangeMaps5
import Derived.Deep.DeepHandedRow
import Derived.Lib.LaidTab
import Derived.Lib.LaidU8
import Derived.PinnedBridge
import Derived.Handy
import Derived.Lib.Hide
import Derived.WalkSpells
import Derived.OwnWalk
import Derived.Test.YtcljenkgbbbfpaaDoorDz
import Derived.Test.YtcljenkgbbbfpaaDoorCs
import Derived.Test.YtcljenkgbbbfpaaDoorEc
import Derived.Test.YtcljenkgbbbfpaaDoorHp
import Derived.Test.YtcljenkgbbbfpaaDoorSz
namespace Go.Proofs.YtcljenkgbbbfpaaDoor.fnConsumeEscapeAgreesWithTokenDecoder
open Go.ChangeShapes Go.WideShapes Go.ChangeAt Go.RowKit
set_option linter.unusedVariables false

theorem own : ownKnob Tryd.prog.godebug = none := by kernel_rfl
theorem laid : laidOutB Tryd.prog = true := by kernel_rfl
theorem readAll : (Tryd.f3.params.toList.all fun t => Tryd.prog.readableRec t && decide (t < Tryd.prog.types.size)) = true := by kernel_rfl
theorem readEach : ∀ t ∈ Tryd.f3.params.toList, Tryd.prog.readableRec t = true ∧ t < Tryd.prog.types.size := fun t ht => by
  have := List.all_eq_true.1 readAll t ht
  simpa using this
theorem extra : U8Extra Tryd.prog Tryd.lays260_ren := ⟨by kernel_rfl, by kernel_rfl, by kernel_rfl, by kernel_rfl, by kernel_rfl, by kernel_rfl, by kernel_rfl⟩
theorem accept_eq : (Rows.laid_unicode_utf8_acceptRanges : DataW Unit) = Lib.acceptData := by kernel_rfl
/-- What the row's list gives: the two tables. -/
theorem tabs {W : World} (h : laidMetH Tryd.prog Rows.fnConsumeEscapeAgreesWithTokenDecoderRow.laid W) : Lib.Utf8Tabs 1 2 W :=
  utf8Tabs_of_reads Tryd.lays260 extra
    (Lib.laidMet.reads h (by rw [← Pinned.utf8First_eq]; exact List.mem_cons.2 (Or.inr (List.mem_cons.2 (Or.inl rfl)))))
    (Lib.laidMet.reads h (by rw [← accept_eq]; exact List.mem_cons.2 (Or.inl rfl)))
section
variable {H : Type} {enc : TypeId × Value → H} {P : Program}
theorem trodAll_stays (hl : laidOutB P = true) {W W' : World} (hb : Below W.heap.size W W') {sp : Nat → Bool} : ∀ {ts : List TypeId} {vs : List Value} {ds : List (DataW H)} {ps : List MemPlace},
    (∀ t ∈ ts, P.readableRec t = true ∧ t < P.types.size) → DataW.TrodAll enc P W 0 (fun _ => true) true ts vs ds ps → (∀ p ∈ ps, p.block < W.heap.size) → (∀ p ∈ ps, sp p.block = true) → DataW.TrodAll enc P W' 0 sp true ts vs ds ps
  | [], [], [], _, _, h, _, _ => h
  | _ :: _, _ :: _, _ :: _, _, hT, ⟨p, q, h1, h2, e⟩, hlt, hs =>
    ⟨p, q, WideElems.Trod_stays hl (hT _ (List.mem_cons.2 (Or.inl rfl))).1 (hT _ (List.mem_cons.2 (Or.inl rfl))).2 h1 (fun x hx => hb.same (hlt x (by rw [e]; exact List.mem_append_left _ hx))) (fun x hx => hs x (by rw [e]; exact List.mem_append_left _ hx)),
      trodAll_stays hl hb (fun t ht => hT t (List.mem_cons.2 (Or.inr ht))) h2 (fun x hx => hlt x (by rw [e]; exact List.mem_append_right _ hx)) (fun x hx => hs x (by rw [e]; exact List.mem_append_right _ hx)), e⟩

/-- A law's step: the result is true, the arguments are kept, the world has changed in new blocks alone. -/
theorem law_post {f : Func} {s : ChangeSpec} {apart fresh handsOn again : Bool} {W W' : World} {args : Array Value} {ds gs : List (DataW H)} {before : List MemPlace} {tb : TypeId}
    (hl : laidOutB P = true) (hps : ∀ t ∈ f.params.toList, P.readableRec t = true ∧ t < P.types.size) (hv : s.vars = []) (hr : f.resultTypes = #[tb]) (ht : P.underlying tb = some .bool)
    (hs : (s.fn H (ds ++ [])).results = [.lit (.bool true)] ∧ (s.fn H (ds ++ [])).args = ds ∧ (s.fn H (ds ++ [])).vars = [])
    (hW : DataW.Whole enc P f.params.toList s.vars apart W args.toList ds gs before) (hb : Below W.heap.size W W') :
    s.post enc P f apart fresh handsOn again W args (.bool true) W' := by
  have hlt : ∀ p ∈ before, p.block < W.heap.size := fun p hp => hW.lt p hp
  have hold : ∀ p ∈ before, (fun b => decide (b < W.heap.size)) p.block = true := fun p hp => by simpa using hlt p hp
  have hW0 := hW
  obtain ⟨pa, pv, hA, hV, rfl, hz, hn⟩ := hW
  rw [hv] at hV
  obtain ⟨rfl, rfl⟩ := trodVars_none hV
  have hres : ∀ (b : Nat) (sp : Nat → Bool) (hd : Bool), DataW.TrodAll enc P W' b sp hd f.resultTypes.toList ((Value.bool true).resultList f.resultTypes.size) (s.fn H (ds ++ [])).results [] := fun b sp hd => by
    rw [hs.1, hr]; exact trodAll_cons_mk (shut_bool ht _) trodAll_mk0
  have hargs : ∀ sp : Nat → Bool, (∀ p ∈ pa ++ [], sp p.block = true) → DataW.TrodAll enc P W' 0 sp true f.params.toList args.toList (s.fn H (ds ++ [])).args pa := fun sp hsp => by
    rw [hs.2.1]; exact trodAll_stays hl hb hps hA (fun p hp => hlt p (by simpa using hp)) (fun p hp => hsp p (by simpa using hp))
  have hvars : ∀ sp : Nat → Bool, DataW.TrodVars enc P W' sp s.vars (s.fn H (ds ++ [])).vars [] := fun sp => by rw [hv, hs.2.2]; rfl
  refine ⟨ds, [], pa ++ [], [], pa, [], hW0, hres _ _ _, hargs _ hold, hvars _, World.keptBut_mono (fun p hp => ⟨hp, Or.inr (List.mem_append.1 hp)⟩) (hb.frame (· ∈ pa ++ [])), fun _ => ?_⟩
  refine ⟨?_, _, _, ([] ++ pa) ++ [], ⟨[] ++ pa, [], trodAll_append (hargs _ (fun _ _ => rfl)) (hres _ _ _), hvars _, rfl, ?_, ?_⟩, ?_⟩
  · intro j t r h1 h2
    rw [hr] at h1 h2
    match j, h1, h2 with
    | 0, h1, h2 =>
      obtain rfl : tb = t := by simpa using h1
      obtain rfl : Value.bool true = r := by simpa [Value.resultList] using h2
      exact okWide_bool_mk ht _
    | j + 1, h1, _ => simp at h1
  · intro b off hp
    have hp' : MemPlace.cell b off ∈ pa ++ [] := by simpa using hp
    rw [hb.frozen (hlt _ hp')]
    exact hz b off hp'
  · intro ha
    simpa using hn ha
  · intro p hp _
    simpa using hp
end

open Go.PlainAid Str Mem Sz Rws Lx De Dw Cs Dz Ap Hp
theorem heap3 {w : World} (h : Lib.Utf8Tabs 1 2 w) : 3 ≤ w.heap.size := by
  have := (h.2 0 (by omega)).1
  have := World.block_lt_of_cell? w _ this
  exact this
theorem mk66 (n : Nat) (h : n ≤ 10000000) (x : Int) (hx : x = n) (w : World) : (Instr.makeSlice 66 (.int .i64 0) (.int .i64 x)).run Tryd.prog w = .ok (.slice (some ⟨w.heap.size, 0, none⟩) 0 n) (w.alloc (.cells (madeCells #[.int .u8 0] (n * 1)) 5)) := by
  subst hx
  exact run_mkc (P := Tryd.prog) 66 5 _ _ rfl _ _ Tryd.underlying66 info8 0 n (by omega) (by omega) (by omega) w
def nlB (c : Int) : Bool := decide (c = 10 ∨ c = 13 ∨ c = 12)
set_option maxRecDepth 100000 in
set_option maxHeartbeats 4000000 in
theorem nl10 (c : Int) (w : World) : Calls Tryd.prog 10 #[.int .u8 c] w fun e w' => e = .returned (.bool (nlB c)) ∧ w = w' := by
  generalize hB : nlB c = B
  have HB := Lib.hid hB
  clear hB
  go_enter Tryd.func10, Tryd.ntmps10
  go_wp2
  all_goals
    go_ret
    refine ⟨congrArg (fun b => Ending.returned (.bool b)) ?_, rfl⟩
    rw [← HB.out]
    clear HB
    unfold nlB
    try simp only [beq_iff_eq, beq_eq_false_iff_ne, ne_eq] at *
    rw [Bool.eq_iff_iff]
    simp
    try omega
theorem step12 (g : Nat) (s : ByteArray) (k : Nat) (nl cp ts tl : Int) (cs : Array Value) (w : World) (h : LX w g s nl (k : Int) cp ts tl cs) (hT : Lib.Utf8Tabs 1 2 w) (hw2 : 3 ≤ w.heap.size) (hs : s.size ≤ 1048576) (hk : k ≤ s.size) (hn0 : 0 ≤ nl) (hn1 : nl ≤ 1000000000) (ht0 : 0 ≤ ts) (ht1 : ts ≤ 2000000) :
    Calls Tryd.prog 12 #[.pointer (some ⟨g, 0, none⟩)] w (Lx.Stepped w g s k nl ts) := by
  go_enter Tryd.func12, Tryd.ntmps12
  go_wp2_with fail
  refine (step25 g s k nl cp ts tl cs _ h hT hw2 hs hk hn0 hn1 ht0 ht1).mono ?_
  rintro e w1 ⟨cs', nl', rfl, h2, h3, h4, h5, h6⟩
  go_wp2_with fail
  go_end0
  exact ⟨cs', nl', rfl, h2, h3, h4, h5, h6⟩
theorem esc13 (g : Nat) (s : ByteArray) (ts : Int) (q : Nat) (w : World) (h : Ax g s ts q w) (hT : Lib.Utf8Tabs 1 2 w) (hg : 3 ≤ g) (hw : 3 ≤ w.heap.size) (hs : s.size ≤ 1048576) (ht0 : 0 ≤ ts) (ht1 : ts ≤ 2000000) (hlt : q < s.size) (h92 : bt s q = 92) :
    Calls Tryd.prog 13 #[.pointer (some ⟨g, 0, none⟩)] w (Esc g s ts q w) := by
  go_enter Tryd.func13, Tryd.ntmps13
  go_wp2_with fail
  refine (escape g s ts q _ h hT hg hw hs ht0 ht1 hlt h92).mono ?_
  rintro e w1 ⟨rfl, h2, h3⟩
  go_wp2_with fail
  go_ret
  exact ⟨rfl, h2, h3⟩
theorem below_fr {w w1 w2 : World} {g : Nat} (hb : Below w.heap.size w w1) (hg : w.heap.size ≤ g) (f : Fr g w1 w2) : Below w.heap.size w w2 :=
  ⟨f.os.trans hb.os, f.tape.trans hb.tape, f.output.trans hb.output, Nat.le_trans hb.size f.size, fun b h => (f.block b (Nat.lt_of_lt_of_le h hb.size) (by omega)).trans (hb.block b h)⟩
set_option maxRecDepth 100000 in
set_option maxHeartbeats 4000000 in
theorem walk (a0 : ByteArray) (w : World) (hT : Lib.Utf8Tabs 1 2 w) (w0 : a0.size ≤ maxLen) :
    Calls Tryd.prog 3 #[.string a0] w fun e w' => e = .returned (.bool true) ∧ Below w.heap.size w w' := by
  have hw3 := heap3 hT
  have HT := Lib.hid hT
  clear hT
  have hgb := get_bt a0
  go_enter Tryd.func3, Tryd.ntmps3
  go_wp2_with fail
  refine (bytes9 a0 _ w0).mono ?_
  rintro e w' ⟨rfl, rfl⟩
  by_cases ht : a0.size ≤ 1048576
  · rw [szOk_yes ht]
    clear w0
    by_cases hs0 : a0.size = 0
    · have t1 : ((a0.size : Int) == 0) = true := beq_iff_eq.2 (by omega)
      clear hs0
      go_wp2_with fail
      go_ret
      exact ⟨rfl, by go_grown⟩
    have hpos : 0 < a0.size := by omega
    have t1 : ((a0.size : Int) == 0) = false := beq_eq_false_iff_ne.2 (by omega)
    clear hs0
    by_cases h92 : bt a0 0 = 92
    case neg =>
      have t2 : (bt a0 0 != 92) = true := bne_iff_ne.2 h92
      go_wp2_with fail
      go_ret
      exact ⟨rfl, by go_grown⟩
    have t2 : (bt a0 0 != 92) = false := bne_eq_false_iff_eq.2 h92
    have H92 := Lib.hid h92
    clear h92
    by_cases hnl : 1 < a0.size ∧ nlB (bt a0 1) = true
    · obtain ⟨n1, n2⟩ := hnl
      have t3 : decide (1 < a0.size) = true := decide_eq_true n1
      have N2 := Lib.hid n2
      clear n2
      go_wp2_with (go_at_call 10; refine (nl10 _ _).mono ?_; rintro e w9 ⟨rfl, rfl⟩; rw [N2.out])
      go_ret
      exact ⟨rfl, by go_grown⟩
    have HNL : Hid (1 < a0.size → bt a0 1 ≠ 10 ∧ bt a0 1 ≠ 12 ∧ bt a0 1 ≠ 13) := Lib.hid fun h1 => by
      have : ¬ nlB (bt a0 1) = true := fun h2 => hnl ⟨h1, h2⟩
      unfold nlB at this
      rw [decide_eq_true_eq] at this
      omega
    obtain ⟨c1, c2, c3, c4, c5⟩ := Ce.cut_step hpos H92.out
    have hsv := Ce.step_valid (s := a0) 0
    have hdec := Ce.decoded hpos H92.out
    have hno := Ce.no92 hpos H92.out
    by_cases h1 : 1 < a0.size
    focus
      have t3 : decide (1 < a0.size) = true := decide_eq_true h1
      have N2 : Hid (nlB (bt a0 1) = false) := Lib.hid (eq_false_of_ne_true fun h2 => hnl ⟨h1, h2⟩)
      clear hnl c1
      generalize hE : (stepD a0 0).1 = E at *
      generalize hR : (stepD a0 0).2 = R at *
      have HE := Lib.hid hE
      have HR := Lib.hid hR
      have HDEC := Lib.hid hdec
      have HNO := Lib.hid hno
      clear hE hR hdec hno
      have k7 : decide (2 ≤ a0.size) = true := decide_eq_true (by omega)
      have k8 : decide ((E : Int) < 2) = false := decide_eq_false (by have := c5 (by omega); omega)
      go_wp2_with (go_at_call 10; refine (nl10 _ _).mono ?_; rintro e w9 ⟨rfl, rfl⟩; rw [N2.out])
    rotate_left
    focus
      have t3 : decide (1 < a0.size) = false := decide_eq_false h1
      clear hnl c1
      generalize hE : (stepD a0 0).1 = E at *
      generalize hR : (stepD a0 0).2 = R at *
      have HE := Lib.hid hE
      have HR := Lib.hid hR
      have HDEC := Lib.hid hdec
      have HNO := Lib.hid hno
      clear hE hR hdec hno
      have k7 : decide (2 ≤ a0.size) = false := decide_eq_false (by omega)
      go_wp2_with fail
    all_goals
      clear hgb
      refine (new10 a0 _).mono ?_
      rintro e w1 ⟨cs1, rfl, h1', b1⟩
      have H1 := Lib.hid h1'
      have B1 := Lib.hid b1
      have hz1 := b1.size
      clear h1' b1
      go_wp2_with fail
      refine (step12 w.heap.size a0 0 0 0 0 0 cs1 w1 H1.out (tabs_of HT.out hw3 B1.out) (Nat.le_trans hw3 hz1) ht (Nat.zero_le _) (Int.le_refl _) (by decide) (Int.le_refl _) (by decide)).mono ?_
      rintro e w2 ⟨cs2, nl2, rfl, h2, n1, n2, n3, f2⟩
      have HA : Hid (Ax w.heap.size a0 0 0 w2) := Lib.hid ⟨Nat.zero_le _, nl2, cs2, by simpa using h2, by omega, by simpa using n2⟩
      have HB2 := Lib.hid (below_fr B1.out (Nat.le_refl _) f2)
      have hz2 := HB2.out.size
      clear h2 n1 n2 n3 f2 H1 B1
      go_wp2_with fail
      refine (esc13 w.heap.size a0 0 0 w2 HA.out (tabs_of HT.out hw3 HB2.out) hw3 (Nat.le_trans hw3 hz2) ht (Int.le_refl _) (by decide) hpos H92.out).mono ?_
      rintro e w3 ⟨rfl, h3, f3⟩
      rw [HE.out] at h3
      rw [HR.out]
      have hc37 : w3.cell? ⟨w.heap.size, 37, none⟩ = some (.int .i32 (E : Int)) := by have := h3.cell37; simpa using this
      have hc36 := h3.cell36
      have HB3 := Lib.hid (below_fr HB2.out (Nat.le_refl _) f3)
      have hz3 := HB3.out.size
      clear h3 f3 HA HB2
      have k1 : decide ((E : Int) < 1) = false := decide_eq_false (by omega)
      have k2 : decide ((8 : Int) < (E : Int)) = false := decide_eq_false (by omega)
      have k3 : decide ((a0.size : Int) < (E : Int)) = false := decide_eq_false (by omega)
      have k3' : decide (a0.size < E) = false := decide_eq_false (by omega)
      have k4 : decide ((E : Int) < 2) = decide ((E : Int) < 2) := rfl
      have k5 : (0 : Int) ≤ (E : Int) := by omega
      have k6 : (E : Int) ≤ (a0.size : Int) := by omega
      have hsz : (a0.extract 0 E).size = E := Ce.cut_size a0 E c4
      have HC : Hid (∀ W, Lib.Utf8Tabs 1 2 W → 3 ≤ W.heap.size → Calls Tryd.prog 14 #[.string (a0.extract 0 E)] W (Dx.Ret (D (a0.extract 0 E) 0) W)) := Lib.hid fun W hT hw => by
        refine wrap170 _ (fun _ _ => True) W (Dz.any _ (by rw [hsz]; omega) (fun _ => by rw [Ce.cut_bt _ _ _ (by omega)]; exact H92.out) (fun i hi hb => ?_) W hT hw)
        rw [hsz] at hi
        rw [Ce.cut_bt _ _ _ (by omega)] at hb
        rw [Ce.cut_bt _ _ _ (by omega)]
        by_cases hi0 : i = 0
        · subst hi0; exact HNL.out (by omega)
        · exact absurd hb (HNO.out i (by omega) hi)
      clear hsz HNO k4
      clear c5
      go_wp2_with fail
      refine (HC.out _ (tabs_of HT.out hw3 HB3.out) (Nat.le_trans hw3 hz3)).mono ?_
      rintro e w4 ⟨l, rfl, hl, hb4⟩
      have hs := of_nums (hl.trans HDEC.out)
      rw [hs]
      have HB4 := Lib.hid (HB3.out.trans (hb4.mono hz3))
      have hz4 := hb4.size
      clear hl hs hb4 hc37 hc36 HC
      have hmk := mk66 4 (by omega) 4 rfl
      have HOW := Lib.hid (World.ownsRow_made w4 (madeCells #[Value.int IntKind.u8 0] 4) 4 (base := w.heap.size) (e := 5) (size := 1) (by have := HB4.out.size; omega) (by unfold maxLen; omega) (by rw [size_madeCells, Nat.mul_one]))
      generalize hSR : strOfNums (Lib.encodeRuneZ R) = sR at *
      have HSR := Lib.hid hSR
      clear hSR
      go_wp2_with fail
      refine (Ec.enc w.heap.size _ [] R _ HOW.out (by have := HB4.out.size; simp; omega) (by simp) hsv.1 hsv.2.1 hsv.2.2).mono ?_
      rintro e w5 ⟨v5, rfl, hb5⟩
      clear hmk
      have hcv := conv hb5.own
      rw [List.nil_append, HSR.out] at hcv
      have HB5 : Hid (Below w.heap.size w w5) := Lib.hid ((HB4.out.alloc HB4.out.size _).trans (hb5.below (l0 := []) HOW.out))
      clear hb5 HOW
      go_wp2_with fail
      go_ret
      exact ⟨by first | rfl | simp, HB5.out⟩
  · rw [szOk_no ht]
    go_wp2_with fail
    go_ret
    exact ⟨rfl, by go_grown⟩

set_option maxRecDepth 100000 in
/-- What the walk gives, for every argument and every world that holds the tables. -/
theorem contract (H : Type) (enc : TypeId × Value → H) (W : World) (base : Nat) (args : Array Value) (ds gs : List (DataW H)) (before : List MemPlace)
    (hval : ∀ (j : Nat) t v, Tryd.f3.params[j]? = some t → args[j]? = some v → Value.okWide Tryd.prog W .any base t v)
    (hW : DataW.Whole enc Tryd.prog Tryd.f3.params.toList Rows.fnConsumeEscapeAgreesWithTokenDecoderSpec.vars false W args.toList ds gs before) (hL : laidMetH Tryd.prog Rows.fnConsumeEscapeAgreesWithTokenDecoderRow.laid W) :
    Calls Tryd.prog 3 args W fun e W' => ∃ v, e = .returned v ∧ Rows.fnConsumeEscapeAgreesWithTokenDecoderSpec.post enc Tryd.prog Tryd.f3 false true false false W args v W' := by
  have hW' := hW
  obtain ⟨p, q, hA0, hV, rfl, hfz, hnd⟩ := hW
  have hA : DataW.TrodAll enc Tryd.prog W 0 (fun _ => true) true Tryd.f3.params.toList args.toList ds p := hA0
  rw [Tryd.params3] at hA hval
  obtain ⟨v0, vs0, d0, ds0, p0, q0, hargs0, rfl, rfl, h0, r0⟩ := trodAll_cons hA
  obtain ⟨rfl, rfl, rfl⟩ := trodAll_nil r0
  obtain rfl : args = #[v0] := by cases args; simp_all
  obtain ⟨a0, rfl, rfl, rfl, w0⟩ := Go.ChangeMaps.open_string Tryd.underlying9 (hval 0 9 v0 rfl rfl) h0
  clear hA0
  refine (walk a0 W (tabs hL) w0).mono fun e W' ⟨he, hg⟩ => ?_
  subst he
  exact ⟨_, rfl, law_post laid readEach rfl rfl Tryd.underlying4 ⟨rfl, rfl, rfl⟩ hW' hg⟩

def firstBlock : Obj → Obj
  | .cells _ t frozen => .cells (Pinned.utf8FirstZ.map fun (z : Nat) => Value.int .u8 z).toArray t frozen
  | o => o
def acceptBlock : Obj → Obj
  | .cells _ t frozen => .cells ((List.range 16).flatMap fun i => [Value.int .u8 (Lib.accLo i : Nat), Value.int .u8 (Lib.accHi i : Nat)]).toArray t frozen
  | o => o
/-- A world for the witness: the settled one, the two tables holding what their initialisers lay. -/
noncomputable def laidWorld (os : Os) : World :=
  { World.holding Tryd.prog os ⟨#[], #[], []⟩ with heap := ((World.holding Tryd.prog os ⟨#[], #[], []⟩).heap.modify 1 firstBlock).modify 2 acceptBlock }
theorem laid_met (os : Os) : laidMet Tryd.prog Rows.fnConsumeEscapeAgreesWithTokenDecoderRow.laid ((laidWorld os).forCall (fun _ _ => 0) ⟨#[], #[.string ⟨#[]⟩], []⟩).memory :=
  laidMet_of_run' 8 (by kernel_rfl) (by kernel_rfl)
theorem reads (os : Os) {H : Type} (enc : TypeId × Value → H) : ∃ places, DataW.whole enc Tryd.prog ((laidWorld os).forCall (fun _ _ => 0) ⟨#[], #[.string ⟨#[]⟩], []⟩).memory Tryd.f3.params.toList Rows.fnConsumeEscapeAgreesWithTokenDecoderSpec.vars false (#[.string ⟨#[]⟩] : Array Value).toList 8 = some ([.lit (.string [])], [], places) :=
  ⟨[], by kernel_rfl⟩

set_option maxRecDepth 100000 in
theorem lifted (os : Os) (started : os.Started) (H : Type) (enc : TypeId × Value → H) (F : Stop.Interp) :
    ReturnsInHanded {} Tryd.checked os 3 .any ((OpenSpec.ofChange Rows.fnConsumeEscapeAgreesWithTokenDecoderSpec).preRow enc Tryd.prog Tryd.f3 Rows.fnConsumeEscapeAgreesWithTokenDecoderRow.domain false Rows.fnConsumeEscapeAgreesWithTokenDecoderRow.laid) (((OpenSpec.ofChange Rows.fnConsumeEscapeAgreesWithTokenDecoderSpec).at F).post enc Tryd.prog Tryd.f3 false true false false) := by
  obtain ⟨places, hx⟩ := reads os enc
  refine returnsInHanded_of_row (C := Tryd.checked) (s := OpenSpec.ofChange Rows.fnConsumeEscapeAgreesWithTokenDecoderSpec) own started (by kernel_rfl) Tryd.func3
    (witness_row_at (enc := enc) (C := Tryd.checked) false (laidWorld os) #[.string ⟨#[]⟩] rfl (by kernel_rfl) (by kernel_rfl) (by kernel_rfl)
      (OpenSpec.preRow_of_cond 8 hx (by kernel_rfl) (fun k hk => by cases hk) (by kernel_rfl) (laid_met os))) ?_
  intro W base args ds gs before hval hW _ _ _ hL _ _
  exact contract H enc W base args ds gs before hval hW hL

theorem said : Rows.FnConsumeEscapeAgreesWithTokenDecoderSaid :=
  OpenClaim.holds_of_cond 3 Tryd.f3 rfl rfl rfl rfl rfl rfl rfl ⟨rfl, rfl, rfl, rfl, rfl⟩ rfl rfl rfl rfl rfl (by kernel_rfl) Tryd.func3 (by kernel_rfl)
    (of_decide_eq_true (by kernel_rfl)) (by unfold Func.isWrapper; first | (rw [if_pos (by decide +kernel)]; kernel_rfl) | (rw [if_neg (by decide +kernel)]; exact ⟨rfl, rfl⟩))
    (fun os started H enc _ F => by rw [OpenClaim.pre_eq_preRow]; exact lifted os started H enc F)

/-- No parameter wants a stand-in; the program's own looks are off. -/
theorem plain (f : FuncId) (fn : Func) (hf : Tryd.pinned.checked.prog.funcNamed Rows.fnConsumeEscapeAgreesWithTokenDecoderRow.func = some f) (hfn : Tryd.pinned.checked.prog.funcs[f]? = some fn) :
    false = Tryd.pinned.checked.prog.looks [] ∧ ∀ (j : Nat) t, fn.params[j]? = some t → Tryd.pinned.checked.prog.wantsStandIn t = false := by
  obtain rfl : f = 3 := Option.some.inj ((show Tryd.prog.funcNamed Rows.fnConsumeEscapeAgreesWithTokenDecoderRow.func = some 3 by kernel_rfl).symm.trans hf) |>.symm
  obtain rfl : fn = Tryd.f3 := (Option.some.inj (Tryd.func3.symm.trans hfn)).symm
  refine ⟨by kernel_rfl, fun j t ht => ?_⟩
  rw [Tryd.params3] at ht
  have hm : t ∈ [9] := by simpa using Array.mem_of_getElem? ht
  have hall : ([9] : List TypeId).all (fun t => !Tryd.prog.wantsStandIn t) = true := by kernel_rfl
  have hh : Tryd.prog.wantsStandIn t = false := by simpa using List.all_eq_true.1 hall t hm
  exact hh

/-- The card. -/
theorem card : Rows.FnConsumeEscapeAgreesWithTokenDecoderCardSaid :=
  Claim7.holds_tied_plain_at .later [] _ _ _ _ said (fun _ h => by cases h) (by kernel_rfl) (fun _ h => by cases h) fnConsumeEscapeAgreesWithTokenDecoder_row_tie rfl ⟨rfl, rfl⟩ (by kernel_rfl) rfl plain (by kernel_rfl)
#print axioms card
end Go.Proofs.YtcljenkgbbbfpaaDoor.fnConsumeEscapeAgreesWithTokenDecoder
