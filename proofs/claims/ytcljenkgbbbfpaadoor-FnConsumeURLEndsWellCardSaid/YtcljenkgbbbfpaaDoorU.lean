/-
  Proved: the tied card of the law FnConsumeURLEndsWell of folder n011_311: it returns true for every argument that its parameter types allow, wherever unicode/utf8's two tables hold what their initialisers lay, and leaves its arguments as they were; there is no further condition.
-/
import Derived.Test.YtcljenkgbbbfpaaDoorCards
import Derived.Test.YtcljenkgbbbfpaaDoorTie
import Derived.Test.YtcljenkgbbbfpaaDoorShelf
import Derived.WalkKit
import Derived.ProofKit
import Derived.OpenShut
import Derived.Below
import Derived.Carry
import Derived.ChangeMaps5
import Derived.Deep.DeepHandedRow
import Derived.Lib.LaidTab
import Derived.Lib.LaidU8
import Derived.PinnedBridge
import Derived.Handy
import Derived.Lib.Hide
import Derived.WalkSpells
import Derived.OwnWalk
import Derived.Test.YtcljenkgbbbfpaaDoorSz
import Derived.Test.YtcljenkgbbbfpaaDoorTq
namespace Go.Proofs.YtcljenkgbbbfpaaDoor.fnConsumeURLEndsWell
open Go.ChangeShapes Go.WideShapes Go.ChangeAt Go.RowKit
set_option linter.unusedVariables false

theorem own : ownKnob Tryd.prog.godebug = none := by kernel_rfl
theorem laid : laidOutB Tryd.prog = true := by kernel_rfl
theorem readAll : (Tryd.f7.params.toList.all fun t => Tryd.prog.readableRec t && decide (t < Tryd.prog.types.size)) = true := by kernel_rfl
theorem readEach : ∀ t ∈ Tryd.f7.params.toList, Tryd.prog.readableRec t = true ∧ t < Tryd.prog.types.size := fun t ht => by
  have := List.all_eq_true.1 readAll t ht
  simpa using this
theorem extra : U8Extra Tryd.prog Tryd.lays260_ren := ⟨by kernel_rfl, by kernel_rfl, by kernel_rfl, by kernel_rfl, by kernel_rfl, by kernel_rfl, by kernel_rfl⟩
theorem accept_eq : (Rows.laid_unicode_utf8_acceptRanges : DataW Unit) = Lib.acceptData := by kernel_rfl
/-- What the row's list gives: the two tables. -/
theorem tabs {W : World} (h : laidMetH Tryd.prog Rows.fnConsumeURLEndsWellRow.laid W) : Lib.Utf8Tabs 1 2 W :=
  utf8Tabs_of_reads Tryd.lays260 extra
    (Lib.laidMet.reads h (by rw [← Pinned.utf8First_eq]; exact List.mem_cons.2 (Or.inr (List.mem_cons.2 (Or.inl rfl)))))
    (Lib.laidMet.reads h (by rw [← accept_eq]; exact List.mem_cons.2 (Or.inl rfl)))
section
variable {H : Type} {enc : TypeId × Value → H} {P : Program}
theorem trodAll_stays (hl : laidOutB P = true) {W W' : World} (hb : Below W.heap.size W W') {sp : Nat → Bool} : ∀ {ts : List TypeId} {vs : List Value} {ds : List (DataW H)} {ps : List MemPlace},
    (∀ t ∈ ts, P.readableRec t = true ∧ t < P.types.size) → DataW.TrodAll enc P W 0 (fun _ => true) true ts vs ds ps → (∀ p ∈ ps, p.block < W.heap.size) → (∀ p ∈ ps, sp p.block = true) → DataW.TrodAll enc P W' 0 sp true ts vs ds ps
  | [], [], [], _, _, h, _, _ => h
  | _ :: _, _ :: _, _ :: _, _, hT, ⟨p, q, h1, h2, e⟩, hlt, hs =>
    ⟨p, q, WideElems.Trod_stays hl (hT _ (List.mem_cons.2 (Or.inl rfl))).1 (hT _ (List.mem_cons.2 (Or.inl rfl))).2 h1 (fun x hx => hb.same (hlt x (by rw [e]; exact List.mem_append_left _ hx))) (fun x hx => hs x (by rw [e]; exact List.mem_append_left _ hx)),
      trodAll_stays hl hb (fun t ht => hT t (List.mem_cons.2 (Or.inr ht))) h2 (fun x hx => hlt x (by rw [e]; exact List.mem_append_right _ hx)) (fun x hx => hs x (by rw [e]; exact List.mem_append_right _ hx)), e⟩

/-- A law's step: the result is true, the arguments are kept, the world has changed in new blocks alone. -/
theorem law_post {f : Func} {s : ChangeSpec} {apart fresh handsOn again : Bool} {W W' : World} {args : Array Value} {ds gs : List (DataW H)} {before : List MemPlace} {tb : TypeId}
    (hl : laidOutB P = true) (hps : ∀ t ∈ f.params.toList, P.readableRec t = true ∧ t < P.types.size) (hv : s.vars = []) (hr : f.resultTypes = #[tb]) (ht : P.underlying tb = some .bool)
    (hs : (s.fn H (ds ++ [])).results = [.lit (.bool true)] ∧ (s.fn H (ds ++ [])).args = ds ∧ (s.fn H (ds ++ [])).vars = [])
    (hW : DataW.Whole enc P f.params.toList s.vars apart W args.toList ds gs before) (hb : Below W.heap.size W W') :
    s.post enc P f apart fresh handsOn again W args (.bool true) W' := by
  have hlt : ∀ p ∈ before, p.block < W.heap.size := fun p hp => hW.lt p hp
  have hold : ∀ p ∈ before, (fun b => decide (b < W.heap.size)) p.block = true := fun p hp => by simpa using hlt p hp
  have hW0 := hW
  obtain ⟨pa, pv, hA, hV, rfl, hz, hn⟩ := hW
  rw [hv] at hV
  obtain ⟨rfl, rfl⟩ := trodVars_none hV
  have hres : ∀ (b : Nat) (sp : Nat → Bool) (hd : Bool), DataW.TrodAll enc P W' b sp hd f.resultTypes.toList ((Value.bool true).resultList f.resultTypes.size) (s.fn H (ds ++ [])).results [] := fun b sp hd => by
    rw [hs.1, hr]; exact trodAll_cons_mk (shut_bool ht _) trodAll_mk0
  have hargs : ∀ sp : Nat → Bool, (∀ p ∈ pa ++ [], sp p.block = true) → DataW.TrodAll enc P W' 0 sp true f.params.toList args.toList (s.fn H (ds ++ [])).args pa := fun sp hsp => by
    rw [hs.2.1]; exact trodAll_stays hl hb hps hA (fun p hp => hlt p (by simpa using hp)) (fun p hp => hsp p (by simpa using hp))
  have hvars : ∀ sp : Nat → Bool, DataW.TrodVars enc P W' sp s.vars (s.fn H (ds ++ [])).vars [] := fun sp => by rw [hv, hs.2.2]; rfl
  refine ⟨ds, [], pa ++ [], [], pa, [], hW0, hres _ _ _, hargs _ hold, hvars _, World.keptBut_mono (fun p hp => ⟨hp, Or.inr (List.mem_append.1 hp)⟩) (hb.frame (· ∈ pa ++ [])), fun _ => ?_⟩
  refine ⟨?_, _, _, ([] ++ pa) ++ [], ⟨[] ++ pa, [], trodAll_append (hargs _ (fun _ _ => rfl)) (hres _ _ _), hvars _, rfl, ?_, ?_⟩, ?_⟩
  · intro j t r h1 h2
    rw [hr] at h1 h2
    match j, h1, h2 with
    | 0, h1, h2 =>
      obtain rfl : tb = t := by simpa using h1
      obtain rfl : Value.bool true = r := by simpa [Value.resultList] using h2
      exact okWide_bool_mk ht _
    | j + 1, h1, _ => simp at h1
  · intro b off hp
    have hp' : MemPlace.cell b off ∈ pa ++ [] := by simpa using hp
    rw [hb.frozen (hlt _ hp')]
    exact hz b off hp'
  · intro ha
    simpa using hn ha
  · intro p hp _
    simpa using hp
end

open Go.PlainAid Str Mem Sz Rws De Dw Tq
theorem heap3 {w : World} (h : Lib.Utf8Tabs 1 2 w) : 3 ≤ w.heap.size := by
  have := (h.2 0 (by omega)).1
  have := World.block_lt_of_cell? w _ this
  exact this
set_option maxRecDepth 100000 in
set_option maxHeartbeats 4000000 in
theorem walk (a0 : ByteArray) (a1 : Int) (w : World) (hT : Lib.Utf8Tabs 1 2 w) (w0 : a0.size ≤ maxLen) (w1 : (Lit.int .i64 a1).wf = true) :
    Calls Tryd.prog 7 #[.string a0, .int .i64 a1] w fun e w' => e = .returned (.bool true) ∧ Below w.heap.size w w' := by
  have hw3 := heap3 hT
  have HT := Lib.hid hT
  clear hT
  have hgb := get_bt a0
  go_enter Tryd.func7, Tryd.ntmps7
  go_wp2_with fail
  refine (bytes28 a0 a1 _ w0).mono ?_
  rintro e w' ⟨rfl, rfl⟩
  by_cases ht : a0.size ≤ 1048576
  · rw [szOk_yes ht]
    clear w0 w1
    by_cases h1 : 1 ≤ a1 ∧ a1 ≤ a0.size
    · obtain ⟨h1, h2⟩ := h1
      obtain ⟨m, rfl⟩ : ∃ m : Nat, a1 = (m : Int) + 1 := ⟨(a1 - 1).toNat, by omega⟩
      have t1 : decide ((m : Int) + 1 < 1) = false := decide_eq_false (by omega)
      have t2 : decide ((a0.size : Int) < (m : Int) + 1) = false := decide_eq_false (by omega)
      have hk : m + 1 ≤ a0.size := by omega
      by_cases hl : m + 1 < a0.size
      focus
        have t3 : decide ((m : Int) + 1 < (a0.size : Int)) = true := decide_eq_true (by omega)
        cases e1 : (bt a0 (m + 1) == 32 || bt a0 (m + 1) == 9 || nlB (bt a0 (m + 1)))
        rotate_left
        focus
          have E1 := Lib.hid e1
          clear e1
          go_wp2_with (go_at_call 29; refine (ws29 _ _).mono ?_; rintro e w9 ⟨rfl, rfl⟩; rw [E1.out])
          go_ret
          exact ⟨rfl, by go_grown⟩
        have E1 := Lib.hid e1
        clear e1
        cases e2 : (bt a0 (m + 1) == 34)
        rotate_left
        focus
          go_wp2_with (go_at_call 29; refine (ws29 _ _).mono ?_; rintro e w9 ⟨rfl, rfl⟩; rw [E1.out])
          go_ret
          exact ⟨rfl, by go_grown⟩
        cases e3 : (bt a0 (m + 1) == 39)
        rotate_left
        focus
          go_wp2_with (go_at_call 29; refine (ws29 _ _).mono ?_; rintro e w9 ⟨rfl, rfl⟩; rw [E1.out])
          go_ret
          exact ⟨rfl, by go_grown⟩
        go_wp2_with (go_at_call 29; refine (ws29 _ _).mono ?_; rintro e w9 ⟨rfl, rfl⟩; rw [E1.out])
        clear E1 e2 e3
      rotate_left
      focus
        have t3 : decide ((m : Int) + 1 < (a0.size : Int)) = false := decide_eq_false (by omega)
        go_wp2_with fail
      all_goals
        clear t1 t2 t3 hl
        refine (url30 a0 m _ hk ht HT.out hw3).mono ?_
        rintro e w2 ⟨kd, q, rfl, hkd, hq, hqs, hgd, hb2⟩
        have HB := Lib.hid hb2
        have u1 : decide ((q : Int) < (m : Int) + 1) = false := decide_eq_false (by omega)
        have u2 : decide ((a0.size : Int) < (q : Int)) = false := decide_eq_false (by omega)
        clear hb2
        by_cases hq9 : q = a0.size
        · subst hq9
          clear hgd
          rcases hkd with rfl | rfl
          all_goals
            go_wp2_with fail
            all_goals
              go_ret
              exact ⟨rfl, HB.out⟩
        · have u3 : ((q : Int) == (a0.size : Int)) = false := beq_eq_false_iff_ne.2 (by omega)
          obtain ⟨g1, g2⟩ : m + 1 < q ∧ bt a0 (q - 1) = 41 := by
            rcases hgd with h | h
            · exact absurd h hq9
            · exact h
          clear hgd
          obtain ⟨p, rfl⟩ : ∃ p, q = p + 1 := ⟨q - 1, by omega⟩
          have u4 : decide ((m : Int) + 1 < ((p + 1 : Nat) : Int)) = true := decide_eq_true (by omega)
          have u5 : (bt a0 p == 41) = true := beq_iff_eq.2 (by simpa using g2)
          clear hq9 g2
          rcases hkd with rfl | rfl
          all_goals
            go_wp2_with fail
            all_goals
              go_ret
              exact ⟨rfl, HB.out⟩
    · by_cases h3 : a1 < 1
      · have t1 : decide (a1 < 1) = true := decide_eq_true h3
        clear h3 h1
        go_wp2_with fail
        go_ret
        exact ⟨rfl, by go_grown⟩
      · have t1 : decide (a1 < 1) = false := decide_eq_false h3
        have t2 : decide ((a0.size : Int) < a1) = true := decide_eq_true (by omega)
        clear h3 h1
        go_wp2_with fail
        go_ret
        exact ⟨rfl, by go_grown⟩
  · rw [szOk_no ht]
    go_wp2_with fail
    go_ret
    exact ⟨rfl, by go_grown⟩

set_option maxRecDepth 100000 in
/-- What the walk gives, for every argument and every world that holds the tables. -/
theorem contract (H : Type) (enc : TypeId × Value → H) (W : World) (base : Nat) (args : Array Value) (ds gs : List (DataW H)) (before : List MemPlace)
    (hval : ∀ (j : Nat) t v, Tryd.f7.params[j]? = some t → args[j]? = some v → Value.okWide Tryd.prog W .any base t v)
    (hW : DataW.Whole enc Tryd.prog Tryd.f7.params.toList Rows.fnConsumeURLEndsWellSpec.vars false W args.toList ds gs before) (hL : laidMetH Tryd.prog Rows.fnConsumeURLEndsWellRow.laid W) :
    Calls Tryd.prog 7 args W fun e W' => ∃ v, e = .returned v ∧ Rows.fnConsumeURLEndsWellSpec.post enc Tryd.prog Tryd.f7 false true false false W args v W' := by
  have hW' := hW
  obtain ⟨p, q, hA0, hV, rfl, hfz, hnd⟩ := hW
  have hA : DataW.TrodAll enc Tryd.prog W 0 (fun _ => true) true Tryd.f7.params.toList args.toList ds p := hA0
  rw [Tryd.params7] at hA hval
  obtain ⟨v0, vs0, d0, ds0, p0, q0, hargs0, rfl, rfl, h0, r0⟩ := trodAll_cons hA
  obtain ⟨v1, vs1, d1, ds1, p1, q1, hargs1, rfl, rfl, h1, r1⟩ := trodAll_cons r0
  obtain ⟨rfl, rfl, rfl⟩ := trodAll_nil r1
  obtain rfl : args = #[v0, v1] := by cases args; simp_all
  obtain ⟨a0, rfl, rfl, rfl, w0⟩ := Go.ChangeMaps.open_string Tryd.underlying9 (hval 0 9 v0 rfl rfl) h0
  obtain ⟨a1, rfl, rfl, rfl, w1⟩ := open_int Tryd.underlying3 (hval 1 3 v1 rfl rfl) h1
  clear hA0
  refine (walk a0 a1 W (tabs hL) w0 w1).mono fun e W' ⟨he, hg⟩ => ?_
  subst he
  exact ⟨_, rfl, law_post laid readEach rfl rfl Tryd.underlying4 ⟨rfl, rfl, rfl⟩ hW' hg⟩

def firstBlock : Obj → Obj
  | .cells _ t frozen => .cells (Pinned.utf8FirstZ.map fun (z : Nat) => Value.int .u8 z).toArray t frozen
  | o => o
def acceptBlock : Obj → Obj
  | .cells _ t frozen => .cells ((List.range 16).flatMap fun i => [Value.int .u8 (Lib.accLo i : Nat), Value.int .u8 (Lib.accHi i : Nat)]).toArray t frozen
  | o => o
/-- A world for the witness: the settled one, the two tables holding what their initialisers lay. -/
noncomputable def laidWorld (os : Os) : World :=
  { World.holding Tryd.prog os ⟨#[], #[], []⟩ with heap := ((World.holding Tryd.prog os ⟨#[], #[], []⟩).heap.modify 1 firstBlock).modify 2 acceptBlock }
theorem laid_met (os : Os) : laidMet Tryd.prog Rows.fnConsumeURLEndsWellRow.laid ((laidWorld os).forCall (fun _ _ => 0) ⟨#[], #[.string ⟨#[]⟩, .int .i64 0], []⟩).memory :=
  laidMet_of_run' 8 (by kernel_rfl) (by kernel_rfl)
theorem reads (os : Os) {H : Type} (enc : TypeId × Value → H) : ∃ places, DataW.whole enc Tryd.prog ((laidWorld os).forCall (fun _ _ => 0) ⟨#[], #[.string ⟨#[]⟩, .int .i64 0], []⟩).memory Tryd.f7.params.toList Rows.fnConsumeURLEndsWellSpec.vars false (#[.string ⟨#[]⟩, .int .i64 0] : Array Value).toList 8 = some ([.lit (.string []), .lit (.int .i64 0)], [], places) :=
  ⟨[], by kernel_rfl⟩

set_option maxRecDepth 100000 in
theorem lifted (os : Os) (started : os.Started) (H : Type) (enc : TypeId × Value → H) (F : Stop.Interp) :
    ReturnsInHanded {} Tryd.checked os 7 .any ((OpenSpec.ofChange Rows.fnConsumeURLEndsWellSpec).preRow enc Tryd.prog Tryd.f7 Rows.fnConsumeURLEndsWellRow.domain false Rows.fnConsumeURLEndsWellRow.laid) (((OpenSpec.ofChange Rows.fnConsumeURLEndsWellSpec).at F).post enc Tryd.prog Tryd.f7 false true false false) := by
  obtain ⟨places, hx⟩ := reads os enc
  refine returnsInHanded_of_row (C := Tryd.checked) (s := OpenSpec.ofChange Rows.fnConsumeURLEndsWellSpec) own started (by kernel_rfl) Tryd.func7
    (witness_row_at (enc := enc) (C := Tryd.checked) false (laidWorld os) #[.string ⟨#[]⟩, .int .i64 0] rfl (by kernel_rfl) (by kernel_rfl) (by kernel_rfl)
      (OpenSpec.preRow_of_cond 8 hx (by kernel_rfl) (fun k hk => by cases hk) (by kernel_rfl) (laid_met os))) ?_
  intro W base args ds gs before hval hW _ _ _ hL _ _
  exact contract H enc W base args ds gs before hval hW hL

theorem said : Rows.FnConsumeURLEndsWellSaid :=
  OpenClaim.holds_of_cond 7 Tryd.f7 rfl rfl rfl rfl rfl rfl rfl ⟨rfl, rfl, rfl, rfl, rfl⟩ rfl rfl rfl rfl rfl (by kernel_rfl) Tryd.func7 (by kernel_rfl)
    (of_decide_eq_true (by kernel_rfl)) (by unfold Func.isWrapper; first | (rw [if_pos (by decide +kernel)]; kernel_rfl) | (rw [if_neg (by decide +kernel)]; exact ⟨rfl, rfl⟩))
    (fun os started H enc _ F => by rw [OpenClaim.pre_eq_preRow]; exact lifted os started H enc F)

/-- No parameter wants a stand-in; the program's own looks are off. -/
theorem plain (f : FuncId) (fn : Func) (hf : Tryd.pinned.checked.prog.funcNamed Rows.fnConsumeURLEndsWellRow.func = some f) (hfn : Tryd.pinned.checked.prog.funcs[f]? = some fn) :
    false = Tryd.pinned.checked.prog.looks [] ∧ ∀ (j : Nat) t, fn.params[j]? = some t → Tryd.pinned.checked.prog.wantsStandIn t = false := by
  obtain rfl : f = 7 := Option.some.inj ((show Tryd.prog.funcNamed Rows.fnConsumeURLEndsWellRow.func = some 7 by kernel_rfl).symm.trans hf) |>.symm
  obtain rfl : fn = Tryd.f7 := (Option.some.inj (Tryd.func7.symm.trans hfn)).symm
  refine ⟨by kernel_rfl, fun j t ht => ?_⟩
  rw [Tryd.params7] at ht
  have hm : t ∈ [9, 3] := by simpa using Array.mem_of_getElem? ht
  have hall : ([9, 3] : List TypeId).all (fun t => !Tryd.prog.wantsStandIn t) = true := by kernel_rfl
  have hh : Tryd.prog.wantsStandIn t = false := by simpa using List.all_eq_true.1 hall t hm
  exact hh

/-- The card. -/
theorem card : Rows.FnConsumeURLEndsWellCardSaid :=
  Claim7.holds_tied_plain_at .later [] _ _ _ _ said (fun _ h => by cases h) (by kernel_rfl) (fun _ h => by cases h) fnConsumeURLEndsWell_row_tie rfl ⟨rfl, rfl⟩ (by kernel_rfl) rfl plain (by kernel_rfl)
#print axioms card
end Go.Proofs.YtcljenkgbbbfpaaDoor.fnConsumeURLEndsWell
