/-
  Proved: the tied card of the law FnWouldStartIdentifierWithoutEscapesCaseTable of folder n011_187: it returns true for every argument that its parameter types allow, wherever unicode/utf8's two tables hold what their initialisers lay, and leaves its arguments as they were; there is no further condition.
-/
import Derived.Test.YtojihophipgljaaDoorCards
import Derived.Test.YtojihophipgljaaDoorTie
import Derived.Test.YtojihophipgljaaDoorShelf
import Derived.WalkKit
import Derived.ProofKit
import Derived.OpenShut
import Derived.Below
import Derived.Carry
import Derived.ChangeMaps5
import Derived.Deep.DeepHandedRow
import Derived.Lib.LaidTab
import Derived.Lib.LaidU8
import Derived.PinnedBridge
import Derived.Handy
import Derived.Lib.Hide
import Derived.WalkSpells
import Derived.Test.YtojihophipgljaaDoorWi
import Derived.Test.YtojihophipgljaaDoorSz
namespace Go.Proofs.YtojihophipgljaaDoor.fnWouldStartIdentifierWithoutEscapesCaseTable
open Go.ChangeShapes Go.WideShapes Go.ChangeAt Go.RowKit
set_option linter.unusedVariables false

theorem own : ownKnob Tryd.prog.godebug = none := by kernel_rfl
theorem laid : laidOutB Tryd.prog = true := by kernel_rfl
theorem readAll : (Tryd.f3.params.toList.all fun t => Tryd.prog.readableRec t && decide (t < Tryd.prog.types.size)) = true := by kernel_rfl
theorem readEach : ∀ t ∈ Tryd.f3.params.toList, Tryd.prog.readableRec t = true ∧ t < Tryd.prog.types.size := fun t ht => by
  have := List.all_eq_true.1 readAll t ht
  simpa using this
theorem extra : U8Extra Tryd.prog Tryd.lays260_ren := ⟨by kernel_rfl, by kernel_rfl, by kernel_rfl, by kernel_rfl, by kernel_rfl, by kernel_rfl, by kernel_rfl⟩
theorem accept_eq : (Rows.laid_unicode_utf8_acceptRanges : DataW Unit) = Lib.acceptData := by kernel_rfl
/-- What the row's list gives: the two tables. -/
theorem tabs {W : World} (h : laidMetH Tryd.prog Rows.fnWouldStartIdentifierWithoutEscapesCaseTableRow.laid W) : Lib.Utf8Tabs 0 1 W :=
  utf8Tabs_of_reads Tryd.lays260 extra
    (Lib.laidMet.reads h (by rw [← Pinned.utf8First_eq]; exact List.mem_cons.2 (Or.inr (List.mem_cons.2 (Or.inl rfl)))))
    (Lib.laidMet.reads h (by rw [← accept_eq]; exact List.mem_cons.2 (Or.inl rfl)))
section
variable {H : Type} {enc : TypeId × Value → H} {P : Program}
theorem trodAll_stays (hl : laidOutB P = true) {W W' : World} (hb : Below W.heap.size W W') {sp : Nat → Bool} : ∀ {ts : List TypeId} {vs : List Value} {ds : List (DataW H)} {ps : List MemPlace},
    (∀ t ∈ ts, P.readableRec t = true ∧ t < P.types.size) → DataW.TrodAll enc P W 0 (fun _ => true) true ts vs ds ps → (∀ p ∈ ps, p.block < W.heap.size) → (∀ p ∈ ps, sp p.block = true) → DataW.TrodAll enc P W' 0 sp true ts vs ds ps
  | [], [], [], _, _, h, _, _ => h
  | _ :: _, _ :: _, _ :: _, _, hT, ⟨p, q, h1, h2, e⟩, hlt, hs =>
    ⟨p, q, WideElems.Trod_stays hl (hT _ (List.mem_cons.2 (Or.inl rfl))).1 (hT _ (List.mem_cons.2 (Or.inl rfl))).2 h1 (fun x hx => hb.same (hlt x (by rw [e]; exact List.mem_append_left _ hx))) (fun x hx => hs x (by rw [e]; exact List.mem_append_left _ hx)),
      trodAll_stays hl hb (fun t ht => hT t (List.mem_cons.2 (Or.inr ht))) h2 (fun x hx => hlt x (by rw [e]; exact List.mem_append_right _ hx)) (fun x hx => hs x (by rw [e]; exact List.mem_append_right _ hx)), e⟩

/-- A law's step: the result is true, the arguments are kept, the world has changed in new blocks alone. -/
theorem law_post {f : Func} {s : ChangeSpec} {apart fresh handsOn again : Bool} {W W' : World} {args : Array Value} {ds gs : List (DataW H)} {before : List MemPlace} {tb : TypeId}
    (hl : laidOutB P = true) (hps : ∀ t ∈ f.params.toList, P.readableRec t = true ∧ t < P.types.size) (hv : s.vars = []) (hr : f.resultTypes = #[tb]) (ht : P.underlying tb = some .bool)
    (hs : (s.fn H (ds ++ [])).results = [.lit (.bool true)] ∧ (s.fn H (ds ++ [])).args = ds ∧ (s.fn H (ds ++ [])).vars = [])
    (hW : DataW.Whole enc P f.params.toList s.vars apart W args.toList ds gs before) (hb : Below W.heap.size W W') :
    s.post enc P f apart fresh handsOn again W args (.bool true) W' := by
  have hlt : ∀ p ∈ before, p.block < W.heap.size := fun p hp => hW.lt p hp
  have hold : ∀ p ∈ before, (fun b => decide (b < W.heap.size)) p.block = true := fun p hp => by simpa using hlt p hp
  have hW0 := hW
  obtain ⟨pa, pv, hA, hV, rfl, hz, hn⟩ := hW
  rw [hv] at hV
  obtain ⟨rfl, rfl⟩ := trodVars_none hV
  have hres : ∀ (b : Nat) (sp : Nat → Bool) (hd : Bool), DataW.TrodAll enc P W' b sp hd f.resultTypes.toList ((Value.bool true).resultList f.resultTypes.size) (s.fn H (ds ++ [])).results [] := fun b sp hd => by
    rw [hs.1, hr]; exact trodAll_cons_mk (shut_bool ht _) trodAll_mk0
  have hargs : ∀ sp : Nat → Bool, (∀ p ∈ pa ++ [], sp p.block = true) → DataW.TrodAll enc P W' 0 sp true f.params.toList args.toList (s.fn H (ds ++ [])).args pa := fun sp hsp => by
    rw [hs.2.1]; exact trodAll_stays hl hb hps hA (fun p hp => hlt p (by simpa using hp)) (fun p hp => hsp p (by simpa using hp))
  have hvars : ∀ sp : Nat → Bool, DataW.TrodVars enc P W' sp s.vars (s.fn H (ds ++ [])).vars [] := fun sp => by rw [hv, hs.2.2]; rfl
  refine ⟨ds, [], pa ++ [], [], pa, [], hW0, hres _ _ _, hargs _ hold, hvars _, World.keptBut_mono (fun p hp => ⟨hp, Or.inr (List.mem_append.1 hp)⟩) (hb.frame (· ∈ pa ++ [])), fun _ => ?_⟩
  refine ⟨?_, _, _, ([] ++ pa) ++ [], ⟨[] ++ pa, [], trodAll_append (hargs _ (fun _ _ => rfl)) (hres _ _ _), hvars _, rfl, ?_, ?_⟩, ?_⟩
  · intro j t r h1 h2
    rw [hr] at h1 h2
    match j, h1, h2 with
    | 0, h1, h2 =>
      obtain rfl : tb = t := by simpa using h1
      obtain rfl : Value.bool true = r := by simpa [Value.resultList] using h2
      exact okWide_bool_mk ht _
    | j + 1, h1, _ => simp at h1
  · intro b off hp
    have hp' : MemPlace.cell b off ∈ pa ++ [] := by simpa using hp
    rw [hb.frozen (hlt _ hp')]
    exact hz b off hp'
  · intro ha
    simpa using hn ha
  · intro p hp _
    simpa using hp
end

open Go.PlainAid Str Mem Rws Sz Lx Wn Vr Wi
theorem heap2 {w : World} (h : Lib.Utf8Tabs 0 1 w) : 2 ≤ w.heap.size := by
  have := (h.2 0 (by omega)).1
  have := World.block_lt_of_cell? w _ this
  exact this
set_option maxRecDepth 100000 in
set_option maxHeartbeats 4000000 in
theorem walk (a0 : ByteArray) (w : World) (hT : Lib.Utf8Tabs 0 1 w) (w0 : a0.size ≤ maxLen) :
    Calls Tryd.prog 3 #[.string a0] w fun e w' => e = .returned (.bool true) ∧ Below w.heap.size w w' := by
  have hw2 := heap2 hT
  have HT := Lib.hid hT
  clear hT
  go_enter Tryd.func3, Tryd.ntmps3
  go_wp2_with fail
  refine (bytes6 a0 _ w0).mono ?_
  rintro e w' ⟨rfl, rfl⟩
  by_cases ht : a0.size ≤ 1048576
  · rw [szOk_yes ht]
    clear w0
    go_wp2_with fail
    refine (would7 a0 ht _ HT.out hw2).mono ?_
    rintro e w1 ⟨rfl, b1⟩
    go_wp2_with fail
    refine (model8 a0 ht _).mono ?_
    rintro e w2 ⟨rfl, rfl⟩
    generalize wsi a0 = B
    cases B
    all_goals
      go_wp2_with fail
      go_ret
      exact ⟨rfl, b1⟩
  · rw [szOk_no ht]
    go_wp2_with fail
    go_ret
    exact ⟨rfl, by go_grown⟩

set_option maxRecDepth 100000 in
/-- What the walk gives, for every argument and every world that holds the tables. -/
theorem contract (H : Type) (enc : TypeId × Value → H) (W : World) (base : Nat) (args : Array Value) (ds gs : List (DataW H)) (before : List MemPlace)
    (hval : ∀ (j : Nat) t v, Tryd.f3.params[j]? = some t → args[j]? = some v → Value.okWide Tryd.prog W .any base t v)
    (hW : DataW.Whole enc Tryd.prog Tryd.f3.params.toList Rows.fnWouldStartIdentifierWithoutEscapesCaseTableSpec.vars false W args.toList ds gs before) (hL : laidMetH Tryd.prog Rows.fnWouldStartIdentifierWithoutEscapesCaseTableRow.laid W) :
    Calls Tryd.prog 3 args W fun e W' => ∃ v, e = .returned v ∧ Rows.fnWouldStartIdentifierWithoutEscapesCaseTableSpec.post enc Tryd.prog Tryd.f3 false true false false W args v W' := by
  have hW' := hW
  obtain ⟨p, q, hA0, hV, rfl, hfz, hnd⟩ := hW
  have hA : DataW.TrodAll enc Tryd.prog W 0 (fun _ => true) true Tryd.f3.params.toList args.toList ds p := hA0
  rw [Tryd.params3] at hA hval
  obtain ⟨v0, vs0, d0, ds0, p0, q0, hargs0, rfl, rfl, h0, r0⟩ := trodAll_cons hA
  obtain ⟨rfl, rfl, rfl⟩ := trodAll_nil r0
  obtain rfl : args = #[v0] := by cases args; simp_all
  obtain ⟨a0, rfl, rfl, rfl, w0⟩ := Go.ChangeMaps.open_string Tryd.underlying9 (hval 0 9 v0 rfl rfl) h0
  clear hA0
  refine (walk a0 W (tabs hL) w0).mono fun e W' ⟨he, hg⟩ => ?_
  subst he
  exact ⟨_, rfl, law_post laid readEach rfl rfl Tryd.underlying4 ⟨rfl, rfl, rfl⟩ hW' hg⟩

def firstBlock : Obj → Obj
  | .cells _ t frozen => .cells (Pinned.utf8FirstZ.map fun (z : Nat) => Value.int .u8 z).toArray t frozen
  | o => o
def acceptBlock : Obj → Obj
  | .cells _ t frozen => .cells ((List.range 16).flatMap fun i => [Value.int .u8 (Lib.accLo i : Nat), Value.int .u8 (Lib.accHi i : Nat)]).toArray t frozen
  | o => o
/-- A world for the witness: the settled one, the two tables holding what their initialisers lay. -/
noncomputable def laidWorld (os : Os) : World :=
  { World.holding Tryd.prog os ⟨#[], #[], []⟩ with heap := ((World.holding Tryd.prog os ⟨#[], #[], []⟩).heap.modify 0 firstBlock).modify 1 acceptBlock }
theorem laid_met (os : Os) : laidMet Tryd.prog Rows.fnWouldStartIdentifierWithoutEscapesCaseTableRow.laid ((laidWorld os).forCall (fun _ _ => 0) ⟨#[], #[.string ⟨#[]⟩], []⟩).memory :=
  laidMet_of_run' 8 (by kernel_rfl) (by kernel_rfl)
theorem reads (os : Os) {H : Type} (enc : TypeId × Value → H) : ∃ places, DataW.whole enc Tryd.prog ((laidWorld os).forCall (fun _ _ => 0) ⟨#[], #[.string ⟨#[]⟩], []⟩).memory Tryd.f3.params.toList Rows.fnWouldStartIdentifierWithoutEscapesCaseTableSpec.vars false (#[.string ⟨#[]⟩] : Array Value).toList 8 = some ([.lit (.string [])], [], places) :=
  ⟨[], by kernel_rfl⟩

set_option maxRecDepth 100000 in
theorem lifted (os : Os) (started : os.Started) (H : Type) (enc : TypeId × Value → H) (F : Stop.Interp) :
    ReturnsInHanded {} Tryd.checked os 3 .any ((OpenSpec.ofChange Rows.fnWouldStartIdentifierWithoutEscapesCaseTableSpec).preRow enc Tryd.prog Tryd.f3 Rows.fnWouldStartIdentifierWithoutEscapesCaseTableRow.domain false Rows.fnWouldStartIdentifierWithoutEscapesCaseTableRow.laid) (((OpenSpec.ofChange Rows.fnWouldStartIdentifierWithoutEscapesCaseTableSpec).at F).post enc Tryd.prog Tryd.f3 false true false false) := by
  obtain ⟨places, hx⟩ := reads os enc
  refine returnsInHanded_of_row (C := Tryd.checked) (s := OpenSpec.ofChange Rows.fnWouldStartIdentifierWithoutEscapesCaseTableSpec) own started (by kernel_rfl) Tryd.func3
    (witness_row_at (enc := enc) (C := Tryd.checked) false (laidWorld os) #[.string ⟨#[]⟩] rfl (by kernel_rfl) (by kernel_rfl) (by kernel_rfl)
      (OpenSpec.preRow_of_cond 8 hx (by kernel_rfl) (fun k hk => by cases hk) (by kernel_rfl) (laid_met os))) ?_
  intro W base args ds gs before hval hW _ _ _ hL _ _
  exact contract H enc W base args ds gs before hval hW hL

theorem said : Rows.FnWouldStartIdentifierWithoutEscapesCaseTableSaid :=
  OpenClaim.holds_of_cond 3 Tryd.f3 rfl rfl rfl rfl rfl rfl rfl ⟨rfl, rfl, rfl, rfl, rfl⟩ rfl rfl rfl rfl rfl (by kernel_rfl) Tryd.func3 (by kernel_rfl)
    (of_decide_eq_true (by kernel_rfl)) (by unfold Func.isWrapper; first | (rw [if_pos (by decide +kernel)]; kernel_rfl) | (rw [if_neg (by decide +kernel)]; exact ⟨rfl, rfl⟩))
    (fun os started H enc _ F => by rw [OpenClaim.pre_eq_preRow]; exact lifted os started H enc F)

/-- No parameter wants a stand-in; the program's own looks are off. -/
theorem plain (f : FuncId) (fn : Func) (hf : Tryd.pinned.checked.prog.funcNamed Rows.fnWouldStartIdentifierWithoutEscapesCaseTableRow.func = some f) (hfn : Tryd.pinned.checked.prog.funcs[f]? = some fn) :
    false = Tryd.pinned.checked.prog.looks [] ∧ ∀ (j : Nat) t, fn.params[j]? = some t → Tryd.pinned.checked.prog.wantsStandIn t = false := by
  obtain rfl : f = 3 := Option.some.inj ((show Tryd.prog.funcNamed Rows.fnWouldStartIdentifierWithoutEscapesCaseTableRow.func = some 3 by kernel_rfl).symm.trans hf) |>.symm
  obtain rfl : fn = Tryd.f3 := (Option.some.inj (Tryd.func3.symm.trans hfn)).symm
  refine ⟨by kernel_rfl, fun j t ht => ?_⟩
  rw [Tryd.params3] at ht
  have hm : t ∈ [9] := by simpa using Array.mem_of_getElem? ht
  have hall : ([9] : List TypeId).all (fun t => !Tryd.prog.wantsStandIn t) = true := by kernel_rfl
  have hh : Tryd.prog.wantsStandIn t = false := by simpa using List.all_eq_true.1 hall t hm
  exact hh

/-- The card. -/
theorem card : Rows.FnWouldStartIdentifierWithoutEscapesCaseTableCardSaid :=
  Claim7.holds_tied_plain_at .later [] _ _ _ _ said (fun _ h => by cases h) (by kernel_rfl) (fun _ h => by cases h) fnWouldStartIdentifierWithoutEscapesCaseTable_row_tie rfl ⟨rfl, rfl⟩ (by kernel_rfl) rfl plain (by kernel_rfl)
#print axioms card
end Go.Proofs.YtojihophipgljaaDoor.fnWouldStartIdentifierWithoutEscapesCaseTable
