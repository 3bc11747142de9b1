/-
  Proved: the tied card of the law FnStepReencodesToTheSource of folder n011_111: it returns true for every argument that its parameter types allow, wherever unicode/utf8's two tables hold what their initialisers lay, and leaves its arguments as they were; there is no further condition.
-/
import Derived.Test.YtojihophipgljaaDoorCards
import Derived.Test.YtojihophipgljaaDoorTie
import Derived.Test.YtojihophipgljaaDoorShelf
import Derived.WalkKit
import Derived.ProofKit
import Derived.OpenShut
import Derived.Below
import Derived.Carry
import Derived.ChangeMaps5
import Derived.Deep.DeepHandedRow
import Derived.Lib.LaidTab
import Derived.Lib.LaidU8
import Derived.PinnedBridge
import Derived.Handy
import Derived.Lib.Hide
import Derived.WalkSpells
import Derived.Test.YtojihophipgljaaDoorSt
import Derived.Test.YtojihophipgljaaDoorSz
namespace Go.Proofs.YtojihophipgljaaDoor.fnStepReencodesToTheSource
open Go.ChangeShapes Go.WideShapes Go.ChangeAt Go.RowKit
set_option linter.unusedVariables false

theorem own : ownKnob Tryd.prog.godebug = none := by kernel_rfl
theorem laid : laidOutB Tryd.prog = true := by kernel_rfl
theorem readAll : (Tryd.f5.params.toList.all fun t => Tryd.prog.readableRec t && decide (t < Tryd.prog.types.size)) = true := by kernel_rfl
theorem readEach : ∀ t ∈ Tryd.f5.params.toList, Tryd.prog.readableRec t = true ∧ t < Tryd.prog.types.size := fun t ht => by
  have := List.all_eq_true.1 readAll t ht
  simpa using this
theorem extra : U8Extra Tryd.prog Tryd.lays260_ren := ⟨by kernel_rfl, by kernel_rfl, by kernel_rfl, by kernel_rfl, by kernel_rfl, by kernel_rfl, by kernel_rfl⟩
theorem accept_eq : (Rows.laid_unicode_utf8_acceptRanges : DataW Unit) = Lib.acceptData := by kernel_rfl
/-- What the row's list gives: the two tables. -/
theorem tabs {W : World} (h : laidMetH Tryd.prog Rows.fnStepReencodesToTheSourceRow.laid W) : Lib.Utf8Tabs 0 1 W :=
  utf8Tabs_of_reads Tryd.lays260 extra
    (Lib.laidMet.reads h (by rw [← Pinned.utf8First_eq]; exact List.mem_cons.2 (Or.inr (List.mem_cons.2 (Or.inl rfl)))))
    (Lib.laidMet.reads h (by rw [← accept_eq]; exact List.mem_cons.2 (Or.inl rfl)))
section
variable {H : Type} {enc : TypeId × Value → H} {P : Program}
theorem trodAll_stays (hl : laidOutB P = true) {W W' : World} (hb : Below W.heap.size W W') {sp : Nat → Bool} : ∀ {ts : List TypeId} {vs : List Value} {ds : List (DataW H)} {ps : List MemPlace},
    (∀ t ∈ ts, P.readableRec t = true ∧ t < P.types.size) → DataW.TrodAll enc P W 0 (fun _ => true) true ts vs ds ps → (∀ p ∈ ps, p.block < W.heap.size) → (∀ p ∈ ps, sp p.block = true) → DataW.TrodAll enc P W' 0 sp true ts vs ds ps
  | [], [], [], _, _, h, _, _ => h
  | _ :: _, _ :: _, _ :: _, _, hT, ⟨p, q, h1, h2, e⟩, hlt, hs =>
    ⟨p, q, WideElems.Trod_stays hl (hT _ (List.mem_cons.2 (Or.inl rfl))).1 (hT _ (List.mem_cons.2 (Or.inl rfl))).2 h1 (fun x hx => hb.same (hlt x (by rw [e]; exact List.mem_append_left _ hx))) (fun x hx => hs x (by rw [e]; exact List.mem_append_left _ hx)),
      trodAll_stays hl hb (fun t ht => hT t (List.mem_cons.2 (Or.inr ht))) h2 (fun x hx => hlt x (by rw [e]; exact List.mem_append_right _ hx)) (fun x hx => hs x (by rw [e]; exact List.mem_append_right _ hx)), e⟩

/-- A law's step: the result is true, the arguments are kept, the world has changed in new blocks alone. -/
theorem law_post {f : Func} {s : ChangeSpec} {apart fresh handsOn again : Bool} {W W' : World} {args : Array Value} {ds gs : List (DataW H)} {before : List MemPlace} {tb : TypeId}
    (hl : laidOutB P = true) (hps : ∀ t ∈ f.params.toList, P.readableRec t = true ∧ t < P.types.size) (hv : s.vars = []) (hr : f.resultTypes = #[tb]) (ht : P.underlying tb = some .bool)
    (hs : (s.fn H (ds ++ [])).results = [.lit (.bool true)] ∧ (s.fn H (ds ++ [])).args = ds ∧ (s.fn H (ds ++ [])).vars = [])
    (hW : DataW.Whole enc P f.params.toList s.vars apart W args.toList ds gs before) (hb : Below W.heap.size W W') :
    s.post enc P f apart fresh handsOn again W args (.bool true) W' := by
  have hlt : ∀ p ∈ before, p.block < W.heap.size := fun p hp => hW.lt p hp
  have hold : ∀ p ∈ before, (fun b => decide (b < W.heap.size)) p.block = true := fun p hp => by simpa using hlt p hp
  have hW0 := hW
  obtain ⟨pa, pv, hA, hV, rfl, hz, hn⟩ := hW
  rw [hv] at hV
  obtain ⟨rfl, rfl⟩ := trodVars_none hV
  have hres : ∀ (b : Nat) (sp : Nat → Bool) (hd : Bool), DataW.TrodAll enc P W' b sp hd f.resultTypes.toList ((Value.bool true).resultList f.resultTypes.size) (s.fn H (ds ++ [])).results [] := fun b sp hd => by
    rw [hs.1, hr]; exact trodAll_cons_mk (shut_bool ht _) trodAll_mk0
  have hargs : ∀ sp : Nat → Bool, (∀ p ∈ pa ++ [], sp p.block = true) → DataW.TrodAll enc P W' 0 sp true f.params.toList args.toList (s.fn H (ds ++ [])).args pa := fun sp hsp => by
    rw [hs.2.1]; exact trodAll_stays hl hb hps hA (fun p hp => hlt p (by simpa using hp)) (fun p hp => hsp p (by simpa using hp))
  have hvars : ∀ sp : Nat → Bool, DataW.TrodVars enc P W' sp s.vars (s.fn H (ds ++ [])).vars [] := fun sp => by rw [hv, hs.2.2]; rfl
  refine ⟨ds, [], pa ++ [], [], pa, [], hW0, hres _ _ _, hargs _ hold, hvars _, World.keptBut_mono (fun p hp => ⟨hp, Or.inr (List.mem_append.1 hp)⟩) (hb.frame (· ∈ pa ++ [])), fun _ => ?_⟩
  refine ⟨?_, _, _, ([] ++ pa) ++ [], ⟨[] ++ pa, [], trodAll_append (hargs _ (fun _ _ => rfl)) (hres _ _ _), hvars _, rfl, ?_, ?_⟩, ?_⟩
  · intro j t r h1 h2
    rw [hr] at h1 h2
    match j, h1, h2 with
    | 0, h1, h2 =>
      obtain rfl : tb = t := by simpa using h1
      obtain rfl : Value.bool true = r := by simpa [Value.resultList] using h2
      exact okWide_bool_mk ht _
    | j + 1, h1, _ => simp at h1
  · intro b off hp
    have hp' : MemPlace.cell b off ∈ pa ++ [] := by simpa using hp
    rw [hb.frozen (hlt _ hp')]
    exact hz b off hp'
  · intro ha
    simpa using hn ha
  · intro p hp _
    simpa using hp
end

open Go.PlainAid Str Mem Rws Sz Lx Wn Vr En Es St
theorem heap2 {w : World} (h : Lib.Utf8Tabs 0 1 w) : 2 ≤ w.heap.size := by
  have := (h.2 0 (by omega)).1
  have := World.block_lt_of_cell? w _ this
  exact this
theorem below_fr {w w1 w2 : World} {g : Nat} (hb : Below w.heap.size w w1) (hg : w.heap.size ≤ g) (f : Fr g w1 w2) : Below w.heap.size w w2 :=
  ⟨f.os.trans hb.os, f.tape.trans hb.tape, f.output.trans hb.output, Nat.le_trans hb.size f.size, fun b h => (f.block b (Nat.lt_of_lt_of_le h hb.size) (by omega)).trans (hb.block b h)⟩
theorem below_n {B : Nat} {a w : World} (h : Below B a w) (n : Nat) : Below B a (w.drewN n) := h.trans ⟨rfl, rfl, rfl, Nat.le_refl _, fun _ _ => rfl⟩
/-- The lexer at a round's head: the place is p, p at most the text's size, the newlines at most p. -/
structure Hd (w : World) (g : Nat) (s : ByteArray) (p j : Nat) (wr : World) : Prop where
  jp : j ≤ p
  ps : p ≤ s.size
  lx : ∃ nl cp tl cs, LX wr g s nl (p : Int) cp 0 tl cs ∧ 0 ≤ nl ∧ nl ≤ (p : Int)
  be : Below w.heap.size w wr
theorem LX.drewN {w : World} {g : Nat} {s : ByteArray} {nl cur cp ts tl : Int} {cs : Array Value} (h : LX w g s nl cur cp ts tl cs) (n : Nat) : LX (w.drewN n) g s nl cur cp ts tl cs :=
  ⟨h.own.below ⟨rfl, rfl, rfl, Nat.le_refl _, fun _ _ => rfl⟩ h.own.lt, h.sz, h.c10, h.c32, h.c33, h.c35, h.c36, h.c37⟩
set_option maxRecDepth 100000 in
set_option maxHeartbeats 4000000 in
theorem walk (a0 : ByteArray) (w : World) (hT : Lib.Utf8Tabs 0 1 w) (w0 : a0.size ≤ maxLen) :
    Calls Tryd.prog 5 #[.string a0] w fun e w' => e = .returned (.bool true) ∧ Below w.heap.size w w' := by
  have hw2 := heap2 hT
  have HT := Lib.hid hT
  clear hT
  go_enter Tryd.func5, Tryd.ntmps5
  go_wp2_with fail
  refine (bytes14 a0 _ w0).mono ?_
  rintro e w' ⟨rfl, rfl⟩
  by_cases ht : a0.size ≤ 1048576
  · rw [szOk_yes ht]
    clear w0
    go_wp2_with fail
    refine (new15 a0 _ _).mono ?_
    rintro e w1 ⟨cs1, rfl, h1, b1⟩
    have HB1 := Lib.hid b1
    have HH : Hid (Hd w w.heap.size a0 0 0 w1) := Lib.hid ⟨Nat.le_refl _, Nat.zero_le _, ⟨_, _, _, _, h1, Int.le_refl _, Int.le_refl _⟩, b1⟩
    clear h1 b1
    go_wp2_with fail
    go_loopw [4, 5] (fun v i wr => ∃ p j : Nat, v = .int .i64 p ∧ i = .int .i64 j ∧ Hid (Hd w w.heap.size a0 p j wr)) (fun v i wr => a0.size + 1 - (intOf i).toNat)
    case atStart => exact ⟨0, 0, rfl, rfl, HH⟩
    case round =>
      obtain ⟨p, j, rfl, rfl, HR⟩ := hrel
      obtain ⟨hjp, hps, ⟨nl, cp, tl, cs, hl, n0, n1⟩, hbe⟩ := HR.out
      have HBE := Lib.hid hbe
      have HL := Lib.hid hl
      have hz := hbe.size
      clear hl hbe HH HB1 HR
      have tj : decide (j ≤ a0.size) = true := decide_eq_true (by omega)
      have tj' : decide ((j : Int) ≤ (a0.size : Int)) = true := decide_eq_true (by omega)
      go_wp2_with fail
      refine (step16 w.heap.size a0 p nl cp 0 tl cs wr HL.out (tabs_below HT.out hw2 HBE.out) (Nat.le_trans hw2 hz) ht hps n0 (by omega) (Int.le_refl _) (by decide)).mono ?_
      rintro e w2 ⟨cs2, nl2, rfl, h2, hn2, hn3, f2⟩
      have HB2 := Lib.hid (below_fr HBE.out (Nat.le_refl _) f2)
      have H2 := Lib.hid h2
      clear h2 f2 HL HBE
      go_wp2_with fail
      refine (cp17 _ _ _ _ _ _ _ _ _ H2.out).mono ?_
      rintro e w3 ⟨rfl, rfl⟩
      go_wp2_with fail
      refine (cur18 _ _ _ _ _ _ _ _ _ H2.out).mono ?_
      rintro e w3 ⟨rfl, rfl⟩
      by_cases hp : p < a0.size
      · obtain ⟨r0, r1, k1, k4, kz, hcase⟩ := round hp
        have HC := Lib.hid (show wdOf a0 p = wdOf a0 p from rfl)
        generalize hR : cpOf a0 p = R at *
        generalize hK : wdOf a0 p = K at *
        have tm : (R == -1) = false := beq_eq_false_iff_ne.2 (by omega)
        have tp : decide (a0.size ≤ p) = false := decide_eq_false (by omega)
        have tp' : decide ((a0.size : Int) ≤ (p : Int)) = false := decide_eq_false (by omega)
        have k1' : decide ((K : Int) < 1) = false := decide_eq_false (by omega)
        have k4' : decide ((4 : Int) < (K : Int)) = false := decide_eq_false (by omega)
        have es : (((p + K : Nat) : Nat) : Int) - (p : Int) = (K : Int) := by omega
        have es' : (p : Int) + (K : Int) - (p : Int) = (K : Int) := by omega
        have H3 : Hid (∀ n, Hd w w.heap.size a0 (p + K) (j + 1) (w2.drewN n)) := Lib.hid fun n => ⟨by omega, kz, ⟨_, _, _, _, LX.drewN H2.out n, by omega, by omega⟩, below_n HB2.out n⟩
        clear H2 HC hR hK HB2
        have hgb := get_bt a0
        rcases hcase with ⟨c1, c2, c3, c4⟩ | ⟨c1, c2⟩
        · have t1 : (R == 65533) = true := beq_iff_eq.2 c1
          have t2 : ((K : Int) == 1) = true := beq_iff_eq.2 (by omega)
          have t3 : decide (bt a0 p < 128) = false := decide_eq_false (by omega)
          have HS := Lib.hid (fun W => some19 a0 p ht hp c3 c4 W)
          clear c1 c2 c4
          go_wp2_with fail
          refine (HS.out _).mono ?_
          rintro e w4 ⟨rfl, n, rfl⟩
          clear HS
          go_wp2_with fail
          go_roundw
          case rel => exact ⟨p + K, j + 1, by go_num, by go_num, Lib.hid (H3.out n)⟩
          case measure => simp [intOf]; omega
        · have HS : Hid (∀ W, Calls Tryd.prog 20 #[.int .i32 R, .string a0, .int .i64 (p : Int), .int .i64 (K : Int)] W fun e w' => e = .returned (.bool true) ∧ W = w') := Lib.hid fun W => by
            have e := enc20 a0 p K R ht k1 k4 kz r0 (by omega) W
            rw [c2] at e
            exact e
          clear c2
          by_cases c3 : R = 65533
          · have t1 : (R == 65533) = true := beq_iff_eq.2 c3
            have t2 : ((K : Int) == 1) = false := beq_eq_false_iff_ne.2 (by omega)
            clear c1 c3
            go_wp2_with fail
            refine (HS.out _).mono ?_
            rintro e w4 ⟨rfl, rfl⟩
            clear HS
            go_wp2_with fail
            go_roundw
            case rel => exact ⟨p + K, j + 1, by go_num, by go_num, Lib.hid (H3.out 0)⟩
            case measure => simp [intOf]; omega
          · have t1 : (R == 65533) = false := beq_eq_false_iff_ne.2 c3
            clear c1 c3
            go_wp2_with fail
            refine (HS.out _).mono ?_
            rintro e w4 ⟨rfl, rfl⟩
            clear HS
            go_wp2_with fail
            go_roundw
            case rel => exact ⟨p + K, j + 1, by go_num, by go_num, Lib.hid (H3.out 0)⟩
            case measure => simp [intOf]; omega
      · obtain ⟨e1, e2⟩ := at_end (show a0.size ≤ p by omega)
        rw [e1, e2]
        have t1 : ((p : Int) == (a0.size : Int)) = true := beq_iff_eq.2 (by omega)
        have t2 : (((p + 0 : Nat) : Int) == (p : Int)) = true := beq_iff_eq.2 (by omega)
        clear e1 e2 H2
        go_wp2_with fail
        go_ret
        exact ⟨by first | rfl | (simp; omega), HB2.out⟩
  · rw [szOk_no ht]
    go_wp2_with fail
    go_ret
    exact ⟨rfl, by go_grown⟩

set_option maxRecDepth 100000 in
/-- What the walk gives, for every argument and every world that holds the tables. -/
theorem contract (H : Type) (enc : TypeId × Value → H) (W : World) (base : Nat) (args : Array Value) (ds gs : List (DataW H)) (before : List MemPlace)
    (hval : ∀ (j : Nat) t v, Tryd.f5.params[j]? = some t → args[j]? = some v → Value.okWide Tryd.prog W .any base t v)
    (hW : DataW.Whole enc Tryd.prog Tryd.f5.params.toList Rows.fnStepReencodesToTheSourceSpec.vars false W args.toList ds gs before) (hL : laidMetH Tryd.prog Rows.fnStepReencodesToTheSourceRow.laid W) :
    Calls Tryd.prog 5 args W fun e W' => ∃ v, e = .returned v ∧ Rows.fnStepReencodesToTheSourceSpec.post enc Tryd.prog Tryd.f5 false true false false W args v W' := by
  have hW' := hW
  obtain ⟨p, q, hA0, hV, rfl, hfz, hnd⟩ := hW
  have hA : DataW.TrodAll enc Tryd.prog W 0 (fun _ => true) true Tryd.f5.params.toList args.toList ds p := hA0
  rw [Tryd.params5] at hA hval
  obtain ⟨v0, vs0, d0, ds0, p0, q0, hargs0, rfl, rfl, h0, r0⟩ := trodAll_cons hA
  obtain ⟨rfl, rfl, rfl⟩ := trodAll_nil r0
  obtain rfl : args = #[v0] := by cases args; simp_all
  obtain ⟨a0, rfl, rfl, rfl, w0⟩ := Go.ChangeMaps.open_string Tryd.underlying9 (hval 0 9 v0 rfl rfl) h0
  clear hA0
  refine (walk a0 W (tabs hL) w0).mono fun e W' ⟨he, hg⟩ => ?_
  subst he
  exact ⟨_, rfl, law_post laid readEach rfl rfl Tryd.underlying4 ⟨rfl, rfl, rfl⟩ hW' hg⟩

def firstBlock : Obj → Obj
  | .cells _ t frozen => .cells (Pinned.utf8FirstZ.map fun (z : Nat) => Value.int .u8 z).toArray t frozen
  | o => o
def acceptBlock : Obj → Obj
  | .cells _ t frozen => .cells ((List.range 16).flatMap fun i => [Value.int .u8 (Lib.accLo i : Nat), Value.int .u8 (Lib.accHi i : Nat)]).toArray t frozen
  | o => o
/-- A world for the witness: the settled one, the two tables holding what their initialisers lay. -/
noncomputable def laidWorld (os : Os) : World :=
  { World.holding Tryd.prog os ⟨#[], #[], []⟩ with heap := ((World.holding Tryd.prog os ⟨#[], #[], []⟩).heap.modify 0 firstBlock).modify 1 acceptBlock }
theorem laid_met (os : Os) : laidMet Tryd.prog Rows.fnStepReencodesToTheSourceRow.laid ((laidWorld os).forCall (fun _ _ => 0) ⟨#[], #[.string ⟨#[]⟩], []⟩).memory :=
  laidMet_of_run' 8 (by kernel_rfl) (by kernel_rfl)
theorem reads (os : Os) {H : Type} (enc : TypeId × Value → H) : ∃ places, DataW.whole enc Tryd.prog ((laidWorld os).forCall (fun _ _ => 0) ⟨#[], #[.string ⟨#[]⟩], []⟩).memory Tryd.f5.params.toList Rows.fnStepReencodesToTheSourceSpec.vars false (#[.string ⟨#[]⟩] : Array Value).toList 8 = some ([.lit (.string [])], [], places) :=
  ⟨[], by kernel_rfl⟩

set_option maxRecDepth 100000 in
theorem lifted (os : Os) (started : os.Started) (H : Type) (enc : TypeId × Value → H) (F : Stop.Interp) :
    ReturnsInHanded {} Tryd.checked os 5 .any ((OpenSpec.ofChange Rows.fnStepReencodesToTheSourceSpec).preRow enc Tryd.prog Tryd.f5 Rows.fnStepReencodesToTheSourceRow.domain false Rows.fnStepReencodesToTheSourceRow.laid) (((OpenSpec.ofChange Rows.fnStepReencodesToTheSourceSpec).at F).post enc Tryd.prog Tryd.f5 false true false false) := by
  obtain ⟨places, hx⟩ := reads os enc
  refine returnsInHanded_of_row (C := Tryd.checked) (s := OpenSpec.ofChange Rows.fnStepReencodesToTheSourceSpec) own started (by kernel_rfl) Tryd.func5
    (witness_row_at (enc := enc) (C := Tryd.checked) false (laidWorld os) #[.string ⟨#[]⟩] rfl (by kernel_rfl) (by kernel_rfl) (by kernel_rfl)
      (OpenSpec.preRow_of_cond 8 hx (by kernel_rfl) (fun k hk => by cases hk) (by kernel_rfl) (laid_met os))) ?_
  intro W base args ds gs before hval hW _ _ _ hL _ _
  exact contract H enc W base args ds gs before hval hW hL

theorem said : Rows.FnStepReencodesToTheSourceSaid :=
  OpenClaim.holds_of_cond 5 Tryd.f5 rfl rfl rfl rfl rfl rfl rfl ⟨rfl, rfl, rfl, rfl, rfl⟩ rfl rfl rfl rfl rfl (by kernel_rfl) Tryd.func5 (by kernel_rfl)
    (of_decide_eq_true (by kernel_rfl)) (by unfold Func.isWrapper; first | (rw [if_pos (by decide +kernel)]; kernel_rfl) | (rw [if_neg (by decide +kernel)]; exact ⟨rfl, rfl⟩))
    (fun os started H enc _ F => by rw [OpenClaim.pre_eq_preRow]; exact lifted os started H enc F)

/-- No parameter wants a stand-in; the program's own looks are off. -/
theorem plain (f : FuncId) (fn : Func) (hf : Tryd.pinned.checked.prog.funcNamed Rows.fnStepReencodesToTheSourceRow.func = some f) (hfn : Tryd.pinned.checked.prog.funcs[f]? = some fn) :
    false = Tryd.pinned.checked.prog.looks [] ∧ ∀ (j : Nat) t, fn.params[j]? = some t → Tryd.pinned.checked.prog.wantsStandIn t = false := by
  obtain rfl : f = 5 := Option.some.inj ((show Tryd.prog.funcNamed Rows.fnStepReencodesToTheSourceRow.func = some 5 by kernel_rfl).symm.trans hf) |>.symm
  obtain rfl : fn = Tryd.f5 := (Option.some.inj (Tryd.func5.symm.trans hfn)).symm
  refine ⟨by kernel_rfl, fun j t ht => ?_⟩
  rw [Tryd.params5] at ht
  have hm : t ∈ [9] := by simpa using Array.mem_of_getElem? ht
  have hall : ([9] : List TypeId).all (fun t => !Tryd.prog.wantsStandIn t) = true := by kernel_rfl
  have hh : Tryd.prog.wantsStandIn t = false := by simpa using List.all_eq_true.1 hall t hm
  exact hh

/-- The card. -/
theorem card : Rows.FnStepReencodesToTheSourceCardSaid :=
  Claim7.holds_tied_plain_at .later [] _ _ _ _ said (fun _ h => by cases h) (by kernel_rfl) (fun _ h => by cases h) fnStepReencodesToTheSource_row_tie rfl ⟨rfl, rfl⟩ (by kernel_rfl) rfl plain (by kernel_rfl)
#print axioms card
end Go.Proofs.YtojihophipgljaaDoor.fnStepReencodesToTheSource
