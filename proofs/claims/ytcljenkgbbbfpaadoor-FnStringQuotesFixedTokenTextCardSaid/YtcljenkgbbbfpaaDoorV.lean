/-
  Proved: the tied card of the law FnStringQuotesFixedTokenText of folder n011_281: it returns true for every argument that its parameter types allow, wherever unicode/utf8's two tables hold what their initialisers lay, and the variable tokenToString of internal/css_lexer what its initialiser lays, and leaves its arguments and that variable as they were; there is no further condition.
-/
import Derived.Test.YtcljenkgbbbfpaaDoorCards
import Derived.Test.YtcljenkgbbbfpaaDoorTie
import Derived.Test.YtcljenkgbbbfpaaDoorShelf
import Derived.ChangeVars
import Derived.Deep.Strs
import Derived.Deep.DeepWitnessRef
import Derived.WalkKit
import Derived.ProofKit
import Derived.OpenShut
import Derived.Below
import Derived.Carry
import Derived.ChangeMaps5
import Derived.Deep.DeepHandedRow
import Derived.Lib.LaidTab
import Derived.Lib.LaidU8
import Derived.PinnedBridge
import Derived.Handy
import Derived.Lib.Hide
import Derived.WalkSpells
import Derived.OwnWalk
import Derived.Test.YtcljenkgbbbfpaaDoorNu
namespace Go.Proofs.YtcljenkgbbbfpaaDoor.fnStringQuotesFixedTokenText
open Go.ChangeShapes Go.WideShapes Go.ChangeAt Go.RowKit
set_option linter.unusedVariables false

theorem own : ownKnob Tryd.prog.godebug = none := by kernel_rfl
theorem laid : laidOutB Tryd.prog = true := by kernel_rfl
theorem readAll : (Tryd.f6.params.toList.all fun t => Tryd.prog.readableRec t && decide (t < Tryd.prog.types.size)) = true := by kernel_rfl
theorem readEach : ∀ t ∈ Tryd.f6.params.toList, Tryd.prog.readableRec t = true ∧ t < Tryd.prog.types.size := fun t ht => by
  have := List.all_eq_true.1 readAll t ht
  simpa using this
theorem extra : U8Extra Tryd.prog Tryd.lays260_ren := ⟨by kernel_rfl, by kernel_rfl, by kernel_rfl, by kernel_rfl, by kernel_rfl, by kernel_rfl, by kernel_rfl⟩
theorem accept_eq : (Rows.laid_unicode_utf8_acceptRanges : DataW Unit) = Lib.acceptData := by kernel_rfl
/-- What the row's list gives: the two tables. -/
theorem tabs {W : World} (h : laidMetH Tryd.prog Rows.fnStringQuotesFixedTokenTextRow.laid W) : Lib.Utf8Tabs 1 2 W :=
  utf8Tabs_of_reads Tryd.lays260 extra
    (Lib.laidMet.reads h (by rw [← Pinned.utf8First_eq]; exact List.mem_cons.2 (Or.inr (List.mem_cons.2 (Or.inr (List.mem_cons.2 (Or.inl rfl)))))))
    (Lib.laidMet.reads h (by rw [← accept_eq]; exact List.mem_cons.2 (Or.inl rfl)))
theorem vName : Tryd.prog.globalNamed "github.com/evanw/esbuild/internal/css_lexer.tokenToString" = some 0 := by kernel_rfl
theorem vType : (Tryd.prog.globals[0]?).map (·.type) = some 93 := by kernel_rfl
theorem vRead : Tryd.prog.readableRec 93 = true ∧ 93 < Tryd.prog.types.size := ⟨by kernel_rfl, of_decide_eq_true (by kernel_rfl)⟩
theorem vReads : ∀ g t, Tryd.prog.globalNamed "github.com/evanw/esbuild/internal/css_lexer.tokenToString" = some g → (Tryd.prog.globals[g]?).map (·.type) = some t → Tryd.prog.readableRec t = true ∧ t < Tryd.prog.types.size := fun g t h1 h2 => by
  obtain rfl := Option.some.inj (vName.symm.trans h1)
  obtain rfl := Option.some.inj (vType.symm.trans h2)
  exact vRead
def nameOf : DataW Unit → List (List UInt8)
  | .slice xs _ => xs.map fun | .lit (.string l) => l | _ => []
  | _ => []
theorem nameOf_eq : nameOf Rows.laid_github_com_evanw_esbuild_internal_css_lexer_tokenToString = Nu.nameList := by kernel_rfl
theorem nameLen : Nu.nameList.length = 40 := by kernel_rfl
/-- What the row's list gives: the variable's slice of names. -/
theorem names {W : World} (h : laidMetH Tryd.prog Rows.fnStringQuotesFixedTokenTextRow.laid W) : Nu.Names W := by
  obtain ⟨g, t, cs, fuel, p, hg, hty, hvar, hd⟩ := Lib.laidMet.reads h (List.mem_cons.2 (Or.inr (List.mem_cons.2 (Or.inl rfl))))
  obtain rfl := Option.some.inj (vName.symm.trans hg)
  obtain rfl := Option.some.inj (vType.symm.trans hty)
  rcases Deep.open_strs Tryd.underlying93 Tryd.underlying9 (by kernel_rfl) hd with ⟨_, he⟩ | ⟨a, len, cap, m, S, hcs, _, hl, hm, hmm, hx, hc⟩
  · have e := congrArg (fun x : DataW Unit × List MemPlace => (nameOf x.1).length) he
    have e' : Nu.nameList.length = 0 := by rw [← nameOf_eq]; exact e
    rw [nameLen] at e'
    cases e'
  · have e := congrArg (fun x : DataW Unit × List MemPlace => nameOf x.1) hx
    have e' : Nu.nameList = (List.range len).map fun i => (S i).data.toList := by
      rw [← nameOf_eq]
      refine e.trans ?_
      simp [nameOf]
    have hlen : len = 40 := by have := congrArg List.length e'; rw [nameLen] at this; simpa using this.symm
    subst hlen
    have hm40 : 40 ≤ m := by rw [hmm]; split <;> omega
    obtain ⟨b, off, spot⟩ := a
    have hspot : spot = none := by simpa [Addr.add] using World.cell?_spot (hc 0 (by omega)).1
    subst hspot
    have e0 : ∀ j, (⟨b, off, none⟩ : Addr).add j = ⟨b, off + j, none⟩ := fun j => Mem.add_none b off j
    have hb : b < W.heap.size := by
      have h0 := (hc 0 (by omega)).1
      rw [e0] at h0
      exact World.block_lt_of_cell? W _ h0
    have hv0 : W.cell? ⟨0, 0, none⟩ = some (.slice (some ⟨b, off, none⟩) 40 cap) := by
      rw [World.var?_cell hg hvar 0, ← Array.getElem?_toList, hcs]; rfl
    refine ⟨b, off, cap, S, hv0, hb, World.block_lt_of_cell? W _ hv0, fun j hj => by rw [← e0]; exact (hc j (by omega)).1, fun j hj => ?_⟩
    rw [e']
    simp [hj]
section
variable {H : Type} {enc : TypeId × Value → H} {P : Program}
theorem trodAll_stays (hl : laidOutB P = true) {W W' : World} (hb : Below W.heap.size W W') {sp : Nat → Bool} : ∀ {ts : List TypeId} {vs : List Value} {ds : List (DataW H)} {ps : List MemPlace},
    (∀ t ∈ ts, P.readableRec t = true ∧ t < P.types.size) → DataW.TrodAll enc P W 0 (fun _ => true) true ts vs ds ps → (∀ p ∈ ps, p.block < W.heap.size) → (∀ p ∈ ps, sp p.block = true) → DataW.TrodAll enc P W' 0 sp true ts vs ds ps
  | [], [], [], _, _, h, _, _ => h
  | _ :: _, _ :: _, _ :: _, _, hT, ⟨p, q, h1, h2, e⟩, hlt, hs =>
    ⟨p, q, WideElems.Trod_stays hl (hT _ (List.mem_cons.2 (Or.inl rfl))).1 (hT _ (List.mem_cons.2 (Or.inl rfl))).2 h1 (fun x hx => hb.same (hlt x (by rw [e]; exact List.mem_append_left _ hx))) (fun x hx => hs x (by rw [e]; exact List.mem_append_left _ hx)),
      trodAll_stays hl hb (fun t ht => hT t (List.mem_cons.2 (Or.inr ht))) h2 (fun x hx => hlt x (by rw [e]; exact List.mem_append_right _ hx)) (fun x hx => hs x (by rw [e]; exact List.mem_append_right _ hx)), e⟩

theorem var_below {W W' : World} {B g : Nat} {n : String} {cs : Array Value} (h : Below B W W') (hg : P.globalNamed n = some g) (hgB : g < B) (hv : W.var? P n = some cs) : W'.var? P n = some cs := by
  simp only [World.var?, hg, Option.bind_some] at hv ⊢
  rw [h.block g hgB]
  exact hv
theorem var_lt {W : World} {g : Nat} {n : String} {cs : Array Value} (hg : P.globalNamed n = some g) (hv : W.var? P n = some cs) : g < W.heap.size := by
  simp only [World.var?, hg, Option.bind_some] at hv
  rcases Nat.lt_or_ge g W.heap.size with h | h
  · exact h
  · rw [Array.getElem?_eq_none h] at hv
    cases hv
theorem trodVars_stays (hl : laidOutB P = true) {W W' : World} (hb : Below W.heap.size W W') {n : String} {gs : List (DataW H)} {ps : List MemPlace} (hr : ∀ g t, P.globalNamed n = some g → (P.globals[g]?).map (·.type) = some t → P.readableRec t = true ∧ t < P.types.size)
    (h : DataW.TrodVars enc P W (fun _ => true) [n] gs ps) (hlt : ∀ p ∈ ps, p.block < W.heap.size) {sp : Nat → Bool} (hs : ∀ p ∈ ps, sp p.block = true) : DataW.TrodVars enc P W' sp [n] gs ps := by
  obtain ⟨g, t, cs, fuel, d, p, rfl, h1, h2, h3, h4, e⟩ := trodVars_one h
  obtain ⟨hr1, hr2⟩ := hr g t h1 h2
  obtain ⟨fuel', h4'⟩ := WideElems.Trod_stays (v := .agg cs) hl hr1 hr2 ⟨fuel, h4⟩ (fun x hx => hb.same (hlt x (by rw [e]; exact List.mem_append_right _ hx))) (fun x hx => hs x (by rw [e]; exact List.mem_append_right _ hx))
  rw [e]
  exact trodVars_mk1 h1 h2 (var_below hb h1 (var_lt h1 h3) h3) h4'
/-- A law's step: the result is true, the arguments and the variable are kept, the world has changed in new blocks alone. -/
theorem law_post1 {f : Func} {s : ChangeSpec} {apart fresh handsOn again : Bool} {W W' : World} {args : Array Value} {ds gs : List (DataW H)} {before : List MemPlace} {tb : TypeId} {n : String}
    (hl : laidOutB P = true) (hps : ∀ t ∈ f.params.toList, P.readableRec t = true ∧ t < P.types.size) (hv : s.vars = [n]) (hvr : ∀ g t, P.globalNamed n = some g → (P.globals[g]?).map (·.type) = some t → P.readableRec t = true ∧ t < P.types.size) (hr : f.resultTypes = #[tb]) (ht : P.underlying tb = some .bool)
    (hs : (s.fn H (ds ++ gs)).results = [.lit (.bool true)] ∧ (s.fn H (ds ++ gs)).args = ds ∧ (s.fn H (ds ++ gs)).vars = gs)
    (hW : DataW.Whole enc P f.params.toList s.vars apart W args.toList ds gs before) (hb : Below W.heap.size W W') :
    s.post enc P f apart fresh handsOn again W args (.bool true) W' := by
  have hlt : ∀ p ∈ before, p.block < W.heap.size := fun p hp => hW.lt p hp
  have hold : ∀ p ∈ before, (fun b => decide (b < W.heap.size)) p.block = true := fun p hp => by simpa using hlt p hp
  have hW0 := hW
  obtain ⟨pa, pv, hA, hV, rfl, hz, hn⟩ := hW
  rw [hv] at hV
  have hres : ∀ (b : Nat) (sp : Nat → Bool) (hd : Bool), DataW.TrodAll enc P W' b sp hd f.resultTypes.toList ((Value.bool true).resultList f.resultTypes.size) (s.fn H (ds ++ gs)).results [] := fun b sp hd => by
    rw [hs.1, hr]; exact trodAll_cons_mk (shut_bool ht _) trodAll_mk0
  have hargs : ∀ sp : Nat → Bool, (∀ p ∈ pa ++ pv, sp p.block = true) → DataW.TrodAll enc P W' 0 sp true f.params.toList args.toList (s.fn H (ds ++ gs)).args pa := fun sp hsp => by
    rw [hs.2.1]; exact trodAll_stays hl hb hps hA (fun p hp => hlt p (List.mem_append_left _ hp)) (fun p hp => hsp p (List.mem_append_left _ hp))
  have hvars : ∀ sp : Nat → Bool, (∀ p ∈ pa ++ pv, sp p.block = true) → DataW.TrodVars enc P W' sp s.vars (s.fn H (ds ++ gs)).vars pv := fun sp hsp => by
    rw [hv, hs.2.2]; exact trodVars_stays hl hb hvr hV (fun p hp => hlt p (List.mem_append_right _ hp)) (fun p hp => hsp p (List.mem_append_right _ hp))
  refine ⟨ds, gs, pa ++ pv, [], pa, pv, hW0, hres _ _ _, hargs _ hold, hvars _ hold, World.keptBut_mono (fun p hp => ⟨hp, by rcases List.mem_append.1 hp with h | h; exact Or.inr (Or.inl h); exact Or.inr (Or.inr h)⟩) (hb.frame (· ∈ pa ++ pv)), fun _ => ?_⟩
  refine ⟨?_, _, _, ([] ++ pa) ++ pv, ⟨[] ++ pa, pv, trodAll_append (hargs _ (fun _ _ => rfl)) (hres _ _ _), hvars _ (fun _ _ => rfl), rfl, ?_, ?_⟩, ?_⟩
  · intro j t r h1 h2
    rw [hr] at h1 h2
    match j, h1, h2 with
    | 0, h1, h2 =>
      obtain rfl : tb = t := by simpa using h1
      obtain rfl : Value.bool true = r := by simpa [Value.resultList] using h2
      exact okWide_bool_mk ht _
    | j + 1, h1, _ => simp at h1
  · intro b off hp
    have hp' : MemPlace.cell b off ∈ pa ++ pv := by simpa using hp
    rw [hb.frozen (hlt _ hp')]
    exact hz b off hp'
  · intro ha
    simpa using hn ha
  · intro p hp _
    simpa using hp
end

open Go.PlainAid Str Mem Rws De Dw Nx Nt Nu
theorem heap3 {w : World} (h : Lib.Utf8Tabs 1 2 w) : 3 ≤ w.heap.size := by
  have := (h.2 0 (by omega)).1
  have := World.block_lt_of_cell? w _ this
  exact this
theorem w64 (n : Int) (h0 : 0 ≤ n) (h1 : n ≤ 1000) : wrap64 n = n := by unfold wrap64; omega
set_option maxRecDepth 100000 in
set_option maxHeartbeats 4000000 in
theorem walk (a0 : Int) (w : World) (hT : Lib.Utf8Tabs 1 2 w) (hI : Nu.Names w) (w0 : (Lit.int .u8 a0).wf = true) :
    Calls Tryd.prog 6 #[.int .u8 a0] w fun e w' => e = .returned (.bool true) ∧ Below w.heap.size w w' := by
  have hw3 := heap3 hT
  have HT := Lib.hid hT
  have HI := Lib.hid hI
  clear hT hI
  go_enter Tryd.func6, Tryd.ntmps6
  go_wp2_with fail
  have ha : 0 ≤ a0 ∧ a0 ≤ 255 := by simpa [Lit.wf, IntKind.min, IntKind.max, IntKind.signed, IntKind.bits] using w0
  have hr : (0 : Int) ≤ a0.tmod 25 ∧ a0.tmod 25 ≤ 24 := by
    rw [Int.tmod_eq_emod_of_nonneg ha.1]
    omega
  rw [w64 (a0.tmod 25) hr.1 (by omega)]
  refine (fixed25 (a0.tmod 25) hr.1 hr.2 _).mono ?_
  rintro e w1 ⟨s, c, kd, rfl, hF, rfl⟩
  have HF := Lib.hid hF
  have hsz : s.size ≤ 4 := hF.sz
  clear hF ha hr w0
  go_wp2_with fail
  refine (tz26 s c kd _ HF.out.sz HF.out.s0 HF.out.cp HF.out.wd HF.out.c0 HF.out.c1 HF.out.k0 (Int.le_of_lt (Int.lt_trans HF.out.k1 (by decide))) HF.out.nx HT.out hw3).mono ?_
  rintro e w2 ⟨h, cap, lc, t, cs, rfl, hA, q0, q1, q2, q3, q4, hb2⟩
  have hz2 := hA.lt
  have hka : ∀ (i : Nat) (v : Value), cs[i]? = some v → ∀ x, (w2.alloc x).cell? ⟨h, i, none⟩ = some v := fun i v hv x => ((hA.alloc x).cell i).trans hv
  have k0 := hka 0 _ q0
  have k1 := hka 1 _ q1
  have k2 := hka 2 _ q2
  have k3 := hka 3 _ q3
  have k4 := hka 4 _ q4
  have HI2 := Lib.hid (HI.out.below hb2)
  have HB2 := Lib.hid hb2
  have hn1 : wrap64 (s.size : Int) = (s.size : Int) := w64 _ (by omega) (by omega)
  have hn2 : ((s.size : Int) != (s.size : Int)) = false := by simp
  clear hka q0 q1 q2 q3 q4 hA hb2 HT HI
  go_wp2_with fail
  have HI3 := Lib.hid (HI2.out.below (((Below.refl _ _).alloc (Nat.le_refl _) (Obj.cells #[Value.slice (some ⟨h, 0, none⟩) 1 cap, Value.slice none 0 0, Value.slice none 0 0, Value.string ⟨#[]⟩, Value.int IntKind.i32 0, Value.int IntKind.i32 0, Value.int IntKind.i32 lc] 78)).alloc (le_alloc _ _) (Obj.cells #[Value.int IntKind.i32 0, Value.int IntKind.i32 (s.size : Int), Value.int IntKind.u16 0, Value.int IntKind.u8 kd, Value.int IntKind.u8 0] 36)))
  refine (str27 kd ((⟨#[34]⟩ : ByteArray) ++ s ++ ⟨#[34]⟩) _ HI3.out (Int.le_of_lt (Int.lt_of_lt_of_le (by decide) HF.out.k0)) HF.out.k1 HF.out.nm).mono ?_
  rintro e w4 ⟨rfl, rfl⟩
  clear HI2 HI3
  go_wp2_with fail
  refine (dflt s kd (by omega) HF.out.q1 HF.out.q26 HF.out.q27 HF.out.q28 HF.out.q29 HF.out.q36 HF.out.q37 _).mono ?_
  rintro e w5 ⟨rfl, hb5⟩
  have HB5 : Hid (Below w.heap.size w w5) := Lib.hid ((((HB2.out.alloc HB2.out.size _).alloc (Nat.le_trans HB2.out.size (le_alloc _ _)) _)).trans (hb5.mono (Nat.le_trans HB2.out.size (Nat.le_trans (le_alloc _ _) (le_alloc _ _)))))
  clear hb5 HB2
  go_wp2_with fail
  go_ret
  exact ⟨rfl, HB5.out⟩

set_option maxRecDepth 100000 in
/-- What the walk gives, for every argument and every world that holds the tables. -/
theorem contract (H : Type) (enc : TypeId × Value → H) (W : World) (base : Nat) (args : Array Value) (ds gs : List (DataW H)) (before : List MemPlace)
    (hval : ∀ (j : Nat) t v, Tryd.f6.params[j]? = some t → args[j]? = some v → Value.okWide Tryd.prog W .any base t v)
    (hW : DataW.Whole enc Tryd.prog Tryd.f6.params.toList Rows.fnStringQuotesFixedTokenTextSpec.vars false W args.toList ds gs before) (hL : laidMetH Tryd.prog Rows.fnStringQuotesFixedTokenTextRow.laid W) :
    Calls Tryd.prog 6 args W fun e W' => ∃ v, e = .returned v ∧ Rows.fnStringQuotesFixedTokenTextSpec.post enc Tryd.prog Tryd.f6 false true false false W args v W' := by
  have hW' := hW
  obtain ⟨p, q, hA0, hV, rfl, hfz, hnd⟩ := hW
  have hA : DataW.TrodAll enc Tryd.prog W 0 (fun _ => true) true Tryd.f6.params.toList args.toList ds p := hA0
  rw [Tryd.params6] at hA hval
  obtain ⟨v0, vs0, d0, ds0, p0, q0, hargs0, rfl, rfl, h0, r0⟩ := trodAll_cons hA
  obtain ⟨rfl, rfl, rfl⟩ := trodAll_nil r0
  obtain rfl : args = #[v0] := by cases args; simp_all
  obtain ⟨a0, rfl, rfl, rfl, w0⟩ := open_int Tryd.underlying5 (hval 0 5 v0 rfl rfl) h0
  clear hA0
  obtain ⟨gv, tv, csv, fv, dv, pv, rfl, hgv, _, hvv, _⟩ := trodVars_one hV
  refine (walk a0 W (tabs hL) (names hL) w0).mono fun e W' ⟨he, hg⟩ => ?_
  subst he
  exact ⟨_, rfl, law_post1 laid readEach rfl vReads rfl Tryd.underlying4 ⟨rfl, rfl, rfl⟩ hW' hg⟩

def firstBlock : Obj → Obj
  | .cells _ t frozen => .cells (Pinned.utf8FirstZ.map fun (z : Nat) => Value.int .u8 z).toArray t frozen
  | o => o
def acceptBlock : Obj → Obj
  | .cells _ t frozen => .cells ((List.range 16).flatMap fun i => [Value.int .u8 (Lib.accLo i : Nat), Value.int .u8 (Lib.accHi i : Nat)]).toArray t frozen
  | o => o
def nameBlock : Obj := .cells (Nu.nameList.map fun l => Value.string ⟨l.toArray⟩).toArray 9
def tokBlock : Obj → Obj
  | .cells _ t frozen => .cells #[.slice (some ⟨9, 0, none⟩) 40 40] t frozen
  | o => o
/-- A world for the witness: the settled one, the two tables holding what their initialisers lay. -/
noncomputable def laidWorld (os : Os) : World :=
  { World.holding Tryd.prog os ⟨#[], #[], []⟩ with heap := ((((World.holding Tryd.prog os ⟨#[], #[], []⟩).heap.modify 1 firstBlock).modify 2 acceptBlock).modify 0 tokBlock).push nameBlock }
theorem laid_met (os : Os) : laidMet Tryd.prog Rows.fnStringQuotesFixedTokenTextRow.laid ((laidWorld os).forCall (fun _ _ => 0) ⟨#[], #[.int .u8 0], []⟩).memory :=
  laidMet_of_run' 8 (by kernel_rfl) (by kernel_rfl)
theorem reads (os : Os) {H : Type} (enc : TypeId × Value → H) : ∃ places, DataW.whole enc Tryd.prog ((laidWorld os).forCall (fun _ _ => 0) ⟨#[], #[.int .u8 0], []⟩).memory Tryd.f6.params.toList Rows.fnStringQuotesFixedTokenTextSpec.vars false (#[.int .u8 0] : Array Value).toList 8 = some ([.lit (.int .u8 0)], [Rows.laid_github_com_evanw_esbuild_internal_css_lexer_tokenToString], places) :=
  ⟨MemPlace.row ⟨0, 0, none⟩ 1 ++ MemPlace.row ⟨9, 0, none⟩ 40, by kernel_rfl⟩

set_option maxRecDepth 100000 in
theorem lifted (os : Os) (started : os.Started) (H : Type) (enc : TypeId × Value → H) (F : Stop.Interp) :
    ReturnsInHanded {} Tryd.checked os 6 .any ((OpenSpec.ofChange Rows.fnStringQuotesFixedTokenTextSpec).preRow enc Tryd.prog Tryd.f6 Rows.fnStringQuotesFixedTokenTextRow.domain false Rows.fnStringQuotesFixedTokenTextRow.laid) (((OpenSpec.ofChange Rows.fnStringQuotesFixedTokenTextSpec).at F).post enc Tryd.prog Tryd.f6 false true false false) := by
  obtain ⟨places, hx⟩ := reads os enc
  refine returnsInHanded_of_row (C := Tryd.checked) (s := OpenSpec.ofChange Rows.fnStringQuotesFixedTokenTextSpec) own started (by kernel_rfl) Tryd.func6
    (by
      obtain ⟨w, tape, i, h1, h2, h3, h4, h5, h6, _⟩ := OpenSpec.witness_stopped_atRef (enc := enc) (C := Tryd.checked) (os := os) (f := 6) (fn := Tryd.f6) (s := OpenSpec.ofChange Rows.fnStringQuotesFixedTokenTextSpec) (conds := Rows.fnStringQuotesFixedTokenTextRow.domain) (apart := false) (laid := Rows.fnStringQuotesFixedTokenTextRow.laid) false (laidWorld os) #[.int .u8 0] rfl (by kernel_rfl) (by kernel_rfl) (by kernel_rfl)
        (OpenSpec.preRow_of_cond 8 hx (by kernel_rfl) (fun k hk => by cases hk) (by kernel_rfl) (laid_met os)) (fun _ _ _ => 0)
      exact ⟨w, tape, i, h1, h2, h3, h4, h5, h6⟩) ?_
  intro W base args ds gs before hval hW _ _ _ hL _ _
  exact contract H enc W base args ds gs before hval hW hL

theorem said : Rows.FnStringQuotesFixedTokenTextSaid :=
  OpenClaim.holds_of_cond 6 Tryd.f6 rfl rfl rfl rfl rfl rfl rfl ⟨rfl, rfl, rfl, rfl, rfl⟩ rfl rfl rfl rfl rfl (by kernel_rfl) Tryd.func6 (by kernel_rfl)
    (of_decide_eq_true (by kernel_rfl)) (by unfold Func.isWrapper; first | (rw [if_pos (by decide +kernel)]; kernel_rfl) | (rw [if_neg (by decide +kernel)]; exact ⟨rfl, rfl⟩))
    (fun os started H enc _ F => by rw [OpenClaim.pre_eq_preRow]; exact lifted os started H enc F)

/-- No parameter wants a stand-in; the program's own looks are off. -/
theorem plain (f : FuncId) (fn : Func) (hf : Tryd.pinned.checked.prog.funcNamed Rows.fnStringQuotesFixedTokenTextRow.func = some f) (hfn : Tryd.pinned.checked.prog.funcs[f]? = some fn) :
    false = Tryd.pinned.checked.prog.looks [] ∧ ∀ (j : Nat) t, fn.params[j]? = some t → Tryd.pinned.checked.prog.wantsStandIn t = false := by
  obtain rfl : f = 6 := Option.some.inj ((show Tryd.prog.funcNamed Rows.fnStringQuotesFixedTokenTextRow.func = some 6 by kernel_rfl).symm.trans hf) |>.symm
  obtain rfl : fn = Tryd.f6 := (Option.some.inj (Tryd.func6.symm.trans hfn)).symm
  refine ⟨by kernel_rfl, fun j t ht => ?_⟩
  rw [Tryd.params6] at ht
  have hm : t ∈ [5] := by simpa using Array.mem_of_getElem? ht
  have hall : ([5] : List TypeId).all (fun t => !Tryd.prog.wantsStandIn t) = true := by kernel_rfl
  have hh : Tryd.prog.wantsStandIn t = false := by simpa using List.all_eq_true.1 hall t hm
  exact hh

/-- The card. -/
theorem card : Rows.FnStringQuotesFixedTokenTextCardSaid :=
  Claim7.holds_tied_plain_at .later [] _ _ _ _ said (fun _ h => by cases h) (by kernel_rfl) (fun _ h => by cases h) fnStringQuotesFixedTokenText_row_tie rfl ⟨rfl, rfl⟩ (by kernel_rfl) rfl plain (by kernel_rfl)
#print axioms card
end Go.Proofs.YtcljenkgbbbfpaaDoor.fnStringQuotesFixedTokenText
