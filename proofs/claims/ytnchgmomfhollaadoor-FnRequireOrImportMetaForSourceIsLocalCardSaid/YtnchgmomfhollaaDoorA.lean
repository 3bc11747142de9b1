/-
  Proved: the tied card of the law FnRequireOrImportMetaForSourceIsLocal of folder n011_171: it returns true for every argument that its parameter types allow, wherever the variable InvalidRef of internal/ast holds what its initialiser lays, and leaves its arguments and that variable as they were; there is no further condition.
-/
import Derived.Test.YtnchgmomfhollaaDoorCards
import Derived.Test.YtnchgmomfhollaaDoorTie
import Derived.ChangeVars
import Derived.WalkKit
import Derived.ProofKit
import Derived.OpenShut
import Derived.Below
import Derived.Carry
import Derived.ChangeMaps5
import Derived.Deep.DeepHandedRow
import Derived.Lib.LaidTab
import Derived.Lib.LaidU8
import Derived.PinnedBridge
import Derived.Handy
import Derived.Lib.Hide
import Derived.WalkSpells
import Derived.OwnWalk
import Derived.Test.YtnchgmomfhollaaDoorJf
import Derived.Test.YtnchgmomfhollaaDoorKc
import Derived.Test.YtnchgmomfhollaaDoorSz
import Derived.Test.YtnchgmomfhollaaDoorOpb
namespace Go.Proofs.YtnchgmomfhollaaDoor.fnRequireOrImportMetaForSourceIsLocal
open Go.ChangeShapes Go.WideShapes Go.ChangeAt Go.RowKit
set_option linter.unusedVariables false

theorem own : ownKnob Tryd.prog.godebug = none := by kernel_rfl
theorem laid : laidOutB Tryd.prog = true := by kernel_rfl
theorem readAll : (Tryd.f3.params.toList.all fun t => Tryd.prog.readableRec t && decide (t < Tryd.prog.types.size)) = true := by kernel_rfl
theorem readEach : ∀ t ∈ Tryd.f3.params.toList, Tryd.prog.readableRec t = true ∧ t < Tryd.prog.types.size := fun t ht => by
  have := List.all_eq_true.1 readAll t ht
  simpa using this
theorem vName : Tryd.prog.globalNamed "github.com/evanw/esbuild/internal/ast.InvalidRef" = some 0 := by kernel_rfl
theorem vType : (Tryd.prog.globals[0]?).map (·.type) = some 37 := by kernel_rfl
theorem vRead : Tryd.prog.readableRec 37 = true ∧ 37 < Tryd.prog.types.size := ⟨by kernel_rfl, of_decide_eq_true (by kernel_rfl)⟩
theorem vReads : ∀ g t, Tryd.prog.globalNamed "github.com/evanw/esbuild/internal/ast.InvalidRef" = some g → (Tryd.prog.globals[g]?).map (·.type) = some t → Tryd.prog.readableRec t = true ∧ t < Tryd.prog.types.size := fun g t h1 h2 => by
  obtain rfl := Option.some.inj (vName.symm.trans h1)
  obtain rfl := Option.some.inj (vType.symm.trans h2)
  exact vRead
/-- What the row's list gives: the variable's two cells. -/
theorem inv {W : World} (h : laidMetH Tryd.prog Rows.fnRequireOrImportMetaForSourceIsLocalRow.laid W) : Kb.Inv W := by
  obtain ⟨g, t, cs, fuel, p, hg, hty, hvar, hd⟩ := Lib.laidMet.reads h (List.mem_cons.2 (Or.inl rfl))
  obtain rfl := Option.some.inj (vName.symm.trans hg)
  obtain rfl := Option.some.inj (vType.symm.trans hty)
  have hcs := Lib.ints_of_struct (k := .u32) (zs := [4294967295, 4294967295]) Tryd.underlying37 (fun j f hj => by
    match j, hj with
    | 0, hj => simp at hj; subst hj; exact ⟨Tryd.underlying35, rfl, by kernel_rfl⟩
    | 1, hj => simp at hj; subst hj; exact ⟨Tryd.underlying35, rfl, by kernel_rfl⟩
    | j + 2, hj => simp at hj) (by kernel_rfl) hd
  constructor
  · rw [World.var?_cell hg hvar 0, ← Array.getElem?_toList, hcs]; rfl
  · rw [World.var?_cell hg hvar 1, ← Array.getElem?_toList, hcs]; rfl
section
variable {H : Type} {enc : TypeId × Value → H} {P : Program}
theorem trodAll_stays (hl : laidOutB P = true) {W W' : World} (hb : Below W.heap.size W W') {sp : Nat → Bool} : ∀ {ts : List TypeId} {vs : List Value} {ds : List (DataW H)} {ps : List MemPlace},
    (∀ t ∈ ts, P.readableRec t = true ∧ t < P.types.size) → DataW.TrodAll enc P W 0 (fun _ => true) true ts vs ds ps → (∀ p ∈ ps, p.block < W.heap.size) → (∀ p ∈ ps, sp p.block = true) → DataW.TrodAll enc P W' 0 sp true ts vs ds ps
  | [], [], [], _, _, h, _, _ => h
  | _ :: _, _ :: _, _ :: _, _, hT, ⟨p, q, h1, h2, e⟩, hlt, hs =>
    ⟨p, q, WideElems.Trod_stays hl (hT _ (List.mem_cons.2 (Or.inl rfl))).1 (hT _ (List.mem_cons.2 (Or.inl rfl))).2 h1 (fun x hx => hb.same (hlt x (by rw [e]; exact List.mem_append_left _ hx))) (fun x hx => hs x (by rw [e]; exact List.mem_append_left _ hx)),
      trodAll_stays hl hb (fun t ht => hT t (List.mem_cons.2 (Or.inr ht))) h2 (fun x hx => hlt x (by rw [e]; exact List.mem_append_right _ hx)) (fun x hx => hs x (by rw [e]; exact List.mem_append_right _ hx)), e⟩

theorem var_below {W W' : World} {B g : Nat} {n : String} {cs : Array Value} (h : Below B W W') (hg : P.globalNamed n = some g) (hgB : g < B) (hv : W.var? P n = some cs) : W'.var? P n = some cs := by
  simp only [World.var?, hg, Option.bind_some] at hv ⊢
  rw [h.block g hgB]
  exact hv
theorem var_lt {W : World} {g : Nat} {n : String} {cs : Array Value} (hg : P.globalNamed n = some g) (hv : W.var? P n = some cs) : g < W.heap.size := by
  simp only [World.var?, hg, Option.bind_some] at hv
  rcases Nat.lt_or_ge g W.heap.size with h | h
  · exact h
  · rw [Array.getElem?_eq_none h] at hv
    cases hv
theorem trodVars_stays (hl : laidOutB P = true) {W W' : World} (hb : Below W.heap.size W W') {n : String} {gs : List (DataW H)} {ps : List MemPlace} (hr : ∀ g t, P.globalNamed n = some g → (P.globals[g]?).map (·.type) = some t → P.readableRec t = true ∧ t < P.types.size)
    (h : DataW.TrodVars enc P W (fun _ => true) [n] gs ps) (hlt : ∀ p ∈ ps, p.block < W.heap.size) {sp : Nat → Bool} (hs : ∀ p ∈ ps, sp p.block = true) : DataW.TrodVars enc P W' sp [n] gs ps := by
  obtain ⟨g, t, cs, fuel, d, p, rfl, h1, h2, h3, h4, e⟩ := trodVars_one h
  obtain ⟨hr1, hr2⟩ := hr g t h1 h2
  obtain ⟨fuel', h4'⟩ := WideElems.Trod_stays (v := .agg cs) hl hr1 hr2 ⟨fuel, h4⟩ (fun x hx => hb.same (hlt x (by rw [e]; exact List.mem_append_right _ hx))) (fun x hx => hs x (by rw [e]; exact List.mem_append_right _ hx))
  rw [e]
  exact trodVars_mk1 h1 h2 (var_below hb h1 (var_lt h1 h3) h3) h4'
/-- A law's step: the result is true, the arguments and the variable are kept, the world has changed in new blocks alone. -/
theorem law_post1 {f : Func} {s : ChangeSpec} {apart fresh handsOn again : Bool} {W W' : World} {args : Array Value} {ds gs : List (DataW H)} {before : List MemPlace} {tb : TypeId} {n : String}
    (hl : laidOutB P = true) (hps : ∀ t ∈ f.params.toList, P.readableRec t = true ∧ t < P.types.size) (hv : s.vars = [n]) (hvr : ∀ g t, P.globalNamed n = some g → (P.globals[g]?).map (·.type) = some t → P.readableRec t = true ∧ t < P.types.size) (hr : f.resultTypes = #[tb]) (ht : P.underlying tb = some .bool)
    (hs : (s.fn H (ds ++ gs)).results = [.lit (.bool true)] ∧ (s.fn H (ds ++ gs)).args = ds ∧ (s.fn H (ds ++ gs)).vars = gs)
    (hW : DataW.Whole enc P f.params.toList s.vars apart W args.toList ds gs before) (hb : Below W.heap.size W W') :
    s.post enc P f apart fresh handsOn again W args (.bool true) W' := by
  have hlt : ∀ p ∈ before, p.block < W.heap.size := fun p hp => hW.lt p hp
  have hold : ∀ p ∈ before, (fun b => decide (b < W.heap.size)) p.block = true := fun p hp => by simpa using hlt p hp
  have hW0 := hW
  obtain ⟨pa, pv, hA, hV, rfl, hz, hn⟩ := hW
  rw [hv] at hV
  have hres : ∀ (b : Nat) (sp : Nat → Bool) (hd : Bool), DataW.TrodAll enc P W' b sp hd f.resultTypes.toList ((Value.bool true).resultList f.resultTypes.size) (s.fn H (ds ++ gs)).results [] := fun b sp hd => by
    rw [hs.1, hr]; exact trodAll_cons_mk (shut_bool ht _) trodAll_mk0
  have hargs : ∀ sp : Nat → Bool, (∀ p ∈ pa ++ pv, sp p.block = true) → DataW.TrodAll enc P W' 0 sp true f.params.toList args.toList (s.fn H (ds ++ gs)).args pa := fun sp hsp => by
    rw [hs.2.1]; exact trodAll_stays hl hb hps hA (fun p hp => hlt p (List.mem_append_left _ hp)) (fun p hp => hsp p (List.mem_append_left _ hp))
  have hvars : ∀ sp : Nat → Bool, (∀ p ∈ pa ++ pv, sp p.block = true) → DataW.TrodVars enc P W' sp s.vars (s.fn H (ds ++ gs)).vars pv := fun sp hsp => by
    rw [hv, hs.2.2]; exact trodVars_stays hl hb hvr hV (fun p hp => hlt p (List.mem_append_right _ hp)) (fun p hp => hsp p (List.mem_append_right _ hp))
  refine ⟨ds, gs, pa ++ pv, [], pa, pv, hW0, hres _ _ _, hargs _ hold, hvars _ hold, World.keptBut_mono (fun p hp => ⟨hp, by rcases List.mem_append.1 hp with h | h; exact Or.inr (Or.inl h); exact Or.inr (Or.inr h)⟩) (hb.frame (· ∈ pa ++ pv)), fun _ => ?_⟩
  refine ⟨?_, _, _, ([] ++ pa) ++ pv, ⟨[] ++ pa, pv, trodAll_append (hargs _ (fun _ _ => rfl)) (hres _ _ _), hvars _ (fun _ _ => rfl), rfl, ?_, ?_⟩, ?_⟩
  · intro j t r h1 h2
    rw [hr] at h1 h2
    match j, h1, h2 with
    | 0, h1, h2 =>
      obtain rfl : tb = t := by simpa using h1
      obtain rfl : Value.bool true = r := by simpa [Value.resultList] using h2
      exact okWide_bool_mk ht _
    | j + 1, h1, _ => simp at h1
  · intro b off hp
    have hp' : MemPlace.cell b off ∈ pa ++ pv := by simpa using hp
    rw [hb.frozen (hlt _ hp')]
    exact hz b off hp'
  · intro ha
    simpa using hn ha
  · intro p hp _
    simpa using hp
end

open Go.PlainAid Mem Rws Sz Ka Kb Kc
/-- A file's meta out of the context. -/
theorem metaOf {X : Fs} {w wr : World} {cb gf gs n i : Nat} (h : Lp X w cb gf gs n n wr) (hi : i < n) (hn : n ≤ 4096) (hI : Kb.Inv wr) :
    Calls Tryd.prog 11 #[.pointer (some ⟨cb, 0, none⟩), .int .u32 i] wr fun e w' => e = .returned (metaV (X.x4 i) (X.x5 i) (X.x6 i) (X.x7 i) (X.x1 i) (X.x0 i)) ∧ Below wr.heap.size wr w' := by
  obtain ⟨b, h0, h1, h2, h3, c, d0, d1, d2, d3, d4, d5⟩ := h.dn i hi
  exact meta11 cb gf i n b wr hi hn c _ _ _ _ _ _ d0 d1 d2 d3 d4 d5 hI h.c10
theorem metaV_form (a0 a1 a2 a3 : Int) (b : Bool) (k : Int) : ∃ p q, metaV a0 a1 a2 a3 b k = .agg #[.int .u32 a0, .int .u32 a1, .int .u32 p, .int .u32 q, .bool b] := by
  unfold metaV
  by_cases h : k = 2
  · exact ⟨a2, a3, if_pos h⟩
  · exact ⟨4294967295, 4294967295, if_neg h⟩
theorem row_of {w : World} {g : Nat} {t : TypeId} {x0 : Int} {x1 : Bool} {x4 x5 x6 x7 : Int} (h : Own w g t #[.int .u8 x0, .bool x1, .bool true, .bool false, .int .u32 x4, .int .u32 x5, .int .u32 x6, .int .u32 x7, .slice none 0 0]) :
    ∀ i, i < 1 → ∀ r, r < 9 → w.cell? ⟨g, 0 + (i * 9 + r), none⟩ = some (((Fs.mk (fun _ => x0) (fun _ => x1) (fun _ => x4) (fun _ => x5) (fun _ => x6) (fun _ => x7)).row i).getD r undef) := fun i hi r hr => by
  obtain rfl : i = 0 := by omega
  rw [h.cell]
  match r, hr with
  | 0, _ => rfl
  | 1, _ => rfl
  | 2, _ => rfl
  | 3, _ => rfl
  | 4, _ => rfl
  | 5, _ => rfl
  | 6, _ => rfl
  | 7, _ => rfl
  | 8, _ => rfl
theorem same_eq (n : Int) : (n == n) = true := by simp
theorem nine_of {Z0 : Nat → Int} {Z1 : Nat → Bool} {Z2 Z3 : Nat → Int} {w : World} {g n s : Nat} (h : ∀ i, i < n → ∀ r, r < 9 → w.cell? ⟨g, i * 9 + r, none⟩ = some ((rowF Z0 Z1 Z2 Z3 i).getD r undef)) (hs : s < n) :
    w.cell? ⟨g, s * 9, none⟩ = some (.int .u8 (Z0 s)) ∧ w.cell? ⟨g, s * 9 + 1, none⟩ = some (.bool (Z1 s)) ∧ w.cell? ⟨g, s * 9 + 2, none⟩ = some (.bool true) ∧ w.cell? ⟨g, s * 9 + 3, none⟩ = some (.bool false) ∧ w.cell? ⟨g, s * 9 + 4, none⟩ = some (.int .u32 s) ∧ w.cell? ⟨g, s * 9 + 5, none⟩ = some (.int .u32 (Z2 s)) ∧ w.cell? ⟨g, s * 9 + 6, none⟩ = some (.int .u32 s) ∧ w.cell? ⟨g, s * 9 + 7, none⟩ = some (.int .u32 (Z3 s)) ∧ w.cell? ⟨g, s * 9 + 8, none⟩ = some (.slice none 0 0) :=
  ⟨h s hs 0 (by omega), h s hs 1 (by omega), h s hs 2 (by omega), h s hs 3 (by omega), h s hs 4 (by omega), h s hs 5 (by omega), h s hs 6 (by omega), h s hs 7 (by omega), h s hs 8 (by omega)⟩
set_option maxRecDepth 100000 in
set_option maxHeartbeats 40000000 in
theorem walk (A0 : Option Addr) (n0 c0 : Nat) (Z0 : Nat → Int) (A1 : Option Addr) (n1 c1 : Nat) (Z1 : Nat → Bool) (A2 : Option Addr) (n2 c2 : Nat) (Z2 : Nat → Int) (A3 : Option Addr) (n3 c3 : Nat) (Z3 : Nat → Int) (a4 : Int) (w : World) (hI : Kb.Inv w) (hI0 : 0 < w.heap.size) (hA0 : Mem.Rd w w.heap.size 1 A0 n0 (fun j => .int .u8 (Z0 j))) (hc0 : c0 ≤ maxLen) (hn0 : n0 ≤ c0) (hz0 : A0 = none → n0 = 0 ∧ c0 = 0) (hZ0 : ∀ j, j < n0 → (Lit.int .u8 (Z0 j)).wf = true) (hA1 : Mem.Rd w w.heap.size 1 A1 n1 (fun j => .bool (Z1 j))) (hc1 : c1 ≤ maxLen) (hn1 : n1 ≤ c1) (hz1 : A1 = none → n1 = 0 ∧ c1 = 0) (hA2 : Mem.Rd w w.heap.size 1 A2 n2 (fun j => .int .u32 (Z2 j))) (hc2 : c2 ≤ maxLen) (hn2 : n2 ≤ c2) (hz2 : A2 = none → n2 = 0 ∧ c2 = 0) (hZ2 : ∀ j, j < n2 → (Lit.int .u32 (Z2 j)).wf = true) (hA3 : Mem.Rd w w.heap.size 1 A3 n3 (fun j => .int .u32 (Z3 j))) (hc3 : c3 ≤ maxLen) (hn3 : n3 ≤ c3) (hz3 : A3 = none → n3 = 0 ∧ c3 = 0) (hZ3 : ∀ j, j < n3 → (Lit.int .u32 (Z3 j)).wf = true) (w4 : (Lit.int .u16 a4).wf = true) :
    Calls Tryd.prog 3 #[.slice A0 n0 c0, .slice A1 n1 c1, .slice A2 n2 c2, .slice A3 n3 c3, .int .u16 a4] w fun e w' => e = .returned (.bool true) ∧ Below w.heap.size w w' := by
  have HA0 := Lib.hid hA0
  have HA1 := Lib.hid hA1
  have HA2 := Lib.hid hA2
  have HA3 := Lib.hid hA3
  have HI := Lib.hid hI
  have HZ0 := Lib.hid hz0
  have HZ1 := Lib.hid hz1
  have HZ2 := Lib.hid hz2
  have HZ3 := Lib.hid hz3
  have hN0 : n0 ≤ maxLen := Nat.le_trans hn0 hc0
  have hN1 : n1 ≤ maxLen := Nat.le_trans hn1 hc1
  have hN2 : n2 ≤ maxLen := Nat.le_trans hn2 hc2
  have hN3 : n3 ≤ maxLen := Nat.le_trans hn3 hc3
  obtain ⟨hb40, hb41⟩ := bounds_u16 w4
  clear hA0 hA1 hA2 hA3 hI hz0 hz1 hz2 hz3 hZ0 hZ2 hZ3 w4
  go_enter Tryd.func3, Tryd.ntmps3
  go_wp2_with fail
  refine (bytes4 A0 n0 c0 A1 n1 c1 A2 n2 c2 A3 n3 c3 a4 _ hN0 hN1 hN2 hN3).mono ?_
  rintro e w' ⟨rfl, rfl⟩
  by_cases ht : n0 + n1 + n2 + n3 ≤ 1048576
  · rw [szOk_yes ht]
    clear hN0 hN1 hN2 hN3
    go_wp2_with fail
    refine (guard5 A0 n0 c0 Z0 A1 n1 c1 A2 n2 c2 A3 n3 c3 _ HA0.out (by omega) (by omega) (by omega) (by omega)).mono ?_
    rintro e w' ⟨b, rfl, hb, rfl⟩
    cases b
    · go_wp2_with fail
      go_ret
      exact ⟨rfl, by go_grown⟩
    · obtain ⟨hle, rfl, rfl, rfl⟩ := hb rfl
      clear hb ht
      go_wp2_with fail
      refine (clone6 A0 n3 c0 Z0 _ HA0.out HZ0.out (by omega)).mono ?_
      rintro e w1 ⟨B0, d0, rfl, hd0, hd0', hx0, hR0, hb1⟩
      have HB1 := Lib.hid hb1
      have HR0 := Lib.hid hR0
      clear hx0 hb1 hR0
      go_wp2_with fail
      refine (clone7 A1 n3 c1 Z1 _ ((HA1.out.below HB1.out).mono HB1.out.size) HZ1.out (by omega)).mono ?_
      rintro e w2 ⟨B1, d1, rfl, hd1, hd1', hx1, hR1, hb1⟩
      have HR0' := Lib.hid ((HR0.out.below hb1).mono hb1.size)
      have HR1 := Lib.hid hR1
      have HB2 := Lib.hid (HB1.out.trans (hb1.mono HB1.out.size))
      clear hx1 hb1 hR1 HR0 HB1
      go_wp2_with fail
      refine (clone8 A2 n3 c2 Z2 _ ((HA2.out.below HB2.out).mono HB2.out.size) HZ2.out (by omega)).mono ?_
      rintro e w3 ⟨B2, d2, rfl, hd2, hd2', hx2, hR2, hb1⟩
      have HR0 := Lib.hid ((HR0'.out.below hb1).mono hb1.size)
      have HR1' := Lib.hid ((HR1.out.below hb1).mono hb1.size)
      have HR2 := Lib.hid hR2
      have HB3 := Lib.hid (HB2.out.trans (hb1.mono HB2.out.size))
      clear hx2 hb1 hR2 HR0' HR1 HB2
      go_wp2_with fail
      refine (clone8 A3 n3 c3 Z3 _ ((HA3.out.below HB3.out).mono HB3.out.size) HZ3.out (by omega)).mono ?_
      rintro e w4 ⟨B3, d3, rfl, hd3, hd3', hx3, hR3, hb1⟩
      have HR0' := Lib.hid ((HR0.out.below hb1).mono hb1.size)
      have HR1 := Lib.hid ((HR1'.out.below hb1).mono hb1.size)
      have HR2' := Lib.hid ((HR2.out.below hb1).mono hb1.size)
      have HR3 := Lib.hid hR3
      have HB4 := Lib.hid (HB3.out.trans (hb1.mono HB3.out.size))
      clear hx3 hb1 hR3 HR0 HR1' HR2 HB3
      by_cases hpos : n3 = 0
      · subst hpos
        go_wp2_with fail
        go_ret
        exact ⟨rfl, HB4.out⟩
      · have t0 : ((n3 : Int) == 0) = false := by rw [beq_eq_false_iff_ne]; omega
        have hrn0 : (n3 : Int) ≠ 0 := by omega
        obtain ⟨s, hs⟩ : ∃ s : Nat, a4 % (n3 : Int) = (s : Int) := ⟨(a4 % (n3 : Int)).toNat, by have := Int.emod_nonneg a4 (b := (n3 : Int)) (by omega); omega⟩
        have hsn : s < n3 := by have := Int.emod_lt_of_pos a4 (b := (n3 : Int)) (by omega); omega
        have hs0 : (0 : Int) ≤ (s : Int) := by omega
        have hs1 : (s : Int) < (n3 : Int) := by omega
        clear hpos
        go_wp2_with fail
        refine (files9 B0 n3 d0 Z0 B1 d1 Z1 B2 d2 Z2 B3 d3 Z3 _ hle HR0'.out HR1.out HR2'.out HR3.out).mono ?_
        rintro e w5 ⟨g, rfl, hg4, hg, hrow, hb1⟩
        have HROW := Lib.hid hrow
        have HB5 := Lib.hid (HB4.out.trans (hb1.mono HB4.out.size))
        clear hrow hb1 HR0' HR1 HR2' HR3 HB4
        have hw5 : 0 < w5.heap.size := by omega
        go_wp2_with fail
        refine (ctx10 ⟨Z0, Z1, fun i => i, Z2, fun i => i, Z3⟩ g 0 n3 n3 _ hle hg (fun i hi r hr => by rw [Nat.zero_add]; exact HROW.out i hi r hr) (HI.out.below HB5.out hI0) hw5).mono ?_
        rintro e w6 ⟨cb, gf, gs, rfl, hlp⟩
        have HLP := Lib.hid hlp
        have HB6 := Lib.hid (HB5.out.trans (hlp.b.mono HB5.out.size))
        clear hlp
        go_wp2_with fail
        refine (metaOf HLP.out hsn hle (HI.out.below HB6.out hI0)).mono ?_
        rintro e w7 ⟨he, hb1⟩
        obtain ⟨m2, m3, hmv⟩ := metaV_form (s : Int) (Z2 s) (s : Int) (Z3 s) (Z1 s) (Z0 s)
        obtain rfl : e = .returned (.agg #[.int .u32 (s : Int), .int .u32 (Z2 s), .int .u32 m2, .int .u32 m3, .bool (Z1 s)]) := he.trans (congrArg Ending.returned hmv)
        have HMV := Lib.hid hmv
        clear he hmv
        have HB7 := Lib.hid (HB6.out.trans (hb1.mono HB6.out.size))
        have hb57 : Below w5.heap.size w5 w7 := HLP.out.b.trans (hb1.mono HLP.out.b.size)
        have HROW2 : Hid (∀ i, i < n3 → ∀ r, r < 9 → w7.cell? ⟨g, i * 9 + r, none⟩ = some ((rowF Z0 Z1 Z2 Z3 i).getD r undef)) := Lib.hid fun i hi r hr => (hb57.cell (p := ⟨g, i * 9 + r, none⟩) hg).trans (HROW.out i hi r hr)
        have hg7 : g < w7.heap.size := Nat.lt_of_lt_of_le hg hb57.size
        clear hb1 hb57 HLP HB5 HB6 HROW hg
        obtain ⟨l0, l1, l2, l3, l4, l5, l6, l7, l8⟩ := nine_of HROW2.out hsn
        have y0 := new_keep l0
        have y1 := new_keep l1
        have y2 := new_keep l2
        have y3 := new_keep l3
        have y4 := new_keep l4
        have y5 := new_keep l5
        have y6 := new_keep l6
        have y7 := new_keep l7
        have y8 := new_keep l8
        clear l0 l1 l2 l3 l4 l5 l6 l7 l8 HROW2
        go_wp2_with fail
        clear y0 y1 y2 y3 y4 y5 y6 y7 y8
        have hO := Own.new (w7.alloc (.cells #[.int .u32 (s : Int), .int .u32 (Z2 s), .int .u32 m2, .int .u32 m3, .bool (Z1 s)] 39)) 43 #[.int .u8 (Z0 s), .bool (Z1 s), .bool true, .bool false, .int .u32 (s : Int), .int .u32 (Z2 s), .int .u32 (s : Int), .int .u32 (Z3 s), .slice none 0 0]
        have hM := (Own.new w7 39 #[.int .u32 (s : Int), .int .u32 (Z2 s), .int .u32 m2, .int .u32 m3, .bool (Z1 s)]).alloc (.cells #[.int .u8 (Z0 s), .bool (Z1 s), .bool true, .bool false, .int .u32 (s : Int), .int .u32 (Z2 s), .int .u32 (s : Int), .int .u32 (Z3 s), .slice none 0 0] 43)
        have hB8 : Below w.heap.size w ((w7.alloc (.cells #[.int .u32 (s : Int), .int .u32 (Z2 s), .int .u32 m2, .int .u32 m3, .bool (Z1 s)] 39)).alloc (.cells #[.int .u8 (Z0 s), .bool (Z1 s), .bool true, .bool false, .int .u32 (s : Int), .int .u32 (Z2 s), .int .u32 (s : Int), .int .u32 (Z3 s), .slice none 0 0] 43)) := (HB7.out.alloc HB7.out.size _).alloc (by have := HB7.out.size; simp; omega) _
        simp only [World.size_alloc] at hO
        generalize (w7.alloc (.cells #[.int .u32 (s : Int), .int .u32 (Z2 s), .int .u32 m2, .int .u32 m3, .bool (Z1 s)] 39)).alloc (.cells #[.int .u8 (Z0 s), .bool (Z1 s), .bool true, .bool false, .int .u32 (s : Int), .int .u32 (Z2 s), .int .u32 (s : Int), .int .u32 (Z3 s), .slice none 0 0] 43) = w8 at *
        have HO := Lib.hid hO
        have HM := Lib.hid hM
        have HB8 := Lib.hid hB8
        have hI8 : 0 < w8.heap.size := by have := hO.lt; omega
        clear hO hM hB8
        refine (ctx10 (Fs.mk (fun _ => Z0 s) (fun _ => Z1 s) (fun _ => s) (fun _ => Z2 s) (fun _ => s) (fun _ => Z3 s)) (w7.heap.size + 1) 0 1 1 _ (by omega) HO.out.lt (row_of HO.out) (HI.out.below HB8.out hI0) hI8).mono ?_
        rintro e w9 ⟨cb2, gf2, gs2, rfl, hlp⟩
        have HLP := Lib.hid hlp
        have HB9 := Lib.hid (HB8.out.trans (hlp.b.mono HB8.out.size))
        have HM9 := Lib.hid (HM.out.below hlp.b HM.out.lt)
        clear hlp HM HO
        go_wp2_with fail
        have hmo := metaOf HLP.out (i := 0) (by omega) (by omega) (HI.out.below HB9.out hI0)
        rw [show ((0 : Nat) : Int) = 0 from rfl] at hmo
        refine hmo.mono ?_
        rintro e w10 ⟨he, hb1⟩
        obtain rfl : e = .returned (.agg #[.int .u32 (s : Int), .int .u32 (Z2 s), .int .u32 m2, .int .u32 m3, .bool (Z1 s)]) := he.trans (congrArg Ending.returned HMV.out)
        have HB10 := Lib.hid (HB9.out.trans (hb1.mono HB9.out.size))
        have hM10 := HM9.out.below hb1 HM9.out.lt
        have u0 := new_keep (hM10.cell 0)
        have u1 := new_keep (hM10.cell 1)
        have u2 := new_keep (hM10.cell 2)
        have u3 := new_keep (hM10.cell 3)
        have u4 := new_keep (hM10.cell 4)
        have hne : w7.heap.size ≠ w10.heap.size := by have := hM10.lt; omega
        clear he hb1 hM10 hmo HLP HM9
        go_wp2_with fail
        go_ret
        exact ⟨rfl, HB10.out.alloc HB10.out.size _⟩
  · rw [szOk_no ht]
    go_wp2_with fail
    go_ret
    exact ⟨rfl, by go_grown⟩

set_option maxRecDepth 100000 in
/-- What the walk gives, for every argument and every world that holds the tables. -/
theorem contract (H : Type) (enc : TypeId × Value → H) (W : World) (base : Nat) (args : Array Value) (ds gs : List (DataW H)) (before : List MemPlace)
    (hval : ∀ (j : Nat) t v, Tryd.f3.params[j]? = some t → args[j]? = some v → Value.okWide Tryd.prog W .any base t v)
    (hW : DataW.Whole enc Tryd.prog Tryd.f3.params.toList Rows.fnRequireOrImportMetaForSourceIsLocalSpec.vars false W args.toList ds gs before) (hL : laidMetH Tryd.prog Rows.fnRequireOrImportMetaForSourceIsLocalRow.laid W) :
    Calls Tryd.prog 3 args W fun e W' => ∃ v, e = .returned v ∧ Rows.fnRequireOrImportMetaForSourceIsLocalSpec.post enc Tryd.prog Tryd.f3 false true false false W args v W' := by
  have hW' := hW
  obtain ⟨p, q, hA0, hV, rfl, hfz, hnd⟩ := hW
  have hA : DataW.TrodAll enc Tryd.prog W 0 (fun _ => true) true Tryd.f3.params.toList args.toList ds p := hA0
  rw [Tryd.params3] at hA hval
  obtain ⟨v0, vs0, d0, ds0, p0, q0, hargs0, rfl, rfl, h0, r0⟩ := trodAll_cons hA
  obtain ⟨v1, vs1, d1, ds1, p1, q1, hargs1, rfl, rfl, h1, r1⟩ := trodAll_cons r0
  obtain ⟨v2, vs2, d2, ds2, p2, q2, hargs2, rfl, rfl, h2, r2⟩ := trodAll_cons r1
  obtain ⟨v3, vs3, d3, ds3, p3, q3, hargs3, rfl, rfl, h3, r3⟩ := trodAll_cons r2
  obtain ⟨v4, vs4, d4, ds4, p4, q4, hargs4, rfl, rfl, h4, r4⟩ := trodAll_cons r3
  obtain ⟨rfl, rfl, rfl⟩ := trodAll_nil r4
  obtain rfl : args = #[v0, v1, v2, v3, v4] := by cases args; simp_all
  obtain ⟨A0, n0, c0, Z0, rfl, hn0, hc0, hz0, hA0, hZ0⟩ := Mem.open_ints' Tryd.underlying22 Tryd.underlying5 (by kernel_rfl) (hval 0 22 v0 rfl rfl) h0
  obtain ⟨A1, n1, c1, Z1, rfl, hn1, hc1, hz1, hA1⟩ := Opb.open_bools' Tryd.underlying23 Tryd.underlying4 (by kernel_rfl) (hval 1 23 v1 rfl rfl) h1
  obtain ⟨A2, n2, c2, Z2, rfl, hn2, hc2, hz2, hA2, hZ2⟩ := Mem.open_ints' Tryd.underlying24 Tryd.underlying35 (by kernel_rfl) (hval 2 24 v2 rfl rfl) h2
  obtain ⟨A3, n3, c3, Z3, rfl, hn3, hc3, hz3, hA3, hZ3⟩ := Mem.open_ints' Tryd.underlying24 Tryd.underlying35 (by kernel_rfl) (hval 3 24 v3 rfl rfl) h3
  obtain ⟨a4, rfl, rfl, rfl, w4⟩ := open_int Tryd.underlying25 (hval 4 25 v4 rfl rfl) h4
  clear hA0
  obtain ⟨gv, tv, csv, fv, dv, pv, rfl, hgv, _, hvv, _⟩ := trodVars_one hV
  refine (walk A0 n0 c0 Z0 A1 n1 c1 Z1 A2 n2 c2 Z2 A3 n3 c3 Z3 a4 W (inv hL) (by have := World.block_lt_of_cell? W _ (inv hL).1; exact this) hA0 hc0 hn0 hz0 hZ0 hA1 hc1 hn1 hz1 hA2 hc2 hn2 hz2 hZ2 hA3 hc3 hn3 hz3 hZ3 w4).mono fun e W' ⟨he, hg⟩ => ?_
  subst he
  exact ⟨_, rfl, law_post1 laid readEach rfl vReads rfl Tryd.underlying4 ⟨rfl, rfl, rfl⟩ hW' hg⟩

def invBlock : Obj → Obj
  | .cells _ t frozen => .cells #[.int .u32 4294967295, .int .u32 4294967295] t frozen
  | o => o
/-- A world for the witness: the settled one, the variable holding what its initialiser lays. -/
noncomputable def laidWorld (os : Os) : World :=
  { World.holding Tryd.prog os ⟨#[], #[], []⟩ with heap := (World.holding Tryd.prog os ⟨#[], #[], []⟩).heap.modify 0 invBlock }
theorem laid_met (os : Os) : laidMet Tryd.prog Rows.fnRequireOrImportMetaForSourceIsLocalRow.laid ((laidWorld os).forCall (fun _ _ => 0) ⟨#[], #[.slice none 0 0, .slice none 0 0, .slice none 0 0, .slice none 0 0, .int .u16 0], []⟩).memory :=
  laidMet_of_run' 8 (by kernel_rfl) (by kernel_rfl)
theorem reads (os : Os) {H : Type} (enc : TypeId × Value → H) : ∃ places, DataW.whole enc Tryd.prog ((laidWorld os).forCall (fun _ _ => 0) ⟨#[], #[.slice none 0 0, .slice none 0 0, .slice none 0 0, .slice none 0 0, .int .u16 0], []⟩).memory Tryd.f3.params.toList Rows.fnRequireOrImportMetaForSourceIsLocalSpec.vars false (#[.slice none 0 0, .slice none 0 0, .slice none 0 0, .slice none 0 0, .int .u16 0] : Array Value).toList 8 = some ([.nil, .nil, .nil, .nil, .lit (.int .u16 0)], [.agg [.lit (.int .u32 4294967295), .lit (.int .u32 4294967295)]], places) :=
  ⟨MemPlace.row ⟨0, 0, none⟩ 2, by kernel_rfl⟩

set_option maxRecDepth 100000 in
theorem lifted (os : Os) (started : os.Started) (H : Type) (enc : TypeId × Value → H) (F : Stop.Interp) :
    ReturnsInHanded {} Tryd.checked os 3 .any ((OpenSpec.ofChange Rows.fnRequireOrImportMetaForSourceIsLocalSpec).preRow enc Tryd.prog Tryd.f3 Rows.fnRequireOrImportMetaForSourceIsLocalRow.domain false Rows.fnRequireOrImportMetaForSourceIsLocalRow.laid) (((OpenSpec.ofChange Rows.fnRequireOrImportMetaForSourceIsLocalSpec).at F).post enc Tryd.prog Tryd.f3 false true false false) := by
  obtain ⟨places, hx⟩ := reads os enc
  refine returnsInHanded_of_row (C := Tryd.checked) (s := OpenSpec.ofChange Rows.fnRequireOrImportMetaForSourceIsLocalSpec) own started (by kernel_rfl) Tryd.func3
    (witness_row_at (enc := enc) (C := Tryd.checked) false (laidWorld os) #[.slice none 0 0, .slice none 0 0, .slice none 0 0, .slice none 0 0, .int .u16 0] rfl (by kernel_rfl) (by kernel_rfl) (by kernel_rfl)
      (OpenSpec.preRow_of_cond 8 hx (by kernel_rfl) (fun k hk => by cases hk) (by kernel_rfl) (laid_met os))) ?_
  intro W base args ds gs before hval hW _ _ _ hL _ _
  exact contract H enc W base args ds gs before hval hW hL

theorem said : Rows.FnRequireOrImportMetaForSourceIsLocalSaid :=
  OpenClaim.holds_of_cond 3 Tryd.f3 rfl rfl rfl rfl rfl rfl rfl ⟨rfl, rfl, rfl, rfl, rfl⟩ rfl rfl rfl rfl rfl (by kernel_rfl) Tryd.func3 Jf.jf
    (of_decide_eq_true (by kernel_rfl)) (by unfold Func.isWrapper; first | (rw [if_pos (by decide +kernel)]; kernel_rfl) | (rw [if_neg (by decide +kernel)]; exact ⟨rfl, rfl⟩))
    (fun os started H enc _ F => by rw [OpenClaim.pre_eq_preRow]; exact lifted os started H enc F)

/-- No parameter wants a stand-in; the program's own looks are on. -/
theorem plain (f : FuncId) (fn : Func) (hf : Tryd.pinned.checked.prog.funcNamed Rows.fnRequireOrImportMetaForSourceIsLocalRow.func = some f) (hfn : Tryd.pinned.checked.prog.funcs[f]? = some fn) :
    true = Tryd.pinned.checked.prog.looks [] ∧ ∀ (j : Nat) t, fn.params[j]? = some t → Tryd.pinned.checked.prog.wantsStandIn t = false := by
  obtain rfl : f = 3 := Option.some.inj ((show Tryd.prog.funcNamed Rows.fnRequireOrImportMetaForSourceIsLocalRow.func = some 3 by kernel_rfl).symm.trans hf) |>.symm
  obtain rfl : fn = Tryd.f3 := (Option.some.inj (Tryd.func3.symm.trans hfn)).symm
  refine ⟨by kernel_rfl, fun j t ht => ?_⟩
  rw [Tryd.params3] at ht
  have hm : t ∈ [22, 23, 24, 24, 25] := by simpa using Array.mem_of_getElem? ht
  have hall : ([22, 23, 24, 24, 25] : List TypeId).all (fun t => !Tryd.prog.wantsStandIn t) = true := by kernel_rfl
  have hh : Tryd.prog.wantsStandIn t = false := by simpa using List.all_eq_true.1 hall t hm
  exact hh

/-- The card. -/
theorem card : Rows.FnRequireOrImportMetaForSourceIsLocalCardSaid :=
  Claim7.holds_tied_plain_at .later [] _ _ _ _ said (fun _ h => by cases h) (by kernel_rfl) (fun _ h => by cases h) fnRequireOrImportMetaForSourceIsLocal_row_tie rfl ⟨rfl, rfl⟩ (by kernel_rfl) rfl plain (by kernel_rfl)
#print axioms card
end Go.Proofs.YtnchgmomfhollaaDoor.fnRequireOrImportMetaForSourceIsLocal
