/-
  Proved: the tied card of the law FnFollowSymbolsFindsChainEnd of folder n011_236: it returns true for every argument that its parameter types allow, wherever the variable InvalidRef of internal/ast holds what its initialiser lays, and leaves its arguments and that variable as they were; there is no further condition.
-/
import Derived.Test.YtbppncnhdhogbaaDoorCards
import Derived.Test.YtbppncnhdhogbaaDoorTie
import Derived.ChangeVars
import Derived.WalkKit
import Derived.ProofKit
import Derived.OpenShut
import Derived.Below
import Derived.Carry
import Derived.ChangeMaps5
import Derived.Deep.DeepHandedRow
import Derived.Lib.LaidTab
import Derived.Lib.LaidU8
import Derived.PinnedBridge
import Derived.Handy
import Derived.Lib.Hide
import Derived.WalkSpells
import Derived.OwnWalk
import Derived.Test.YtbppncnhdhogbaaDoorFf
import Derived.Test.YtbppncnhdhogbaaDoorSz
namespace Go.Proofs.YtbppncnhdhogbaaDoor.fnFollowSymbolsFindsChainEnd
open Go.ChangeShapes Go.WideShapes Go.ChangeAt Go.RowKit
set_option linter.unusedVariables false

theorem own : ownKnob Tryd.prog.godebug = none := by kernel_rfl
theorem laid : laidOutB Tryd.prog = true := by kernel_rfl
theorem readAll : (Tryd.f4.params.toList.all fun t => Tryd.prog.readableRec t && decide (t < Tryd.prog.types.size)) = true := by kernel_rfl
theorem readEach : ∀ t ∈ Tryd.f4.params.toList, Tryd.prog.readableRec t = true ∧ t < Tryd.prog.types.size := fun t ht => by
  have := List.all_eq_true.1 readAll t ht
  simpa using this
theorem vName : Tryd.prog.globalNamed "github.com/evanw/esbuild/internal/ast.InvalidRef" = some 0 := by kernel_rfl
theorem vType : (Tryd.prog.globals[0]?).map (·.type) = some 43 := by kernel_rfl
theorem vRead : Tryd.prog.readableRec 43 = true ∧ 43 < Tryd.prog.types.size := ⟨by kernel_rfl, of_decide_eq_true (by kernel_rfl)⟩
theorem vReads : ∀ g t, Tryd.prog.globalNamed "github.com/evanw/esbuild/internal/ast.InvalidRef" = some g → (Tryd.prog.globals[g]?).map (·.type) = some t → Tryd.prog.readableRec t = true ∧ t < Tryd.prog.types.size := fun g t h1 h2 => by
  obtain rfl := Option.some.inj (vName.symm.trans h1)
  obtain rfl := Option.some.inj (vType.symm.trans h2)
  exact vRead
/-- What the row's list gives: the variable's two cells. -/
theorem inv {W : World} (h : laidMetH Tryd.prog Rows.fnFollowSymbolsFindsChainEndRow.laid W) : Ff.Inv W := by
  obtain ⟨g, t, cs, fuel, p, hg, hty, hvar, hd⟩ := Lib.laidMet.reads h (List.mem_cons.2 (Or.inl rfl))
  obtain rfl := Option.some.inj (vName.symm.trans hg)
  obtain rfl := Option.some.inj (vType.symm.trans hty)
  have hcs := Lib.ints_of_struct (k := .u32) (zs := [4294967295, 4294967295]) Tryd.underlying43 (fun j f hj => by
    match j, hj with
    | 0, hj => simp at hj; subst hj; exact ⟨Tryd.underlying25, rfl, by kernel_rfl⟩
    | 1, hj => simp at hj; subst hj; exact ⟨Tryd.underlying25, rfl, by kernel_rfl⟩
    | j + 2, hj => simp at hj) (by kernel_rfl) hd
  constructor
  · rw [World.var?_cell hg hvar 0, ← Array.getElem?_toList, hcs]; rfl
  · rw [World.var?_cell hg hvar 1, ← Array.getElem?_toList, hcs]; rfl
section
variable {H : Type} {enc : TypeId × Value → H} {P : Program}
theorem trodAll_stays (hl : laidOutB P = true) {W W' : World} (hb : Below W.heap.size W W') {sp : Nat → Bool} : ∀ {ts : List TypeId} {vs : List Value} {ds : List (DataW H)} {ps : List MemPlace},
    (∀ t ∈ ts, P.readableRec t = true ∧ t < P.types.size) → DataW.TrodAll enc P W 0 (fun _ => true) true ts vs ds ps → (∀ p ∈ ps, p.block < W.heap.size) → (∀ p ∈ ps, sp p.block = true) → DataW.TrodAll enc P W' 0 sp true ts vs ds ps
  | [], [], [], _, _, h, _, _ => h
  | _ :: _, _ :: _, _ :: _, _, hT, ⟨p, q, h1, h2, e⟩, hlt, hs =>
    ⟨p, q, WideElems.Trod_stays hl (hT _ (List.mem_cons.2 (Or.inl rfl))).1 (hT _ (List.mem_cons.2 (Or.inl rfl))).2 h1 (fun x hx => hb.same (hlt x (by rw [e]; exact List.mem_append_left _ hx))) (fun x hx => hs x (by rw [e]; exact List.mem_append_left _ hx)),
      trodAll_stays hl hb (fun t ht => hT t (List.mem_cons.2 (Or.inr ht))) h2 (fun x hx => hlt x (by rw [e]; exact List.mem_append_right _ hx)) (fun x hx => hs x (by rw [e]; exact List.mem_append_right _ hx)), e⟩

theorem var_below {W W' : World} {B g : Nat} {n : String} {cs : Array Value} (h : Below B W W') (hg : P.globalNamed n = some g) (hgB : g < B) (hv : W.var? P n = some cs) : W'.var? P n = some cs := by
  simp only [World.var?, hg, Option.bind_some] at hv ⊢
  rw [h.block g hgB]
  exact hv
theorem var_lt {W : World} {g : Nat} {n : String} {cs : Array Value} (hg : P.globalNamed n = some g) (hv : W.var? P n = some cs) : g < W.heap.size := by
  simp only [World.var?, hg, Option.bind_some] at hv
  rcases Nat.lt_or_ge g W.heap.size with h | h
  · exact h
  · rw [Array.getElem?_eq_none h] at hv
    cases hv
theorem trodVars_stays (hl : laidOutB P = true) {W W' : World} (hb : Below W.heap.size W W') {n : String} {gs : List (DataW H)} {ps : List MemPlace} (hr : ∀ g t, P.globalNamed n = some g → (P.globals[g]?).map (·.type) = some t → P.readableRec t = true ∧ t < P.types.size)
    (h : DataW.TrodVars enc P W (fun _ => true) [n] gs ps) (hlt : ∀ p ∈ ps, p.block < W.heap.size) {sp : Nat → Bool} (hs : ∀ p ∈ ps, sp p.block = true) : DataW.TrodVars enc P W' sp [n] gs ps := by
  obtain ⟨g, t, cs, fuel, d, p, rfl, h1, h2, h3, h4, e⟩ := trodVars_one h
  obtain ⟨hr1, hr2⟩ := hr g t h1 h2
  obtain ⟨fuel', h4'⟩ := WideElems.Trod_stays (v := .agg cs) hl hr1 hr2 ⟨fuel, h4⟩ (fun x hx => hb.same (hlt x (by rw [e]; exact List.mem_append_right _ hx))) (fun x hx => hs x (by rw [e]; exact List.mem_append_right _ hx))
  rw [e]
  exact trodVars_mk1 h1 h2 (var_below hb h1 (var_lt h1 h3) h3) h4'
/-- A law's step: the result is true, the arguments and the variable are kept, the world has changed in new blocks alone. -/
theorem law_post1 {f : Func} {s : ChangeSpec} {apart fresh handsOn again : Bool} {W W' : World} {args : Array Value} {ds gs : List (DataW H)} {before : List MemPlace} {tb : TypeId} {n : String}
    (hl : laidOutB P = true) (hps : ∀ t ∈ f.params.toList, P.readableRec t = true ∧ t < P.types.size) (hv : s.vars = [n]) (hvr : ∀ g t, P.globalNamed n = some g → (P.globals[g]?).map (·.type) = some t → P.readableRec t = true ∧ t < P.types.size) (hr : f.resultTypes = #[tb]) (ht : P.underlying tb = some .bool)
    (hs : (s.fn H (ds ++ gs)).results = [.lit (.bool true)] ∧ (s.fn H (ds ++ gs)).args = ds ∧ (s.fn H (ds ++ gs)).vars = gs)
    (hW : DataW.Whole enc P f.params.toList s.vars apart W args.toList ds gs before) (hb : Below W.heap.size W W') :
    s.post enc P f apart fresh handsOn again W args (.bool true) W' := by
  have hlt : ∀ p ∈ before, p.block < W.heap.size := fun p hp => hW.lt p hp
  have hold : ∀ p ∈ before, (fun b => decide (b < W.heap.size)) p.block = true := fun p hp => by simpa using hlt p hp
  have hW0 := hW
  obtain ⟨pa, pv, hA, hV, rfl, hz, hn⟩ := hW
  rw [hv] at hV
  have hres : ∀ (b : Nat) (sp : Nat → Bool) (hd : Bool), DataW.TrodAll enc P W' b sp hd f.resultTypes.toList ((Value.bool true).resultList f.resultTypes.size) (s.fn H (ds ++ gs)).results [] := fun b sp hd => by
    rw [hs.1, hr]; exact trodAll_cons_mk (shut_bool ht _) trodAll_mk0
  have hargs : ∀ sp : Nat → Bool, (∀ p ∈ pa ++ pv, sp p.block = true) → DataW.TrodAll enc P W' 0 sp true f.params.toList args.toList (s.fn H (ds ++ gs)).args pa := fun sp hsp => by
    rw [hs.2.1]; exact trodAll_stays hl hb hps hA (fun p hp => hlt p (List.mem_append_left _ hp)) (fun p hp => hsp p (List.mem_append_left _ hp))
  have hvars : ∀ sp : Nat → Bool, (∀ p ∈ pa ++ pv, sp p.block = true) → DataW.TrodVars enc P W' sp s.vars (s.fn H (ds ++ gs)).vars pv := fun sp hsp => by
    rw [hv, hs.2.2]; exact trodVars_stays hl hb hvr hV (fun p hp => hlt p (List.mem_append_right _ hp)) (fun p hp => hsp p (List.mem_append_right _ hp))
  refine ⟨ds, gs, pa ++ pv, [], pa, pv, hW0, hres _ _ _, hargs _ hold, hvars _ hold, World.keptBut_mono (fun p hp => ⟨hp, by rcases List.mem_append.1 hp with h | h; exact Or.inr (Or.inl h); exact Or.inr (Or.inr h)⟩) (hb.frame (· ∈ pa ++ pv)), fun _ => ?_⟩
  refine ⟨?_, _, _, ([] ++ pa) ++ pv, ⟨[] ++ pa, pv, trodAll_append (hargs _ (fun _ _ => rfl)) (hres _ _ _), hvars _ (fun _ _ => rfl), rfl, ?_, ?_⟩, ?_⟩
  · intro j t r h1 h2
    rw [hr] at h1 h2
    match j, h1, h2 with
    | 0, h1, h2 =>
      obtain rfl : tb = t := by simpa using h1
      obtain rfl : Value.bool true = r := by simpa [Value.resultList] using h2
      exact okWide_bool_mk ht _
    | j + 1, h1, _ => simp at h1
  · intro b off hp
    have hp' : MemPlace.cell b off ∈ pa ++ pv := by simpa using hp
    rw [hb.frozen (hlt _ hp')]
    exact hz b off hp'
  · intro ha
    simpa using hn ha
  · intro p hp _
    simpa using hp
end

open Go.PlainAid Mem Rws Sz Rt Fa Pl Fb Rq Fc Fy Fe Fr Ff
theorem Rd.two {w : World} {B : Nat} {a : Addr} {n : Nat} {X Y : Nat → Nat} (h : Rd w B 2 (some a) n (pr X Y)) (hn : 0 < n) : ∃ b o, a = ⟨b, o, none⟩ ∧ b < B ∧ ∀ i, i < n → w.cell? ⟨b, o + i * 2, none⟩ = some (.int .u32 (X i : Int)) ∧ w.cell? ⟨b, o + i * 2 + 1, none⟩ = some (.int .u32 (Y i : Int)) := by
  obtain ⟨b, o, e, hb, hc⟩ := h hn
  injection e with e
  subst e
  exact ⟨b, o, rfl, hb, fun i hi => ⟨(hc (i * 2) (by omega)).trans (by rw [(pr_at X Y i).1]), (hc (i * 2 + 1) (by omega)).trans (by rw [(pr_at X Y i).2])⟩⟩
/-- The links of what zzBuild lays are the targets. -/
theorem built_lk {n nu nf : Nat} {T : Nat → Int} {X Y : Nat → Nat} {U K : Nat → Int} {nm : Bool} (hT : ∀ j, j < n → -1 ≤ T j ∧ T j < (n : Int)) : Lk n X Y (bd T X Y nu U nf K nm) T := fun i hi => by
  obtain ⟨h1, h2⟩ := hT i hi
  by_cases h : T i < 0
  · exact .inl ⟨by omega, if_pos h, if_pos h⟩
  · exact .inr ⟨(T i).toNat, by omega, by omega, if_neg h, if_neg h⟩
theorem same_eq (n : Int) : (n == n) = true := by simp
theorem Sd.cell {m : Nat} {g : Nat → Nat} {w w' : World} (h : Sd m g w w') {b : Nat} (hb : b < w.heap.size) (hne : ∀ s, s < m → b ≠ g s) (o : Nat) : w'.cell? ⟨b, o, none⟩ = w.cell? ⟨b, o, none⟩ := by
  have := h.block b hb hne
  simp only [World.cell?, this]
theorem che_short {n r : Nat} {T T' : Nat → Int} {R : Nat → Nat} (hT : Rng n T) (hR : ChE n T R) (h : Sh n T T' r) (hr : ∀ x d, x < n → Ch T d x r → R x = r) : ChE n T' R := fun i hi => by
  obtain ⟨k, hc⟩ := hR i hi
  exact Ch.short hT hR (fun x hx => by
    rcases h x hx with e | ⟨e1, e2, d, e3⟩
    · exact .inl e
    · exact .inr ⟨e1, by rw [hr x d hx e3]; exact e2⟩) hc hi
/-- The state of the first loop. -/
structure Lp (w7 W9 : World) (G m n : Nat) (C g : Nat → Nat) (X Y : Nat → Nat) (R : Nat → Nat) (D : Dat) (T : Nat → Int) (wr : World) : Prop where
  sy : Sy w7.heap.size G m C g D wr
  lk : Lk n X Y D T
  ce : ChE n T R
  sd : Sd m g W9 wr
set_option maxRecDepth 100000 in
set_option maxHeartbeats 4000000 in
theorem walk (A0 : Option Addr) (n0 c0 : Nat) (Z0 : Nat → Int) (A1 : Option Addr) (n1 c1 : Nat) (Z1 : Nat → Int) (w : World) (hI : Ff.Inv w) (hI0 : 0 < w.heap.size) (hA0 : Mem.Rd w w.heap.size 1 A0 n0 (fun j => .int .u16 (Z0 j))) (hc0 : c0 ≤ maxLen) (hn0 : n0 ≤ c0) (hz0 : A0 = none → n0 = 0 ∧ c0 = 0) (hZ0 : ∀ j, j < n0 → (Lit.int .u16 (Z0 j)).wf = true) (hA1 : Mem.Rd w w.heap.size 1 A1 n1 (fun j => .int .i32 (Z1 j))) (hc1 : c1 ≤ maxLen) (hn1 : n1 ≤ c1) (hz1 : A1 = none → n1 = 0 ∧ c1 = 0) (hZ1 : ∀ j, j < n1 → (Lit.int .i32 (Z1 j)).wf = true) :
    Calls Tryd.prog 4 #[.slice A0 n0 c0, .slice A1 n1 c1] w fun e w' => e = .returned (.bool true) ∧ Below w.heap.size w w' := by
  have HI := Lib.hid hI
  have HA0 := Lib.hid hA0
  have HA1 := Lib.hid hA1
  have HZ0 := Lib.hid hZ0
  have HZ1 := Lib.hid hZ1
  have H00 := Lib.hid hz0
  have H01 := Lib.hid hz1
  have HI0 := Lib.hid hI0
  have mx0 : n0 ≤ maxLen := Nat.le_trans hn0 hc0
  have mx1 : n1 ≤ maxLen := Nat.le_trans hn1 hc1
  clear hI hA0 hA1 hZ0 hZ1 hz0 hz1 hI0
  go_enter Tryd.func4, Tryd.ntmps4
  go_wp2_with fail
  refine (bytes22 A0 n0 c0 A1 n1 c1 _ mx0 mx1).mono ?_
  rintro e w' ⟨rfl, rfl⟩
  clear mx0 mx1 hc0 hn0 hc1 hn1
  by_cases ht : n0 + n1 ≤ 1048576
  · rw [szOk_yes ht]
    by_cases g0 : 1048576 < 2 * n0 + 4 * n1
    · have t0 : decide (1048576 < 2 * (n0 : Int) + 4 * (n1 : Int)) = true := decide_eq_true (by omega)
      go_wp2_with fail
      go_ret
      exact ⟨rfl, by go_grown⟩
    have t0 : decide (1048576 < 2 * (n0 : Int) + 4 * (n1 : Int)) = false := decide_eq_false (by omega)
    by_cases g1 : 4096 < n0
    · have t1 : decide (4096 < n0) = true := decide_eq_true g1
      go_wp2_with fail
      go_ret
      exact ⟨rfl, by go_grown⟩
    have t1 : decide (4096 < n0) = false := decide_eq_false g1
    by_cases g2 : 4096 < n1
    · have t2 : decide (4096 < n1) = true := decide_eq_true g2
      go_wp2_with fail
      go_ret
      exact ⟨rfl, by go_grown⟩
    have t2 : decide (4096 < n1) = false := decide_eq_false g2
    go_wp2_with fail
    refine (clone6 A0 n0 c0 Z0 _ HA0.out H00.out (by omega)).mono ?_
    rintro e w1 ⟨B0, d0, rfl, _, _, _, hR0, hb1⟩
    have HR0 := Lib.hid hR0
    have HB1 := Lib.hid hb1
    clear hR0 hb1
    go_wp2_with fail
    refine (clone7 A1 n1 c1 Z1 _ ((HA1.out.below HB1.out).mono HB1.out.size) H01.out (by omega)).mono ?_
    rintro e w2 ⟨B1, d1, rfl, _, _, _, hR1, hb2⟩
    have HR1 := Lib.hid hR1
    have HB2 := Lib.hid (HB1.out.trans (hb2.mono HB1.out.size))
    have HR0' := Lib.hid ((HR0.out.below hb2).mono hb2.size)
    clear hR1 hb2 HR0
    by_cases hz : n1 = 0
    · have t3 : ((n1 : Int) == 0) = true := by rw [beq_iff_eq]; omega
      clear hz
      go_wp2_with fail
      go_ret
      exact ⟨rfl, HB2.out⟩
    have t3 : ((n1 : Int) == 0) = false := by rw [beq_eq_false_iff_ne]; omega
    have hpos : 0 < n1 := by omega
    clear hz
    have hzz : ∀ j, j < n1 → -2147483648 ≤ Z1 j ∧ Z1 j ≤ 2147483647 := fun j hj => by simpa [Lit.wf, IntKind.min, IntKind.max, IntKind.signed, IntKind.bits] using HZ1.out j hj
    have HZZ := Lib.hid hzz
    clear hzz
    go_wp2_with fail
    refine (targets9 B1 n1 d1 Z1 _ HR1.out HZZ.out (by omega)).mono ?_
    rintro e w3 ⟨B3, d3, rfl, _, _, _, hR3, hb3⟩
    have HTG : Hid (∀ j, j < n1 → -1 ≤ tg n1 Z1 j ∧ tg n1 Z1 j < (n1 : Int)) := Lib.hid fun j hj => ⟨tg_lo n1 Z1 j hpos, tg_rng n1 Z1 j hj⟩
    generalize tg n1 Z1 = T at *
    have HR3 := Lib.hid hR3
    have HB3 := Lib.hid (HB2.out.trans (hb3.mono HB2.out.size))
    have HR03 := Lib.hid ((HR0'.out.below hb3).mono hb3.size)
    clear hR3 hb3 HR0' HR1 HZZ
    go_wp2_with fail
    refine (roots10 B3 n1 d3 T _ HR3.out HTG.out (by omega)).mono ?_
    rintro e w4 ⟨hb4, hr4⟩
    have HB4 := Lib.hid (HB3.out.trans (hb4.mono HB3.out.size))
    rcases hr4 with ⟨rfl, _⟩ | ⟨gr, R, rfl, hE, hgr0, hgr, hcr⟩
    · clear hb4
      go_wp2_with fail
      go_ret
      exact ⟨rfl, HB4.out⟩
    have HE := Lib.hid hE
    have HCR := Lib.hid hcr
    have HR34 := Lib.hid ((HR3.out.below hb4).mono hb4.size)
    have HR04 := Lib.hid ((HR03.out.below hb4).mono hb4.size)
    have hsz4 := hb4.size
    clear hE hcr hb4 HR3 HR03
    go_wp2_with fail
    have hzz : ∀ j, j < n0 → 0 ≤ Z0 j ∧ Z0 j ≤ 65535 := fun j hj => by simpa [Lit.wf, IntKind.min, IntKind.max, IntKind.signed, IntKind.bits] using HZ0.out j hj
    refine (counts11 B0 n0 d0 n1 Z0 _ HR04.out hzz (by omega) (by omega)).mono ?_
    clear hzz
    rintro e w5 ⟨Bc, dc, m, C, rfl, hm, hP, hRc, hb5⟩
    have HP := Lib.hid hP
    have HRC := Lib.hid hRc
    have HB5 := Lib.hid (HB4.out.trans (hb5.mono HB4.out.size))
    have HR35 := Lib.hid ((HR34.out.below hb5).mono hb5.size)
    have HCR5 : Hid (∀ j, j < n1 → w5.cell? ⟨gr, j, none⟩ = some (.int .i64 (R j : Int))) := Lib.hid fun j hj => (hb5.cell (p := ⟨gr, j, none⟩) hgr).trans (HCR.out j hj)
    have hgr5 : gr < w5.heap.size := Nat.lt_of_lt_of_le hgr hb5.size
    obtain ⟨X, Y, hXY⟩ := locs C m n1 hP
    have HXY := Lib.hid hXY
    clear hP hRc hb5 HR34 HR04 HCR hgr hXY
    go_wp2_with fail
    refine (refs12 Bc m dc n1 C X Y _ HRC.out HP.out HXY.out (by omega) (by omega)).mono ?_
    rintro e w6 ⟨ra, dr, rfl, hRr, hb6⟩
    have HRR := Lib.hid hRr
    have HB6 := Lib.hid (HB5.out.trans (hb6.mono HB5.out.size))
    have HR36 := Lib.hid ((HR35.out.below hb6).mono hb6.size)
    have HRC6 := Lib.hid ((HRC.out.below hb6).mono hb6.size)
    have HCR6 : Hid (∀ j, j < n1 → w6.cell? ⟨gr, j, none⟩ = some (.int .i64 (R j : Int))) := Lib.hid fun j hj => (hb6.cell (p := ⟨gr, j, none⟩) hgr5).trans (HCR5.out j hj)
    have hgr6 : gr < w6.heap.size := Nat.lt_of_lt_of_le hgr5 hb6.size
    clear hRr hb6 HR35 HRC HCR5 hgr5
    go_wp2_with fail
    refine (starts13 Bc m dc C _ HRC6.out (by rw [HP.out]; omega) (by omega)).mono ?_
    rintro e w7 ⟨Bs, ds, rfl, _, _, _, hRs, hb7⟩
    have HRS := Lib.hid hRs
    have HB7 := Lib.hid (HB6.out.trans (hb7.mono HB6.out.size))
    have HR37 := Lib.hid ((HR36.out.below hb7).mono hb7.size)
    have HRC7 := Lib.hid ((HRC6.out.below hb7).mono hb7.size)
    have HRR7 := Lib.hid ((HRR.out.below hb7).mono hb7.size)
    have HCR7 : Hid (∀ j, j < n1 → w7.cell? ⟨gr, j, none⟩ = some (.int .i64 (R j : Int))) := Lib.hid fun j hj => (hb7.cell (p := ⟨gr, j, none⟩) hgr6).trans (HCR6.out j hj)
    have hgr7 : gr < w7.heap.size := Nat.lt_of_lt_of_le hgr6 hb7.size
    clear hRs hb7 HR36 HRC6 HRR HCR6 hgr6
    have HXB : Hid (∀ j, j < n1 → X j ≤ 5000 ∧ Y j ≤ 5000) := Lib.hid fun j hj => by
      have h1 := HXY.out j hj
      have h2 := P_at C h1.1
      have h3 := h1.1
      have h4 := h1.2.1
      have h5 := HP.out
      omega
    go_wp2_with fail
    refine (build14 Bc m dc C (some ra) n1 dr X Y B3 d3 T none 0 0 (fun _ => 0) none 0 0 (fun _ => 0) false _ HRC7.out HRR7.out HR37.out (Rd.zero _ _ _ _ _) (Rd.zero _ _ _ _ _) HP.out HTG.out HXB.out (by omega) (by omega) (by omega) (by omega)).mono ?_
    rintro e w8 ⟨G, g, rfl, hsy, hb8⟩
    have HLK : Hid (Lk n1 X Y (bd T X Y 0 (fun _ => 0) 0 (fun _ => 0) false) T) := Lib.hid (built_lk HTG.out)
    generalize bd T X Y 0 (fun _ => 0) 0 (fun _ => 0) false = D at *
    have HB8 := Lib.hid (HB7.out.trans (hb8.mono HB7.out.size))
    have HSY := Lib.hid hsy
    have HB78 := Lib.hid hb8
    have hw7 : w7.heap.size ≤ w8.heap.size := hb8.size
    have hw07 : w.heap.size ≤ w7.heap.size := HB7.out.size
    clear hsy hb8 HB1 HB2 HB3 HB4 HB5 HB6
    unfold smV
    go_wp2_with fail
    have HST : Hid (Lp w7 (w8.alloc (.cells #[.slice (some ⟨G, 0, none⟩) m m] 40)) G m n1 C g X Y R D T (w8.alloc (.cells #[.slice (some ⟨G, 0, none⟩) m m] 40))) := Lib.hid ⟨HSY.out.alloc _, HLK.out, HE.out, Sd.of (Below.refl _ _)⟩
    have HBX := Lib.hid (Own.new w8 40 #[.slice (some ⟨G, 0, none⟩) m m])
    have HB79 : Hid (Below w7.heap.size w7 (w8.alloc (.cells #[.slice (some ⟨G, 0, none⟩) m m] 40))) := Lib.hid (HB78.out.alloc hw7 _)
    have HGS : Hid (∀ s, s < m → w8.heap.size ≠ g s ∧ w7.heap.size ≤ g s) := Lib.hid fun s hs => ⟨by have := (HSY.out.row s hs).lt; omega, (HSY.out.glo s hs).1⟩
    clear HSY HLK HE HB78
    generalize w8.alloc _ = W9 at *
    go_loopw [13] (fun i wr => ∃ (z : Int) (D' : Dat) (T' : Nat → Int), -1 ≤ z ∧ z < n1 ∧ i = .int .i64 z ∧ Hid (Lp w7 W9 G m n1 C g X Y R D' T' wr)) (fun i _ => (intOf i + 1).toNat)
    case atStart => exact ⟨(n1 : Int) - 1, D, T, by omega, by omega, rfl, HST⟩
    case round =>
      clear HST
      obtain ⟨z, D', T', hz0, hz1, rfl, HL⟩ := hrel
      obtain ⟨wo, rfl⟩ : ∃ wo : World, wo = wr := ⟨_, rfl⟩
      have hb79 := HB79.out.trans (HL.out.sd.below (fun s hs => (HGS.out s hs).2) HB79.out.size)
      have HBO := Lib.hid hb79
      have hbx := (HL.out.sd.own HBX.out (fun s hs => (HGS.out s hs).1)).cell 0
      simp only [List.getElem?_toArray, List.getElem?_cons_zero] at hbx
      obtain ⟨br, or, rfl, hbr, hcr⟩ := Rd.two HRR7.out hpos
      have hw7o := hb79.size
      have hbxl := HBX.out.lt
      have hwl : w8.heap.size < wo.heap.size := Nat.lt_of_lt_of_le hbxl HL.out.sd.size
      clear hb79 hbxl
      by_cases hzz : 0 ≤ z
      · obtain ⟨k, rfl⟩ : ∃ k : Nat, z = (k : Int) := ⟨z.toNat, by omega⟩
        have hk : k < n1 := by omega
        obtain ⟨d, hch⟩ := HL.out.ce k hk
        have hTr := Lk.rng HL.out.lk
        have hRk : R k < n1 := hch.lt hTr hk
        have r1 := (HBO.out.cell (p := ⟨br, or + k * 2, none⟩) hbr).trans (hcr k hk).1
        have r2 := (HBO.out.cell (p := ⟨br, or + k * 2 + 1, none⟩) hbr).trans (hcr k hk).2
        have q1 := (HBO.out.cell (p := ⟨br, or + R k * 2, none⟩) hbr).trans (hcr (R k) hRk).1
        have q2 := (HBO.out.cell (p := ⟨br, or + R k * 2 + 1, none⟩) hbr).trans (hcr (R k) hRk).2
        have rk := (HBO.out.cell (p := ⟨gr, k, none⟩) hgr7).trans (HCR7.out k hk)
        have HRUN : Hid (∀ W, Below wo.heap.size wo W → Calls Tryd.prog 23 #[.agg #[.slice (some ⟨G, 0, none⟩) m m], .agg #[.int .u32 (X k : Int), .int .u32 (Y k : Int)]] W (Ff.Followed w7.heap.size G m n1 C g X Y D' T' (R k) W)) := Lib.hid fun W hb => run23 HXY.out HP.out (by omega) (by omega) (by have := HI0.out; omega) d k (R k) T' D' W hk (HL.out.sy.below hb (Nat.le_refl _)) HL.out.lk (HI.out.below (((HB7.out.trans (HBO.out.mono hw07))).trans (hb.mono (by omega))) HI0.out) hch
        have hr0 : ∀ s, s < m → br ≠ g s := fun s hs => by have := (HGS.out s hs).2; omega
        have hg0 : ∀ s, s < m → gr ≠ g s := fun s hs => by have := (HGS.out s hs).2; omega
        have HR0 := Lib.hid hr0
        have HG0 := Lib.hid hg0
        have hbrl : br < wo.heap.size := by omega
        have hgrl : gr < wo.heap.size := by omega
        have k0 : (0 : Int) ≤ (k : Int) := by omega
        have k1 : (k : Int) < (n1 : Int) := by omega
        have rk0 : (0 : Int) ≤ (R k : Int) := by omega
        have rk1 : (R k : Int) < (n1 : Int) := by omega
        clear hcr hTr hch hr0 hg0
        go_wp2_with fail
        go_region_held3 (fun W => W.cell? ⟨w8.heap.size, 0, none⟩ = some (.slice (some ⟨G, 0, none⟩) m m) ∧ W.cell? ⟨br, or + k * 2, none⟩ = some (.int .u32 (X k : Int)) ∧ W.cell? ⟨br, or + k * 2 + 1, none⟩ = some (.int .u32 (Y k : Int)) ∧ W.cell? ⟨gr, k, none⟩ = some (.int .i64 (R k : Int)) ∧ W.cell? ⟨br, or + R k * 2, none⟩ = some (.int .u32 (X (R k) : Int)) ∧ W.cell? ⟨br, or + R k * 2 + 1, none⟩ = some (.int .u32 (Y (R k) : Int)))
          (first | exact ⟨hbx, r1, r2, rk, q1, q2⟩ | exact ⟨(Sd.cell hsd2 hwl (fun s hs => (HGS.out s hs).1) _).trans hbx, (Sd.cell hsd2 hbrl HR0.out _).trans r1, (Sd.cell hsd2 hbrl HR0.out _).trans r2, (Sd.cell hsd2 hgrl HG0.out _).trans rk, (Sd.cell hsd2 hbrl HR0.out _).trans q1, (Sd.cell hsd2 hbrl HR0.out _).trans q2⟩)
          ((go_at_call 23; refine (HRUN.out _ (by first | exact Below.refl _ _ | exact below_drew (Below.refl _ _))).mono ?_; rintro e w9 ⟨rfl, D2, T2, hsy2, hlk2, hsh2, hln2, hsd2⟩))
        have HN : Hid (Lp w7 W9 G m n1 C g X Y R D2 T2 w9) := Lib.hid ⟨hsy2, hlk2, che_short (Lk.rng HL.out.lk) HL.out.ce hsh2 (fun x d hx hc => by
          obtain ⟨d', hc'⟩ := HL.out.ce x hx
          exact (hc'.uniq hc).2), (HL.out.sd.trans (Sd.of (below_drew (Below.refl _ _)))).trans hsd2⟩
        clear hsy2 hlk2 hsh2 hln2 hsd2 HL HBO HRUN hbx r1 r2 rk q1 q2
        go_wp2_with fail
        go_roundw
        case rel => exact ⟨(k : Int) - 1, D2, T2, by omega, by omega, rfl, HN⟩
        case measure => simp [intOf]
      · have t4 : decide (0 ≤ z) = false := decide_eq_false hzz
        go_wp2_with fail
        have hO := HBO.out.size
        have hwO : w.heap.size ≤ wo.heap.size := Nat.le_trans hw07 hO
        have hrngT : ∀ j, j < n1 → -1 ≤ T' j ∧ T' j < (n1 : Int) := fun j hj => by
          rcases HL.out.lk j hj with ⟨h1, _⟩ | ⟨t, ht, h1, _⟩ <;> omega
        have HRT := Lib.hid hrngT
        clear hrngT hbx hcr
        refine (red16 HL.out.sy (some ⟨br, or, none⟩) n1 dr X Y Bc dc Bs ds T' ((HRR7.out.below HBO.out).mono hO) ((HRC7.out.below HBO.out).mono hO) ((HRS.out.below HBO.out).mono hO) HXY.out HL.out.lk HP.out (by omega) (by omega)).mono ?_
        rintro e w10 ⟨h2, rfl, hR2, hb10⟩
        have HR2 := Lib.hid hR2
        have HB10 := Lib.hid ((HB7.out.trans (HBO.out.mono hw07)).trans (hb10.mono hwO))
        have HCR10 : Hid (∀ j, j < n1 → w10.cell? ⟨gr, j, none⟩ = some (.int .i64 (R j : Int))) := Lib.hid fun j hj => (hb10.cell (p := ⟨gr, j, none⟩) (by show gr < _; omega)).trans ((HBO.out.cell (p := ⟨gr, j, none⟩) hgr7).trans (HCR7.out j hj))
        have hz10 : gr < w10.heap.size := by have := hb10.size; omega
        clear hR2 hb10
        go_wp2_with fail
        refine (roots10 (some ⟨h2, 0, none⟩) n1 n1 T' _ HR2.out HRT.out (by omega)).mono ?_
        rintro e w11 ⟨hb11, hr11⟩
        have HB11 := Lib.hid (HB10.out.trans (hb11.mono HB10.out.size))
        have HCR11 : Hid (∀ j, j < n1 → w11.cell? ⟨gr, j, none⟩ = some (.int .i64 (R j : Int))) := Lib.hid fun j hj => (hb11.cell (p := ⟨gr, j, none⟩) hz10).trans (HCR10.out j hj)
        rcases hr11 with ⟨_, i, hi, hno⟩ | ⟨g2, R2, rfl, hE2, _, hg2, hc2⟩
        · exfalso
          obtain ⟨d, hc⟩ := HL.out.ce i hi
          exact hno ⟨d, _, hc⟩
        have HEQ : Hid (∀ j, j < n1 → R2 j = R j) := Lib.hid fun j hj => ChE.uniq hE2 HL.out.ce hj
        have HC2 : Hid (∀ j, j < n1 → w11.cell? ⟨g2, j, none⟩ = some (.int .i64 (R j : Int))) := Lib.hid fun j hj => by rw [hc2 j hj, HEQ.out j hj]
        clear hb11 hE2 hc2 HL HBO HCR10 HR2 HB10 hO hwO
        go_wp2_with fail
        go_loopw [18] (fun i wr => ∃ k : Nat, k ≤ n1 ∧ i = .int .i64 k ∧ Hid (Below w.heap.size w wr ∧ (∀ j, j < n1 → wr.cell? ⟨gr, j, none⟩ = some (.int .i64 (R j : Int))) ∧ ∀ j, j < n1 → wr.cell? ⟨g2, j, none⟩ = some (.int .i64 (R j : Int)))) (fun i _ => n1 - (intOf i).toNat)
        case atStart => exact ⟨0, by omega, rfl, Lib.hid ⟨HB11.out, HCR11.out, HC2.out⟩⟩
        case round =>
          obtain ⟨k, hk, rfl, HQ⟩ := hrel
          obtain ⟨wj, rfl⟩ : ∃ wj : World, wj = wr := ⟨_, rfl⟩
          by_cases hlt : k < n1
          · have a1 := HQ.out.2.1 k hlt
            have a2 := HQ.out.2.2 k hlt
            have k0 : (0 : Int) ≤ (k : Int) := by omega
            have k1 : (k : Int) < (n1 : Int) := by omega
            go_wp2_with fail
            go_quiet (fail)
            go_wp2_with fail
            have HN : Hid (Below w.heap.size w (wj.drewN nq) ∧ (∀ j, j < n1 → (wj.drewN nq).cell? ⟨gr, j, none⟩ = some (.int .i64 (R j : Int))) ∧ ∀ j, j < n1 → (wj.drewN nq).cell? ⟨g2, j, none⟩ = some (.int .i64 (R j : Int))) := Lib.hid ⟨Mem.below_drewN HQ.out.1 nq, HQ.out.2.1, HQ.out.2.2⟩
            go_roundw
            case rel => exact ⟨k + 1, by omega, by go_num, HN⟩
            case measure => simp [intOf]; omega
          · have t5 : decide (k < n1) = false := decide_eq_false hlt
            go_wp2_with fail
            go_ret
            exact ⟨rfl, HQ.out.1⟩
  · rw [szOk_no ht]
    go_wp2_with fail
    go_ret
    exact ⟨rfl, by go_grown⟩

set_option maxRecDepth 100000 in
/-- What the walk gives, for every argument and every world that holds the tables. -/
theorem contract (H : Type) (enc : TypeId × Value → H) (W : World) (base : Nat) (args : Array Value) (ds gs : List (DataW H)) (before : List MemPlace)
    (hval : ∀ (j : Nat) t v, Tryd.f4.params[j]? = some t → args[j]? = some v → Value.okWide Tryd.prog W .any base t v)
    (hW : DataW.Whole enc Tryd.prog Tryd.f4.params.toList Rows.fnFollowSymbolsFindsChainEndSpec.vars false W args.toList ds gs before) (hL : laidMetH Tryd.prog Rows.fnFollowSymbolsFindsChainEndRow.laid W) :
    Calls Tryd.prog 4 args W fun e W' => ∃ v, e = .returned v ∧ Rows.fnFollowSymbolsFindsChainEndSpec.post enc Tryd.prog Tryd.f4 false true false false W args v W' := by
  have hW' := hW
  obtain ⟨p, q, hA0, hV, rfl, hfz, hnd⟩ := hW
  have hA : DataW.TrodAll enc Tryd.prog W 0 (fun _ => true) true Tryd.f4.params.toList args.toList ds p := hA0
  rw [Tryd.params4] at hA hval
  obtain ⟨v0, vs0, d0, ds0, p0, q0, hargs0, rfl, rfl, h0, r0⟩ := trodAll_cons hA
  obtain ⟨v1, vs1, d1, ds1, p1, q1, hargs1, rfl, rfl, h1, r1⟩ := trodAll_cons r0
  obtain ⟨rfl, rfl, rfl⟩ := trodAll_nil r1
  obtain rfl : args = #[v0, v1] := by cases args; simp_all
  obtain ⟨A0, n0, c0, Z0, rfl, hn0, hc0, hz0, hA0, hZ0⟩ := Mem.open_ints' Tryd.underlying22 Tryd.underlying48 (by kernel_rfl) (hval 0 22 v0 rfl rfl) h0
  obtain ⟨A1, n1, c1, Z1, rfl, hn1, hc1, hz1, hA1, hZ1⟩ := Mem.open_ints' Tryd.underlying23 Tryd.underlying21 (by kernel_rfl) (hval 1 23 v1 rfl rfl) h1
  clear hA0
  obtain ⟨gv, tv, csv, fv, dv, pv, rfl, hgv, _, hvv, _⟩ := trodVars_one hV
  refine (walk A0 n0 c0 Z0 A1 n1 c1 Z1 W (inv hL) (by have := World.block_lt_of_cell? W _ (inv hL).1; exact this) hA0 hc0 hn0 hz0 hZ0 hA1 hc1 hn1 hz1 hZ1).mono fun e W' ⟨he, hg⟩ => ?_
  subst he
  exact ⟨_, rfl, law_post1 laid readEach rfl vReads rfl Tryd.underlying4 ⟨rfl, rfl, rfl⟩ hW' hg⟩

def invBlock : Obj → Obj
  | .cells _ t frozen => .cells #[.int .u32 4294967295, .int .u32 4294967295] t frozen
  | o => o
/-- A world for the witness: the settled one, the variable holding what its initialiser lays. -/
noncomputable def laidWorld (os : Os) : World :=
  { World.holding Tryd.prog os ⟨#[], #[], []⟩ with heap := (World.holding Tryd.prog os ⟨#[], #[], []⟩).heap.modify 0 invBlock }
theorem laid_met (os : Os) : laidMet Tryd.prog Rows.fnFollowSymbolsFindsChainEndRow.laid ((laidWorld os).forCall (fun _ _ => 0) ⟨#[], #[.slice none 0 0, .slice none 0 0], []⟩).memory :=
  laidMet_of_run' 8 (by kernel_rfl) (by kernel_rfl)
theorem reads (os : Os) {H : Type} (enc : TypeId × Value → H) : ∃ places, DataW.whole enc Tryd.prog ((laidWorld os).forCall (fun _ _ => 0) ⟨#[], #[.slice none 0 0, .slice none 0 0], []⟩).memory Tryd.f4.params.toList Rows.fnFollowSymbolsFindsChainEndSpec.vars false (#[.slice none 0 0, .slice none 0 0] : Array Value).toList 8 = some ([.nil, .nil], [.agg [.lit (.int .u32 4294967295), .lit (.int .u32 4294967295)]], places) :=
  ⟨MemPlace.row ⟨0, 0, none⟩ 2, by kernel_rfl⟩

set_option maxRecDepth 100000 in
theorem lifted (os : Os) (started : os.Started) (H : Type) (enc : TypeId × Value → H) (F : Stop.Interp) :
    ReturnsInHanded {} Tryd.checked os 4 .any ((OpenSpec.ofChange Rows.fnFollowSymbolsFindsChainEndSpec).preRow enc Tryd.prog Tryd.f4 Rows.fnFollowSymbolsFindsChainEndRow.domain false Rows.fnFollowSymbolsFindsChainEndRow.laid) (((OpenSpec.ofChange Rows.fnFollowSymbolsFindsChainEndSpec).at F).post enc Tryd.prog Tryd.f4 false true false false) := by
  obtain ⟨places, hx⟩ := reads os enc
  refine returnsInHanded_of_row (C := Tryd.checked) (s := OpenSpec.ofChange Rows.fnFollowSymbolsFindsChainEndSpec) own started (by kernel_rfl) Tryd.func4
    (witness_row_at (enc := enc) (C := Tryd.checked) false (laidWorld os) #[.slice none 0 0, .slice none 0 0] rfl (by kernel_rfl) (by kernel_rfl) (by kernel_rfl)
      (OpenSpec.preRow_of_cond 8 hx (by kernel_rfl) (fun k hk => by cases hk) (by kernel_rfl) (laid_met os))) ?_
  intro W base args ds gs before hval hW _ _ _ hL _ _
  exact contract H enc W base args ds gs before hval hW hL

theorem said : Rows.FnFollowSymbolsFindsChainEndSaid :=
  OpenClaim.holds_of_cond 4 Tryd.f4 rfl rfl rfl rfl rfl rfl rfl ⟨rfl, rfl, rfl, rfl, rfl⟩ rfl rfl rfl rfl rfl (by kernel_rfl) Tryd.func4 (by kernel_rfl)
    (of_decide_eq_true (by kernel_rfl)) (by unfold Func.isWrapper; first | (rw [if_pos (by decide +kernel)]; kernel_rfl) | (rw [if_neg (by decide +kernel)]; exact ⟨rfl, rfl⟩))
    (fun os started H enc _ F => by rw [OpenClaim.pre_eq_preRow]; exact lifted os started H enc F)

/-- No parameter wants a stand-in; the program's own looks are off. -/
theorem plain (f : FuncId) (fn : Func) (hf : Tryd.pinned.checked.prog.funcNamed Rows.fnFollowSymbolsFindsChainEndRow.func = some f) (hfn : Tryd.pinned.checked.prog.funcs[f]? = some fn) :
    false = Tryd.pinned.checked.prog.looks [] ∧ ∀ (j : Nat) t, fn.params[j]? = some t → Tryd.pinned.checked.prog.wantsStandIn t = false := by
  obtain rfl : f = 4 := Option.some.inj ((show Tryd.prog.funcNamed Rows.fnFollowSymbolsFindsChainEndRow.func = some 4 by kernel_rfl).symm.trans hf) |>.symm
  obtain rfl : fn = Tryd.f4 := (Option.some.inj (Tryd.func4.symm.trans hfn)).symm
  refine ⟨by kernel_rfl, fun j t ht => ?_⟩
  rw [Tryd.params4] at ht
  have hm : t ∈ [22, 23] := by simpa using Array.mem_of_getElem? ht
  have hall : ([22, 23] : List TypeId).all (fun t => !Tryd.prog.wantsStandIn t) = true := by kernel_rfl
  have hh : Tryd.prog.wantsStandIn t = false := by simpa using List.all_eq_true.1 hall t hm
  exact hh

/-- The card. -/
theorem card : Rows.FnFollowSymbolsFindsChainEndCardSaid :=
  Claim7.holds_tied_plain_at .later [] _ _ _ _ said (fun _ h => by cases h) (by kernel_rfl) (fun _ h => by cases h) fnFollowSymbolsFindsChainEnd_row_tie rfl ⟨rfl, rfl⟩ (by kernel_rfl) rfl plain (by kernel_rfl)
#print axioms card
end Go.Proofs.YtbppncnhdhogbaaDoor.fnFollowSymbolsFindsChainEnd
