/-
  Proved: the tied card of the law FnMergeSymbolsJoinsTwoClasses of folder n011_236: it returns true for every argument that its parameter types allow, wherever the variable InvalidRef of internal/ast holds what its initialiser lays, and leaves its arguments and that variable as they were; there is no further condition.
-/
import Derived.Test.YtbppncnhdhogbaaDoorCards
import Derived.Test.YtbppncnhdhogbaaDoorTie
import Derived.ChangeVars
import Derived.WalkKit
import Derived.ProofKit
import Derived.OpenShut
import Derived.Below
import Derived.Carry
import Derived.ChangeMaps5
import Derived.Deep.DeepHandedRow
import Derived.Lib.LaidTab
import Derived.Lib.LaidU8
import Derived.PinnedBridge
import Derived.Handy
import Derived.Lib.Hide
import Derived.WalkSpells
import Derived.OwnWalk
import Derived.Deep.CutRange
import Derived.Deep.RegionHeld3
import Derived.Test.YtbppncnhdhogbaaDoorMm
import Derived.Test.YtbppncnhdhogbaaDoorFk
import Derived.Test.YtbppncnhdhogbaaDoorSz
namespace Go.Proofs.YtbppncnhdhogbaaDoor.fnMergeSymbolsJoinsTwoClasses
open Go.ChangeShapes Go.WideShapes Go.ChangeAt Go.RowKit
set_option linter.unusedVariables false

theorem own : ownKnob Tryd.prog.godebug = none := by kernel_rfl
theorem laid : laidOutB Tryd.prog = true := by kernel_rfl
theorem readAll : (Tryd.f3.params.toList.all fun t => Tryd.prog.readableRec t && decide (t < Tryd.prog.types.size)) = true := by kernel_rfl
theorem readEach : ∀ t ∈ Tryd.f3.params.toList, Tryd.prog.readableRec t = true ∧ t < Tryd.prog.types.size := fun t ht => by
  have := List.all_eq_true.1 readAll t ht
  simpa using this
theorem vName : Tryd.prog.globalNamed "github.com/evanw/esbuild/internal/ast.InvalidRef" = some 0 := by kernel_rfl
theorem vType : (Tryd.prog.globals[0]?).map (·.type) = some 43 := by kernel_rfl
theorem vRead : Tryd.prog.readableRec 43 = true ∧ 43 < Tryd.prog.types.size := ⟨by kernel_rfl, of_decide_eq_true (by kernel_rfl)⟩
theorem vReads : ∀ g t, Tryd.prog.globalNamed "github.com/evanw/esbuild/internal/ast.InvalidRef" = some g → (Tryd.prog.globals[g]?).map (·.type) = some t → Tryd.prog.readableRec t = true ∧ t < Tryd.prog.types.size := fun g t h1 h2 => by
  obtain rfl := Option.some.inj (vName.symm.trans h1)
  obtain rfl := Option.some.inj (vType.symm.trans h2)
  exact vRead
/-- What the row's list gives: the variable's two cells. -/
theorem inv {W : World} (h : laidMetH Tryd.prog Rows.fnMergeSymbolsJoinsTwoClassesRow.laid W) : Ff.Inv W := by
  obtain ⟨g, t, cs, fuel, p, hg, hty, hvar, hd⟩ := Lib.laidMet.reads h (List.mem_cons.2 (Or.inl rfl))
  obtain rfl := Option.some.inj (vName.symm.trans hg)
  obtain rfl := Option.some.inj (vType.symm.trans hty)
  have hcs := Lib.ints_of_struct (k := .u32) (zs := [4294967295, 4294967295]) Tryd.underlying43 (fun j f hj => by
    match j, hj with
    | 0, hj => simp at hj; subst hj; exact ⟨Tryd.underlying25, rfl, by kernel_rfl⟩
    | 1, hj => simp at hj; subst hj; exact ⟨Tryd.underlying25, rfl, by kernel_rfl⟩
    | j + 2, hj => simp at hj) (by kernel_rfl) hd
  constructor
  · rw [World.var?_cell hg hvar 0, ← Array.getElem?_toList, hcs]; rfl
  · rw [World.var?_cell hg hvar 1, ← Array.getElem?_toList, hcs]; rfl
section
variable {H : Type} {enc : TypeId × Value → H} {P : Program}
theorem trodAll_stays (hl : laidOutB P = true) {W W' : World} (hb : Below W.heap.size W W') {sp : Nat → Bool} : ∀ {ts : List TypeId} {vs : List Value} {ds : List (DataW H)} {ps : List MemPlace},
    (∀ t ∈ ts, P.readableRec t = true ∧ t < P.types.size) → DataW.TrodAll enc P W 0 (fun _ => true) true ts vs ds ps → (∀ p ∈ ps, p.block < W.heap.size) → (∀ p ∈ ps, sp p.block = true) → DataW.TrodAll enc P W' 0 sp true ts vs ds ps
  | [], [], [], _, _, h, _, _ => h
  | _ :: _, _ :: _, _ :: _, _, hT, ⟨p, q, h1, h2, e⟩, hlt, hs =>
    ⟨p, q, WideElems.Trod_stays hl (hT _ (List.mem_cons.2 (Or.inl rfl))).1 (hT _ (List.mem_cons.2 (Or.inl rfl))).2 h1 (fun x hx => hb.same (hlt x (by rw [e]; exact List.mem_append_left _ hx))) (fun x hx => hs x (by rw [e]; exact List.mem_append_left _ hx)),
      trodAll_stays hl hb (fun t ht => hT t (List.mem_cons.2 (Or.inr ht))) h2 (fun x hx => hlt x (by rw [e]; exact List.mem_append_right _ hx)) (fun x hx => hs x (by rw [e]; exact List.mem_append_right _ hx)), e⟩

theorem var_below {W W' : World} {B g : Nat} {n : String} {cs : Array Value} (h : Below B W W') (hg : P.globalNamed n = some g) (hgB : g < B) (hv : W.var? P n = some cs) : W'.var? P n = some cs := by
  simp only [World.var?, hg, Option.bind_some] at hv ⊢
  rw [h.block g hgB]
  exact hv
theorem var_lt {W : World} {g : Nat} {n : String} {cs : Array Value} (hg : P.globalNamed n = some g) (hv : W.var? P n = some cs) : g < W.heap.size := by
  simp only [World.var?, hg, Option.bind_some] at hv
  rcases Nat.lt_or_ge g W.heap.size with h | h
  · exact h
  · rw [Array.getElem?_eq_none h] at hv
    cases hv
theorem trodVars_stays (hl : laidOutB P = true) {W W' : World} (hb : Below W.heap.size W W') {n : String} {gs : List (DataW H)} {ps : List MemPlace} (hr : ∀ g t, P.globalNamed n = some g → (P.globals[g]?).map (·.type) = some t → P.readableRec t = true ∧ t < P.types.size)
    (h : DataW.TrodVars enc P W (fun _ => true) [n] gs ps) (hlt : ∀ p ∈ ps, p.block < W.heap.size) {sp : Nat → Bool} (hs : ∀ p ∈ ps, sp p.block = true) : DataW.TrodVars enc P W' sp [n] gs ps := by
  obtain ⟨g, t, cs, fuel, d, p, rfl, h1, h2, h3, h4, e⟩ := trodVars_one h
  obtain ⟨hr1, hr2⟩ := hr g t h1 h2
  obtain ⟨fuel', h4'⟩ := WideElems.Trod_stays (v := .agg cs) hl hr1 hr2 ⟨fuel, h4⟩ (fun x hx => hb.same (hlt x (by rw [e]; exact List.mem_append_right _ hx))) (fun x hx => hs x (by rw [e]; exact List.mem_append_right _ hx))
  rw [e]
  exact trodVars_mk1 h1 h2 (var_below hb h1 (var_lt h1 h3) h3) h4'
/-- A law's step: the result is true, the arguments and the variable are kept, the world has changed in new blocks alone. -/
theorem law_post1 {f : Func} {s : ChangeSpec} {apart fresh handsOn again : Bool} {W W' : World} {args : Array Value} {ds gs : List (DataW H)} {before : List MemPlace} {tb : TypeId} {n : String}
    (hl : laidOutB P = true) (hps : ∀ t ∈ f.params.toList, P.readableRec t = true ∧ t < P.types.size) (hv : s.vars = [n]) (hvr : ∀ g t, P.globalNamed n = some g → (P.globals[g]?).map (·.type) = some t → P.readableRec t = true ∧ t < P.types.size) (hr : f.resultTypes = #[tb]) (ht : P.underlying tb = some .bool)
    (hs : (s.fn H (ds ++ gs)).results = [.lit (.bool true)] ∧ (s.fn H (ds ++ gs)).args = ds ∧ (s.fn H (ds ++ gs)).vars = gs)
    (hW : DataW.Whole enc P f.params.toList s.vars apart W args.toList ds gs before) (hb : Below W.heap.size W W') :
    s.post enc P f apart fresh handsOn again W args (.bool true) W' := by
  have hlt : ∀ p ∈ before, p.block < W.heap.size := fun p hp => hW.lt p hp
  have hold : ∀ p ∈ before, (fun b => decide (b < W.heap.size)) p.block = true := fun p hp => by simpa using hlt p hp
  have hW0 := hW
  obtain ⟨pa, pv, hA, hV, rfl, hz, hn⟩ := hW
  rw [hv] at hV
  have hres : ∀ (b : Nat) (sp : Nat → Bool) (hd : Bool), DataW.TrodAll enc P W' b sp hd f.resultTypes.toList ((Value.bool true).resultList f.resultTypes.size) (s.fn H (ds ++ gs)).results [] := fun b sp hd => by
    rw [hs.1, hr]; exact trodAll_cons_mk (shut_bool ht _) trodAll_mk0
  have hargs : ∀ sp : Nat → Bool, (∀ p ∈ pa ++ pv, sp p.block = true) → DataW.TrodAll enc P W' 0 sp true f.params.toList args.toList (s.fn H (ds ++ gs)).args pa := fun sp hsp => by
    rw [hs.2.1]; exact trodAll_stays hl hb hps hA (fun p hp => hlt p (List.mem_append_left _ hp)) (fun p hp => hsp p (List.mem_append_left _ hp))
  have hvars : ∀ sp : Nat → Bool, (∀ p ∈ pa ++ pv, sp p.block = true) → DataW.TrodVars enc P W' sp s.vars (s.fn H (ds ++ gs)).vars pv := fun sp hsp => by
    rw [hv, hs.2.2]; exact trodVars_stays hl hb hvr hV (fun p hp => hlt p (List.mem_append_right _ hp)) (fun p hp => hsp p (List.mem_append_right _ hp))
  refine ⟨ds, gs, pa ++ pv, [], pa, pv, hW0, hres _ _ _, hargs _ hold, hvars _ hold, World.keptBut_mono (fun p hp => ⟨hp, by rcases List.mem_append.1 hp with h | h; exact Or.inr (Or.inl h); exact Or.inr (Or.inr h)⟩) (hb.frame (· ∈ pa ++ pv)), fun _ => ?_⟩
  refine ⟨?_, _, _, ([] ++ pa) ++ pv, ⟨[] ++ pa, pv, trodAll_append (hargs _ (fun _ _ => rfl)) (hres _ _ _), hvars _ (fun _ _ => rfl), rfl, ?_, ?_⟩, ?_⟩
  · intro j t r h1 h2
    rw [hr] at h1 h2
    match j, h1, h2 with
    | 0, h1, h2 =>
      obtain rfl : tb = t := by simpa using h1
      obtain rfl : Value.bool true = r := by simpa [Value.resultList] using h2
      exact okWide_bool_mk ht _
    | j + 1, h1, _ => simp at h1
  · intro b off hp
    have hp' : MemPlace.cell b off ∈ pa ++ pv := by simpa using hp
    rw [hb.frozen (hlt _ hp')]
    exact hz b off hp'
  · intro ha
    simpa using hn ha
  · intro p hp _
    simpa using hp
end

open Go.PlainAid Mem Rws Sz Rt Fa Pl Fb Rq Fc Fy Fe Fr Ff Fm Fp Fz Fo Mm Fk
theorem Rd.two {w : World} {B : Nat} {a : Addr} {n : Nat} {X Y : Nat → Nat} (h : Rd w B 2 (some a) n (pr X Y)) (hn : 0 < n) : ∃ b o, a = ⟨b, o, none⟩ ∧ b < B ∧ ∀ i, i < n → w.cell? ⟨b, o + i * 2, none⟩ = some (.int .u32 (X i : Int)) ∧ w.cell? ⟨b, o + i * 2 + 1, none⟩ = some (.int .u32 (Y i : Int)) := by
  obtain ⟨b, o, e, hb, hc⟩ := h hn
  injection e with e
  subst e
  exact ⟨b, o, rfl, hb, fun i hi => ⟨(hc (i * 2) (by omega)).trans (by rw [(pr_at X Y i).1]), (hc (i * 2 + 1) (by omega)).trans (by rw [(pr_at X Y i).2])⟩⟩
/-- The links of what zzBuild lays are the targets. -/
theorem built_lk {n nu nf : Nat} {T : Nat → Int} {X Y : Nat → Nat} {U K : Nat → Int} {nm : Bool} (hT : ∀ j, j < n → -1 ≤ T j ∧ T j < (n : Int)) : Lk n X Y (bd T X Y nu U nf K nm) T := fun i hi => by
  obtain ⟨h1, h2⟩ := hT i hi
  by_cases h : T i < 0
  · exact .inl ⟨by omega, if_pos h, if_pos h⟩
  · exact .inr ⟨(T i).toNat, by omega, by omega, if_neg h, if_neg h⟩
theorem same_eq (n : Int) : (n == n) = true := by simp
theorem Sd.cell {m : Nat} {g : Nat → Nat} {w w' : World} (h : Sd m g w w') {b : Nat} (hb : b < w.heap.size) (hne : ∀ s, s < m → b ≠ g s) (o : Nat) : w'.cell? ⟨b, o, none⟩ = w.cell? ⟨b, o, none⟩ := by
  have := h.block b hb hne
  simp only [World.cell?, this]
theorem che_short {n r : Nat} {T T' : Nat → Int} {R : Nat → Nat} (hT : Rng n T) (hR : ChE n T R) (h : Sh n T T' r) (hr : ∀ x d, x < n → Ch T d x r → R x = r) : ChE n T' R := fun i hi => by
  obtain ⟨k, hc⟩ := hR i hi
  exact Ch.short hT hR (fun x hx => by
    rcases h x hx with e | ⟨e1, e2, d, e3⟩
    · exact .inl e
    · exact .inr ⟨e1, by rw [hr x d hx e3]; exact e2⟩) hc hi
/-- Behind MergeSymbols. -/
def Md (w9 W11 : World) (G m n : Nat) (C g : Nat → Nat) (X Y : Nat → Nat) (D : Dat) (T : Nat → Int) (ro rn bo bn : Nat) (v : Value) (wr : World) : Prop :=
  ∃ (L q : Nat) (D1 : Dat) (T' : Nat → Int), v = .pointer (some ⟨L, 0, none⟩) ∧ q < n ∧ Own wr L 43 #[.int .u32 (X q : Int), .int .u32 (Y q : Int)] ∧ W11.heap.size ≤ L ∧ Sy w9.heap.size G m C g D1 wr ∧ Lk n X Y D1 T' ∧ Sd m g W11 wr ∧ Post n T T' D D1 ro rn q bo bn
theorem Md.mk1 {w9 W11 w2 : World} {G m n : Nat} {C g X Y : Nat → Nat} {D D1 : Dat} {T T' : Nat → Int} {ro rn bo bn q : Nat} (hq : q < n) (hsy : Sy w9.heap.size G m C g D1 w2) (hlk : Lk n X Y D1 T') (hsd : Sd m g W11.drew w2) (hp : Post n T T' D D1 ro rn q bo bn) :
    Md w9 W11 G m n C g X Y D T ro rn bo bn (.pointer (some ⟨w2.heap.size, 0, none⟩)) (w2.alloc (.cells #[.int .u32 (X q : Int), .int .u32 (Y q : Int)] 43)) :=
  ⟨_, q, D1, T', rfl, hq, Own.new _ _ _, hsd.size, hsy.alloc _, hlk, ((Sd.of (below_drew (Below.refl _ _))).trans hsd).alloc _, hp⟩
theorem Md.mk2 {w9 W11 w2 : World} {G m n : Nat} {C g X Y : Nat → Nat} {D D1 : Dat} {T T' : Nat → Int} {ro rn bo bn q : Nat} (hG : W11.heap.size ≠ G ∧ ∀ s, s < m → W11.heap.size ≠ g s) (hq : q < n) (hsy : Sy w9.heap.size G m C g D1 w2) (hlk : Lk n X Y D1 T') (hsd : Sd m g (W11.alloc (.cells #[.int .u32 0, .int .u32 0] 43)).drew w2) (hp : Post n T T' D D1 ro rn q bo bn) :
    Md w9 W11 G m n C g X Y D T ro rn bo bn (.pointer (some ⟨W11.heap.size, 0, none⟩)) ((w2.setCell ⟨W11.heap.size, 0, none⟩ (.int .u32 (X q : Int))).setCell ⟨W11.heap.size, 1, none⟩ (.int .u32 (Y q : Int))) :=
  ⟨_, q, D1, T', rfl, hq, Own.set (Own.set (hsd.own ((Own.new W11 43 #[.int .u32 0, .int .u32 0]).drew) hG.2) 0 _) 1 _, Nat.le_refl _, Sy.setFar (Sy.setFar hsy (.inr hG) _ _) (.inr hG) _ _, hlk,
    (((Sd.of (below_drew (Below.alloc (Below.refl _ W11) (Nat.le_refl _) _))).trans hsd).set' (Nat.le_refl _) _ _).set' (Nat.le_refl _) _ _, hp⟩
theorem use4 {A B C D Q : Prop} (h : A ∧ B ∧ C ∧ D) (k : A → B → C → D → Q) : Q := k h.1 h.2.1 h.2.2.1 h.2.2.2
theorem keepAl {W : World} {o : Obj} {N : Nat} {a1 a2 a3 a4 a5 : Addr} {x1 x2 x3 x4 x5 : Value} (h1 : a1.block < N) (h2 : a2.block < N) (h3 : a3.block < N) (h4 : a4.block < N) (h5 : a5.block < N)
    (h : W.cell? a1 = some x1 ∧ W.cell? a2 = some x2 ∧ W.cell? a3 = some x3 ∧ W.cell? a4 = some x4 ∧ W.cell? a5 = some x5 ∧ N ≤ W.heap.size) :
    (W.alloc o).cell? a1 = some x1 ∧ (W.alloc o).cell? a2 = some x2 ∧ (W.alloc o).cell? a3 = some x3 ∧ (W.alloc o).cell? a4 = some x4 ∧ (W.alloc o).cell? a5 = some x5 ∧ N ≤ (W.alloc o).heap.size := by
  obtain ⟨k1, k2, k3, k4, k5, k6⟩ := h
  exact ⟨(World.cell?_alloc_lt _ _ _ (by omega)).trans k1, (World.cell?_alloc_lt _ _ _ (by omega)).trans k2, (World.cell?_alloc_lt _ _ _ (by omega)).trans k3, (World.cell?_alloc_lt _ _ _ (by omega)).trans k4, (World.cell?_alloc_lt _ _ _ (by omega)).trans k5, by simp; omega⟩
theorem sdc {m : Nat} {g : Nat → Nat} {W w' : World} (h : Sd m g W w') {a : Addr} (hb : a.block < W.heap.size) (hn : ∀ s, s < m → a.block ≠ g s) : w'.cell? a = W.cell? a := World.cell?_of_block (h.block _ hb hn)
theorem keepSd {W w' : World} {m : Nat} {g : Nat → Nat} {N : Nat} {a1 a2 a3 a4 a5 : Addr} {x1 x2 x3 x4 x5 : Value} (hsd : Sd m g W.drew w') (h1 : a1.block < N) (h2 : a2.block < N) (h3 : a3.block < N) (h4 : a4.block < N) (h5 : a5.block < N)
    (n1 : ∀ s, s < m → a1.block ≠ g s) (n2 : ∀ s, s < m → a2.block ≠ g s) (n3 : ∀ s, s < m → a3.block ≠ g s) (n4 : ∀ s, s < m → a4.block ≠ g s) (n5 : ∀ s, s < m → a5.block ≠ g s)
    (h : W.cell? a1 = some x1 ∧ W.cell? a2 = some x2 ∧ W.cell? a3 = some x3 ∧ W.cell? a4 = some x4 ∧ W.cell? a5 = some x5 ∧ N ≤ W.heap.size) :
    w'.cell? a1 = some x1 ∧ w'.cell? a2 = some x2 ∧ w'.cell? a3 = some x3 ∧ w'.cell? a4 = some x4 ∧ w'.cell? a5 = some x5 ∧ N ≤ w'.heap.size := by
  obtain ⟨k1, k2, k3, k4, k5, k6⟩ := h
  have hz : W.heap.size = W.drew.heap.size := rfl
  exact ⟨(sdc hsd (by omega) n1).trans k1, (sdc hsd (by omega) n2).trans k2, (sdc hsd (by omega) n3).trans k3, (sdc hsd (by omega) n4).trans k4, (sdc hsd (by omega) n5).trans k5, Nat.le_trans k6 hsd.size⟩
theorem keepSt {W : World} {N b o o' : Nat} {v v' : Value} {a1 a2 a3 a4 a5 : Addr} {x1 x2 x3 x4 x5 : Value} (hb : N ≤ b) (h1 : a1.block < N) (h2 : a2.block < N) (h3 : a3.block < N) (h4 : a4.block < N) (h5 : a5.block < N)
    (h : W.cell? a1 = some x1 ∧ W.cell? a2 = some x2 ∧ W.cell? a3 = some x3 ∧ W.cell? a4 = some x4 ∧ W.cell? a5 = some x5 ∧ N ≤ W.heap.size) :
    ((W.setCell ⟨b, o, none⟩ v).setCell ⟨b, o', none⟩ v').cell? a1 = some x1 ∧ ((W.setCell ⟨b, o, none⟩ v).setCell ⟨b, o', none⟩ v').cell? a2 = some x2 ∧ ((W.setCell ⟨b, o, none⟩ v).setCell ⟨b, o', none⟩ v').cell? a3 = some x3 ∧ ((W.setCell ⟨b, o, none⟩ v).setCell ⟨b, o', none⟩ v').cell? a4 = some x4 ∧ ((W.setCell ⟨b, o, none⟩ v).setCell ⟨b, o', none⟩ v').cell? a5 = some x5 ∧ N ≤ ((W.setCell ⟨b, o, none⟩ v).setCell ⟨b, o', none⟩ v').heap.size := by
  have key : ∀ a : Addr, a.block < N → ((W.setCell ⟨b, o, none⟩ v).setCell ⟨b, o', none⟩ v').cell? a = W.cell? a := fun a ha => by
    refine World.cell?_of_block ?_
    rw [Below.heap_setCell _ ⟨b, o', none⟩ v' a.block (by show a.block ≠ b; omega), Below.heap_setCell _ ⟨b, o, none⟩ v a.block (by show a.block ≠ b; omega)]
  obtain ⟨k1, k2, k3, k4, k5, k6⟩ := h
  exact ⟨(key _ h1).trans k1, (key _ h2).trans k2, (key _ h3).trans k3, (key _ h4).trans k4, (key _ h5).trans k5, by simpa using k6⟩
theorem atN_u16 {n : Nat} {Z : Nat → Int} (h : ∀ j, j < n → 0 ≤ Z j ∧ Z j ≤ 65535) (i : Nat) : 0 ≤ atN n Z i ∧ atN n Z i ≤ 65535 := by
  unfold atN; split
  · exact h i ‹_›
  · omega
theorem atN_u32 {n : Nat} {Z : Nat → Int} (h : ∀ j, j < n → 0 ≤ Z j ∧ Z j ≤ 4294967295) (i : Nat) : 0 ≤ atN n Z i ∧ atN n Z i ≤ 4294967295 := by
  unfold atN; split
  · exact h i ‹_›
  · omega
theorem use20 {A0 A1 A2 A3 A4 A5 A6 A7 A8 A9 B0 B1 B2 B3 B4 B5 B6 B7 B8 B9 Q : Prop} (h : A0 ∧ A1 ∧ A2 ∧ A3 ∧ A4 ∧ A5 ∧ A6 ∧ A7 ∧ A8 ∧ A9 ∧ B0 ∧ B1 ∧ B2 ∧ B3 ∧ B4 ∧ B5 ∧ B6 ∧ B7 ∧ B8 ∧ B9) (k : A0 → A1 → A2 → A3 → A4 → A5 → A6 → A7 → A8 → A9 → B0 → B1 → B2 → B3 → B4 → B5 → B6 → B7 → B8 → B9 → Q) : Q := by
  obtain ⟨a0, a1, a2, a3, a4, a5, a6, a7, a8, a9, a10, a11, a12, a13, a14, a15, a16, a17, a18, a19⟩ := h
  exact k a0 a1 a2 a3 a4 a5 a6 a7 a8 a9 a10 a11 a12 a13 a14 a15 a16 a17 a18 a19
theorem Own.set10 {w : World} {g : Nat} {t : TypeId} {a0 a1 a2 a3 a4 a5 a6 a7 a8 a9 : Value} (b0 b1 b2 b3 b4 b5 b6 b7 b8 b9 : Value) (h : Own w g t #[a0, a1, a2, a3, a4, a5, a6, a7, a8, a9]) : Own ((((((((((w.setCell ⟨g, 0, none⟩ b0).setCell ⟨g, 1, none⟩ b1).setCell ⟨g, 2, none⟩ b2).setCell ⟨g, 3, none⟩ b3).setCell ⟨g, 4, none⟩ b4).setCell ⟨g, 5, none⟩ b5).setCell ⟨g, 6, none⟩ b6).setCell ⟨g, 7, none⟩ b7).setCell ⟨g, 8, none⟩ b8).setCell ⟨g, 9, none⟩ b9) g t #[b0, b1, b2, b3, b4, b5, b6, b7, b8, b9] := by
  have h : Own (w.setCell ⟨g, 0, none⟩ b0) g t #[b0, a1, a2, a3, a4, a5, a6, a7, a8, a9] := h.set 0 b0
  have h : Own ((w.setCell ⟨g, 0, none⟩ b0).setCell ⟨g, 1, none⟩ b1) g t #[b0, b1, a2, a3, a4, a5, a6, a7, a8, a9] := h.set 1 b1
  have h : Own (((w.setCell ⟨g, 0, none⟩ b0).setCell ⟨g, 1, none⟩ b1).setCell ⟨g, 2, none⟩ b2) g t #[b0, b1, b2, a3, a4, a5, a6, a7, a8, a9] := h.set 2 b2
  have h : Own ((((w.setCell ⟨g, 0, none⟩ b0).setCell ⟨g, 1, none⟩ b1).setCell ⟨g, 2, none⟩ b2).setCell ⟨g, 3, none⟩ b3) g t #[b0, b1, b2, b3, a4, a5, a6, a7, a8, a9] := h.set 3 b3
  have h : Own (((((w.setCell ⟨g, 0, none⟩ b0).setCell ⟨g, 1, none⟩ b1).setCell ⟨g, 2, none⟩ b2).setCell ⟨g, 3, none⟩ b3).setCell ⟨g, 4, none⟩ b4) g t #[b0, b1, b2, b3, b4, a5, a6, a7, a8, a9] := h.set 4 b4
  have h : Own ((((((w.setCell ⟨g, 0, none⟩ b0).setCell ⟨g, 1, none⟩ b1).setCell ⟨g, 2, none⟩ b2).setCell ⟨g, 3, none⟩ b3).setCell ⟨g, 4, none⟩ b4).setCell ⟨g, 5, none⟩ b5) g t #[b0, b1, b2, b3, b4, b5, a6, a7, a8, a9] := h.set 5 b5
  have h : Own (((((((w.setCell ⟨g, 0, none⟩ b0).setCell ⟨g, 1, none⟩ b1).setCell ⟨g, 2, none⟩ b2).setCell ⟨g, 3, none⟩ b3).setCell ⟨g, 4, none⟩ b4).setCell ⟨g, 5, none⟩ b5).setCell ⟨g, 6, none⟩ b6) g t #[b0, b1, b2, b3, b4, b5, b6, a7, a8, a9] := h.set 6 b6
  have h : Own ((((((((w.setCell ⟨g, 0, none⟩ b0).setCell ⟨g, 1, none⟩ b1).setCell ⟨g, 2, none⟩ b2).setCell ⟨g, 3, none⟩ b3).setCell ⟨g, 4, none⟩ b4).setCell ⟨g, 5, none⟩ b5).setCell ⟨g, 6, none⟩ b6).setCell ⟨g, 7, none⟩ b7) g t #[b0, b1, b2, b3, b4, b5, b6, b7, a8, a9] := h.set 7 b7
  have h : Own (((((((((w.setCell ⟨g, 0, none⟩ b0).setCell ⟨g, 1, none⟩ b1).setCell ⟨g, 2, none⟩ b2).setCell ⟨g, 3, none⟩ b3).setCell ⟨g, 4, none⟩ b4).setCell ⟨g, 5, none⟩ b5).setCell ⟨g, 6, none⟩ b6).setCell ⟨g, 7, none⟩ b7).setCell ⟨g, 8, none⟩ b8) g t #[b0, b1, b2, b3, b4, b5, b6, b7, b8, a9] := h.set 8 b8
  have h : Own ((((((((((w.setCell ⟨g, 0, none⟩ b0).setCell ⟨g, 1, none⟩ b1).setCell ⟨g, 2, none⟩ b2).setCell ⟨g, 3, none⟩ b3).setCell ⟨g, 4, none⟩ b4).setCell ⟨g, 5, none⟩ b5).setCell ⟨g, 6, none⟩ b6).setCell ⟨g, 7, none⟩ b7).setCell ⟨g, 8, none⟩ b8).setCell ⟨g, 9, none⟩ b9) g t #[b0, b1, b2, b3, b4, b5, b6, b7, b8, b9] := h.set 9 b9
  exact h
theorem Below.set10 {B g : Nat} {a w : World} (h : Below B a w) (hg : B ≤ g) (b0 b1 b2 b3 b4 b5 b6 b7 b8 b9 : Value) : Below B a ((((((((((w.setCell ⟨g, 0, none⟩ b0).setCell ⟨g, 1, none⟩ b1).setCell ⟨g, 2, none⟩ b2).setCell ⟨g, 3, none⟩ b3).setCell ⟨g, 4, none⟩ b4).setCell ⟨g, 5, none⟩ b5).setCell ⟨g, 6, none⟩ b6).setCell ⟨g, 7, none⟩ b7).setCell ⟨g, 8, none⟩ b8).setCell ⟨g, 9, none⟩ b9) :=
  ((((((((((h.setCell (p := ⟨g, 0, none⟩) hg b0).setCell (p := ⟨g, 1, none⟩) hg b1).setCell (p := ⟨g, 2, none⟩) hg b2).setCell (p := ⟨g, 3, none⟩) hg b3).setCell (p := ⟨g, 4, none⟩) hg b4).setCell (p := ⟨g, 5, none⟩) hg b5).setCell (p := ⟨g, 6, none⟩) hg b6).setCell (p := ⟨g, 7, none⟩) hg b7).setCell (p := ⟨g, 8, none⟩) hg b8).setCell (p := ⟨g, 9, none⟩) hg b9)
theorem kTr {nx V w : World} (h : Below nx.heap.size nx V) (hb : Below V.heap.size V w) : Below nx.heap.size nx w := h.trans (hb.mono h.size)
theorem kAl {nx W : World} {o : Obj} (h : Below nx.heap.size nx W) : Below nx.heap.size nx (W.alloc o) := h.alloc h.size _
theorem kSt1 {nx W : World} {i : Nat} {u : Value} (h : Below nx.heap.size nx W) : Below nx.heap.size nx (W.setCell ⟨nx.heap.size, i, none⟩ u) := h.setCell (Nat.le_refl _) _
theorem kSt2 {nx V w W : World} {i : Nat} {u : Value} (hb : Below V.heap.size V w) (h2 : Below nx.heap.size nx V) (h : Below nx.heap.size nx W) : Below nx.heap.size nx (W.setCell ⟨w.heap.size, i, none⟩ u) := h.setCell (Nat.le_trans h2.size hb.size) _
/-- A copy of symbol k. -/
def Cq (wz : World) (D1 : Dat) (k : Nat) (v : Value) (wx : World) : Prop := ∃ L3, v = .pointer (some ⟨L3, 0, none⟩) ∧ Own wx L3 58 #[.pointer none, .string (D1.N k), .int .u32 (D1.X k), .int .u32 (D1.Y k), .int .u32 (D1.U k), .int .u32 0, .int .u32 0, .int .u16 (D1.K k), .int .u8 0, .int .u8 0] ∧ Below wz.heap.size wz wx
theorem Cq.mk1 {wz nx w18 : World} {D1 : Dat} {k : Nat} (hk : Below wz.heap.size wz nx) (hb : Below nx.drew.heap.size nx.drew w18) : Cq wz D1 k (.pointer (some ⟨w18.heap.size, 0, none⟩)) (w18.alloc (.cells #[.pointer none, .string (D1.N k), .int .u32 (D1.X k), .int .u32 (D1.Y k), .int .u32 (D1.U k), .int .u32 0, .int .u32 0, .int .u16 (D1.K k), .int .u8 0, .int .u8 0] 58)) :=
  ⟨_, rfl, Own.new _ _ _, ((below_drew hk).trans (hb.mono hk.size)).alloc (Nat.le_trans hk.size hb.size) _⟩
theorem Cq.mk2 {wz nx w18 : World} {D1 : Dat} {k : Nat} (hk : Below wz.heap.size wz nx) (hb : Below (nx.alloc (.cells #[.pointer none, .string ⟨#[]⟩, .int .u32 0, .int .u32 0, .int .u32 0, .int .u32 0, .int .u32 0, .int .u16 0, .int .u8 0, .int .u8 0] 58)).drew.heap.size (nx.alloc (.cells #[.pointer none, .string ⟨#[]⟩, .int .u32 0, .int .u32 0, .int .u32 0, .int .u32 0, .int .u32 0, .int .u16 0, .int .u8 0, .int .u8 0] 58)).drew w18) : Cq wz D1 k (.pointer (some ⟨nx.heap.size, 0, none⟩)) ((((((((((w18.setCell ⟨nx.heap.size, 0, none⟩ (.pointer none)).setCell ⟨nx.heap.size, 1, none⟩ (.string (D1.N k))).setCell ⟨nx.heap.size, 2, none⟩ (.int .u32 (D1.X k))).setCell ⟨nx.heap.size, 3, none⟩ (.int .u32 (D1.Y k))).setCell ⟨nx.heap.size, 4, none⟩ (.int .u32 (D1.U k))).setCell ⟨nx.heap.size, 5, none⟩ (.int .u32 0)).setCell ⟨nx.heap.size, 6, none⟩ (.int .u32 0)).setCell ⟨nx.heap.size, 7, none⟩ (.int .u16 (D1.K k))).setCell ⟨nx.heap.size, 8, none⟩ (.int .u8 0)).setCell ⟨nx.heap.size, 9, none⟩ (.int .u8 0)) := by
  have hk17 := hk.size
  exact ⟨_, rfl, Own.set10 (.pointer none) (.string (D1.N k)) (.int .u32 (D1.X k)) (.int .u32 (D1.Y k)) (.int .u32 (D1.U k)) (.int .u32 0) (.int .u32 0) (.int .u16 (D1.K k)) (.int .u8 0) (.int .u8 0) (((Own.new nx 58 #[.pointer none, .string ⟨#[]⟩, .int .u32 0, .int .u32 0, .int .u32 0, .int .u32 0, .int .u32 0, .int .u16 0, .int .u8 0, .int .u8 0]).drew).below hb (by simp)), Below.set10 ((below_drew (Below.alloc hk hk17 _)).trans (hb.mono (by simp; omega))) hk17 (.pointer none) (.string (D1.N k)) (.int .u32 (D1.X k)) (.int .u32 (D1.Y k)) (.int .u32 (D1.U k)) (.int .u32 0) (.int .u32 0) (.int .u16 (D1.K k)) (.int .u8 0) (.int .u8 0)⟩
theorem fresh10 {nx w2 : World} (hb : Below (nx.alloc (.cells #[.pointer none, .string ⟨#[]⟩, .int .u32 0, .int .u32 0, .int .u32 0, .int .u32 0, .int .u32 0, .int .u16 0, .int .u8 0, .int .u8 0] 58)).drew.heap.size (nx.alloc (.cells #[.pointer none, .string ⟨#[]⟩, .int .u32 0, .int .u32 0, .int .u32 0, .int .u32 0, .int .u32 0, .int .u16 0, .int .u8 0, .int .u8 0] 58)).drew w2) : w2.cell? ⟨nx.heap.size, 0, none⟩ = some (.pointer none) ∧ w2.cell? ⟨nx.heap.size, 1, none⟩ = some (.string ⟨#[]⟩) ∧ w2.cell? ⟨nx.heap.size, 2, none⟩ = some (.int .u32 0) ∧ w2.cell? ⟨nx.heap.size, 3, none⟩ = some (.int .u32 0) ∧ w2.cell? ⟨nx.heap.size, 4, none⟩ = some (.int .u32 0) ∧ w2.cell? ⟨nx.heap.size, 5, none⟩ = some (.int .u32 0) ∧ w2.cell? ⟨nx.heap.size, 6, none⟩ = some (.int .u32 0) ∧ w2.cell? ⟨nx.heap.size, 7, none⟩ = some (.int .u16 0) ∧ w2.cell? ⟨nx.heap.size, 8, none⟩ = some (.int .u8 0) ∧ w2.cell? ⟨nx.heap.size, 9, none⟩ = some (.int .u8 0) ∧ w2.frozen? ⟨nx.heap.size, 0, none⟩ = false ∧ w2.frozen? ⟨nx.heap.size, 1, none⟩ = false ∧ w2.frozen? ⟨nx.heap.size, 2, none⟩ = false ∧ w2.frozen? ⟨nx.heap.size, 3, none⟩ = false ∧ w2.frozen? ⟨nx.heap.size, 4, none⟩ = false ∧ w2.frozen? ⟨nx.heap.size, 5, none⟩ = false ∧ w2.frozen? ⟨nx.heap.size, 6, none⟩ = false ∧ w2.frozen? ⟨nx.heap.size, 7, none⟩ = false ∧ w2.frozen? ⟨nx.heap.size, 8, none⟩ = false ∧ w2.frozen? ⟨nx.heap.size, 9, none⟩ = false := by
  have hn := ((Own.new nx 58 #[.pointer none, .string ⟨#[]⟩, .int .u32 0, .int .u32 0, .int .u32 0, .int .u32 0, .int .u32 0, .int .u16 0, .int .u8 0, .int .u8 0]).drew).below hb (by simp)
  exact ⟨(hn.cell 0).trans rfl, (hn.cell 1).trans rfl, (hn.cell 2).trans rfl, (hn.cell 3).trans rfl, (hn.cell 4).trans rfl, (hn.cell 5).trans rfl, (hn.cell 6).trans rfl, (hn.cell 7).trans rfl, (hn.cell 8).trans rfl, (hn.cell 9).trans rfl, hn.frozen 0, hn.frozen 1, hn.frozen 2, hn.frozen 3, hn.frozen 4, hn.frozen 5, hn.frozen 6, hn.frozen 7, hn.frozen 8, hn.frozen 9⟩
set_option maxRecDepth 100000 in
set_option maxHeartbeats 40000000 in
theorem walk (A0 : Option Addr) (n0 c0 : Nat) (Z0 : Nat → Int) (A1 : Option Addr) (n1 c1 : Nat) (Z1 : Nat → Int) (A2 : Option Addr) (n2 c2 : Nat) (Z2 : Nat → Int) (A3 : Option Addr) (n3 c3 : Nat) (Z3 : Nat → Int) (a4 : Int) (a5 : Int) (w : World) (hI : Ff.Inv w) (hI0 : 0 < w.heap.size) (hA0 : Mem.Rd w w.heap.size 1 A0 n0 (fun j => .int .u16 (Z0 j))) (hc0 : c0 ≤ maxLen) (hn0 : n0 ≤ c0) (hz0 : A0 = none → n0 = 0 ∧ c0 = 0) (hZ0 : ∀ j, j < n0 → (Lit.int .u16 (Z0 j)).wf = true) (hA1 : Mem.Rd w w.heap.size 1 A1 n1 (fun j => .int .i32 (Z1 j))) (hc1 : c1 ≤ maxLen) (hn1 : n1 ≤ c1) (hz1 : A1 = none → n1 = 0 ∧ c1 = 0) (hZ1 : ∀ j, j < n1 → (Lit.int .i32 (Z1 j)).wf = true) (hA2 : Mem.Rd w w.heap.size 1 A2 n2 (fun j => .int .u32 (Z2 j))) (hc2 : c2 ≤ maxLen) (hn2 : n2 ≤ c2) (hz2 : A2 = none → n2 = 0 ∧ c2 = 0) (hZ2 : ∀ j, j < n2 → (Lit.int .u32 (Z2 j)).wf = true) (hA3 : Mem.Rd w w.heap.size 1 A3 n3 (fun j => .int .u16 (Z3 j))) (hc3 : c3 ≤ maxLen) (hn3 : n3 ≤ c3) (hz3 : A3 = none → n3 = 0 ∧ c3 = 0) (hZ3 : ∀ j, j < n3 → (Lit.int .u16 (Z3 j)).wf = true) (w4 : (Lit.int .u32 a4).wf = true) (w5 : (Lit.int .u32 a5).wf = true) :
    Calls Tryd.prog 3 #[.slice A0 n0 c0, .slice A1 n1 c1, .slice A2 n2 c2, .slice A3 n3 c3, .int .u32 a4, .int .u32 a5] w fun e w' => e = .returned (.bool true) ∧ Below w.heap.size w w' := by
  have HI := Lib.hid hI
  have HA0 := Lib.hid hA0
  have HZ0 := Lib.hid hZ0
  have H00 := Lib.hid hz0
  have mx0 : n0 ≤ maxLen := Nat.le_trans hn0 hc0
  have HA1 := Lib.hid hA1
  have HZ1 := Lib.hid hZ1
  have H01 := Lib.hid hz1
  have mx1 : n1 ≤ maxLen := Nat.le_trans hn1 hc1
  have HA2 := Lib.hid hA2
  have HZ2 := Lib.hid hZ2
  have H02 := Lib.hid hz2
  have mx2 : n2 ≤ maxLen := Nat.le_trans hn2 hc2
  have HA3 := Lib.hid hA3
  have HZ3 := Lib.hid hZ3
  have H03 := Lib.hid hz3
  have mx3 : n3 ≤ maxLen := Nat.le_trans hn3 hc3
  have HI0 := Lib.hid hI0
  have hw4 : 0 ≤ a4 ∧ a4 ≤ 4294967295 := by simpa [Lit.wf, IntKind.min, IntKind.max, IntKind.signed, IntKind.bits] using w4
  have hw5 : 0 ≤ a5 ∧ a5 ≤ 4294967295 := by simpa [Lit.wf, IntKind.min, IntKind.max, IntKind.signed, IntKind.bits] using w5
  obtain ⟨hw40, hw41⟩ := hw4
  obtain ⟨hw50, hw51⟩ := hw5
  clear hI hA0 hA1 hA2 hA3 hZ0 hZ1 hZ2 hZ3 hz0 hz1 hz2 hz3 hI0 w4 w5
  go_enter Tryd.func3, Tryd.ntmps3
  go_wp2_with fail
  refine (bytes5 A0 n0 c0 A1 n1 c1 A2 n2 c2 A3 n3 c3 a4 a5 _ mx0 mx1 mx2 mx3).mono ?_
  rintro e w' ⟨rfl, rfl⟩
  clear mx0 mx1 mx2 mx3 hc0 hn0 hc1 hn1 hc2 hn2 hc3 hn3
  by_cases ht : n0 + n1 + n2 + n3 ≤ 1048576
  · rw [szOk_yes ht]
    by_cases g0 : 1048576 < 2 * n0 + 4 * n1 + 4 * n2 + 2 * n3
    · have t0 : decide (1048576 < 2 * (n0 : Int) + 4 * (n1 : Int) + 4 * (n2 : Int) + 2 * (n3 : Int)) = true := decide_eq_true (by omega)
      go_wp2_with fail
      go_ret
      exact ⟨rfl, by go_grown⟩
    have t0 : decide (1048576 < 2 * (n0 : Int) + 4 * (n1 : Int) + 4 * (n2 : Int) + 2 * (n3 : Int)) = false := decide_eq_false (by omega)
    by_cases gg0 : 4096 < n0
    · have tt0 : decide (4096 < n0) = true := decide_eq_true gg0
      go_wp2_with fail
      go_ret
      exact ⟨rfl, by go_grown⟩
    have tt0 : decide (4096 < n0) = false := decide_eq_false gg0
    by_cases gg1 : 4096 < n1
    · have tt1 : decide (4096 < n1) = true := decide_eq_true gg1
      go_wp2_with fail
      go_ret
      exact ⟨rfl, by go_grown⟩
    have tt1 : decide (4096 < n1) = false := decide_eq_false gg1
    by_cases gg2 : 4096 < n2
    · have tt2 : decide (4096 < n2) = true := decide_eq_true gg2
      go_wp2_with fail
      go_ret
      exact ⟨rfl, by go_grown⟩
    have tt2 : decide (4096 < n2) = false := decide_eq_false gg2
    by_cases gg3 : 4096 < n3
    · have tt3 : decide (4096 < n3) = true := decide_eq_true gg3
      go_wp2_with fail
      go_ret
      exact ⟨rfl, by go_grown⟩
    have tt3 : decide (4096 < n3) = false := decide_eq_false gg3
    go_wp2_with fail
    refine (clone6 A0 n0 c0 Z0 _ HA0.out H00.out (by omega)).mono ?_
    rintro e w1 ⟨B0, d0, rfl, _, _, _, hR, hb⟩
    have HB := Lib.hid hb
    have R0 := Lib.hid hR
    clear hR hb
    go_wp2_with fail
    refine (clone7 A1 n1 c1 Z1 _ ((HA1.out.below HB.out).mono HB.out.size) H01.out (by omega)).mono ?_
    rintro e w2 ⟨B1, d1, rfl, _, _, _, hR, hb⟩
    have R0' := Lib.hid ((R0.out.below hb).mono hb.size)
    clear R0
    have R0 := R0'
    clear R0'
    have HB' := Lib.hid (HB.out.trans (hb.mono HB.out.size))
    clear HB
    have HB := HB'
    clear HB'
    have R1 := Lib.hid hR
    clear hR hb
    go_wp2_with fail
    refine (clone8 A2 n2 c2 Z2 _ ((HA2.out.below HB.out).mono HB.out.size) H02.out (by omega)).mono ?_
    rintro e w3 ⟨B2, d2, rfl, _, _, _, hR, hb⟩
    have R0' := Lib.hid ((R0.out.below hb).mono hb.size)
    clear R0
    have R0 := R0'
    clear R0'
    have R1' := Lib.hid ((R1.out.below hb).mono hb.size)
    clear R1
    have R1 := R1'
    clear R1'
    have HB' := Lib.hid (HB.out.trans (hb.mono HB.out.size))
    clear HB
    have HB := HB'
    clear HB'
    have R2 := Lib.hid hR
    clear hR hb
    go_wp2_with fail
    refine (clone6 A3 n3 c3 Z3 _ ((HA3.out.below HB.out).mono HB.out.size) H03.out (by omega)).mono ?_
    rintro e w4 ⟨B3, d3, rfl, _, _, _, hR, hb⟩
    have R0' := Lib.hid ((R0.out.below hb).mono hb.size)
    clear R0
    have R0 := R0'
    clear R0'
    have R1' := Lib.hid ((R1.out.below hb).mono hb.size)
    clear R1
    have R1 := R1'
    clear R1'
    have R2' := Lib.hid ((R2.out.below hb).mono hb.size)
    clear R2
    have R2 := R2'
    clear R2'
    have HB' := Lib.hid (HB.out.trans (hb.mono HB.out.size))
    clear HB
    have HB := HB'
    clear HB'
    have R3 := Lib.hid hR
    clear hR hb
    by_cases hz : n1 = 0
    · have t3 : ((n1 : Int) == 0) = true := by rw [beq_iff_eq]; omega
      clear hz
      go_wp2_with fail
      go_ret
      exact ⟨rfl, HB.out⟩
    have t3 : ((n1 : Int) == 0) = false := by rw [beq_eq_false_iff_ne]; omega
    have hpos : 0 < n1 := by omega
    clear hz
    have HZZ : Hid (∀ j, j < n1 → -2147483648 ≤ Z1 j ∧ Z1 j ≤ 2147483647) := Lib.hid fun j hj => by simpa [Lit.wf, IntKind.min, IntKind.max, IntKind.signed, IntKind.bits] using HZ1.out j hj
    have HF3 : Hid (∀ j, j < n3 → 0 ≤ Z3 j ∧ Z3 j ≤ 65535) := Lib.hid fun j hj => by simpa [Lit.wf, IntKind.min, IntKind.max, IntKind.signed, IntKind.bits] using HZ3.out j hj
    have HF0 : Hid (∀ j, j < n0 → 0 ≤ Z0 j ∧ Z0 j ≤ 65535) := Lib.hid fun j hj => by simpa [Lit.wf, IntKind.min, IntKind.max, IntKind.signed, IntKind.bits] using HZ0.out j hj
    have HF2 : Hid (∀ j, j < n2 → 0 ≤ Z2 j ∧ Z2 j ≤ 4294967295) := Lib.hid fun j hj => by simpa [Lit.wf, IntKind.min, IntKind.max, IntKind.signed, IntKind.bits] using HZ2.out j hj
    go_wp2_with fail
    refine (targets9 B1 n1 d1 Z1 _ R1.out HZZ.out (by omega)).mono ?_
    rintro e w5 ⟨Bt, dt, rfl, _, _, _, hR, hb⟩
    have HTG : Hid (∀ j, j < n1 → -1 ≤ tg n1 Z1 j ∧ tg n1 Z1 j < (n1 : Int)) := Lib.hid fun j hj => ⟨tg_lo n1 Z1 j hpos, tg_rng n1 Z1 j hj⟩
    generalize tg n1 Z1 = T at *
    have R0' := Lib.hid ((R0.out.below hb).mono hb.size)
    clear R0
    have R0 := R0'
    clear R0'
    have R2' := Lib.hid ((R2.out.below hb).mono hb.size)
    clear R2
    have R2 := R2'
    clear R2'
    have R3' := Lib.hid ((R3.out.below hb).mono hb.size)
    clear R3
    have R3 := R3'
    clear R3'
    have HB' := Lib.hid (HB.out.trans (hb.mono HB.out.size))
    clear HB
    have HB := HB'
    clear HB'
    have RT := Lib.hid hR
    clear hR hb R1 HZZ
    go_wp2_with fail
    refine (roots10 Bt n1 dt T _ RT.out HTG.out (by omega)).mono ?_
    rintro e w6 ⟨hb, hr4⟩
    have R0' := Lib.hid ((R0.out.below hb).mono hb.size)
    clear R0
    have R0 := R0'
    clear R0'
    have R2' := Lib.hid ((R2.out.below hb).mono hb.size)
    clear R2
    have R2 := R2'
    clear R2'
    have R3' := Lib.hid ((R3.out.below hb).mono hb.size)
    clear R3
    have R3 := R3'
    clear R3'
    have RT' := Lib.hid ((RT.out.below hb).mono hb.size)
    clear RT
    have RT := RT'
    clear RT'
    have HB' := Lib.hid (HB.out.trans (hb.mono HB.out.size))
    clear HB
    have HB := HB'
    clear HB'
    rcases hr4 with ⟨rfl, _⟩ | ⟨gr, R, rfl, hE, _, hgr, hcr⟩
    · clear hb
      go_wp2_with fail
      go_ret
      exact ⟨rfl, HB.out⟩
    have HE := Lib.hid hE
    have HCR := Lib.hid hcr
    clear hE hcr hb
    obtain ⟨oi, hoi⟩ : ∃ oi : Nat, a4 % (n1 : Int) = (oi : Int) := ⟨(a4 % (n1 : Int)).toNat, by have := Int.emod_nonneg a4 (b := (n1 : Int)) (by omega); omega⟩
    obtain ⟨ni, hni⟩ : ∃ ni : Nat, a5 % (n1 : Int) = (ni : Int) := ⟨(a5 % (n1 : Int)).toNat, by have := Int.emod_nonneg a5 (b := (n1 : Int)) (by omega); omega⟩
    have hoin : oi < n1 := by have := Int.emod_lt_of_pos a4 (b := (n1 : Int)) (by omega); omega
    have hnin : ni < n1 := by have := Int.emod_lt_of_pos a5 (b := (n1 : Int)) (by omega); omega
    have co := HCR.out oi hoin
    have cn := HCR.out ni hnin
    have hrn0 : (n1 : Int) ≠ 0 := by omega
    go_wp2_with fail
    clear co cn hoi hni
    refine (counts11 B0 n0 d0 n1 Z0 _ R0.out HF0.out (by omega) (by omega)).mono ?_
    rintro e w7 ⟨Bc, dc, m, C, rfl, hm, hP, hRc, hb⟩
    have HP := Lib.hid hP
    have RC := Lib.hid hRc
    have R2' := Lib.hid ((R2.out.below hb).mono hb.size)
    clear R2
    have R2 := R2'
    clear R2'
    have R3' := Lib.hid ((R3.out.below hb).mono hb.size)
    clear R3
    have R3 := R3'
    clear R3'
    have RT' := Lib.hid ((RT.out.below hb).mono hb.size)
    clear RT
    have RT := RT'
    clear RT'
    have HB' := Lib.hid (HB.out.trans (hb.mono HB.out.size))
    clear HB
    have HB := HB'
    clear HB'
    have HCR' : Hid (∀ j, j < n1 → w7.cell? ⟨gr, j, none⟩ = some (.int .i64 (R j : Int))) := Lib.hid fun j hj => (hb.cell (p := ⟨gr, j, none⟩) hgr).trans (HCR.out j hj)
    have hgr' : gr < w7.heap.size := Nat.lt_of_lt_of_le hgr hb.size
    clear HCR hgr
    have HCR := HCR'
    have hgr := hgr'
    clear HCR' hgr'
    obtain ⟨X, Y, hXY⟩ := locs C m n1 hP
    have HXY := Lib.hid hXY
    clear hP hRc hb hXY R0
    go_wp2_with fail
    refine (refs12 Bc m dc n1 C X Y _ RC.out HP.out HXY.out (by omega) (by omega)).mono ?_
    rintro e w8 ⟨ra, dr, rfl, hR, hb⟩
    have R2' := Lib.hid ((R2.out.below hb).mono hb.size)
    clear R2
    have R2 := R2'
    clear R2'
    have R3' := Lib.hid ((R3.out.below hb).mono hb.size)
    clear R3
    have R3 := R3'
    clear R3'
    have RT' := Lib.hid ((RT.out.below hb).mono hb.size)
    clear RT
    have RT := RT'
    clear RT'
    have RC' := Lib.hid ((RC.out.below hb).mono hb.size)
    clear RC
    have RC := RC'
    clear RC'
    have HB' := Lib.hid (HB.out.trans (hb.mono HB.out.size))
    clear HB
    have HB := HB'
    clear HB'
    have HCR' : Hid (∀ j, j < n1 → w8.cell? ⟨gr, j, none⟩ = some (.int .i64 (R j : Int))) := Lib.hid fun j hj => (hb.cell (p := ⟨gr, j, none⟩) hgr).trans (HCR.out j hj)
    have hgr' : gr < w8.heap.size := Nat.lt_of_lt_of_le hgr hb.size
    clear HCR hgr
    have HCR := HCR'
    have hgr := hgr'
    clear HCR' hgr'
    have RR := Lib.hid hR
    clear hR hb
    go_wp2_with fail
    refine (starts13 Bc m dc C _ RC.out (by rw [HP.out]; omega) (by omega)).mono ?_
    rintro e w9 ⟨Bs, ds, rfl, _, _, _, hR, hb⟩
    have R2' := Lib.hid ((R2.out.below hb).mono hb.size)
    clear R2
    have R2 := R2'
    clear R2'
    have R3' := Lib.hid ((R3.out.below hb).mono hb.size)
    clear R3
    have R3 := R3'
    clear R3'
    have RT' := Lib.hid ((RT.out.below hb).mono hb.size)
    clear RT
    have RT := RT'
    clear RT'
    have RC' := Lib.hid ((RC.out.below hb).mono hb.size)
    clear RC
    have RC := RC'
    clear RC'
    have RR' := Lib.hid ((RR.out.below hb).mono hb.size)
    clear RR
    have RR := RR'
    clear RR'
    have HB' := Lib.hid (HB.out.trans (hb.mono HB.out.size))
    clear HB
    have HB := HB'
    clear HB'
    have HCR' : Hid (∀ j, j < n1 → w9.cell? ⟨gr, j, none⟩ = some (.int .i64 (R j : Int))) := Lib.hid fun j hj => (hb.cell (p := ⟨gr, j, none⟩) hgr).trans (HCR.out j hj)
    have hgr' : gr < w9.heap.size := Nat.lt_of_lt_of_le hgr hb.size
    clear HCR hgr
    have HCR := HCR'
    have hgr := hgr'
    clear HCR' hgr'
    have RS := Lib.hid hR
    clear hR hb
    have HXB : Hid (∀ j, j < n1 → X j ≤ 5000 ∧ Y j ≤ 5000) := Lib.hid fun j hj => by
      have h1 := HXY.out j hj
      have h2 := P_at C h1.1
      have h3 := h1.1
      have h4 := h1.2.1
      have h5 := HP.out
      omega
    go_wp2_with fail
    refine (build14 Bc m dc C (some ra) n1 dr X Y Bt dt T B2 n2 d2 Z2 B3 n3 d3 Z3 true _ RC.out RR.out RT.out R2.out R3.out HP.out HTG.out HXB.out (by omega) (by omega) (by omega) (by omega)).mono ?_
    rintro e w10 ⟨G, g, rfl, hsy, hb⟩
    have HLK : Hid (Lk n1 X Y (bd T X Y n2 Z2 n3 Z3 true) T) := Lib.hid (built_lk HTG.out)
    have HDU : Hid (∀ i, (bd T X Y n2 Z2 n3 Z3 true).U i = atN n2 Z2 i) := Lib.hid fun i => rfl
    have HDK : Hid (∀ i, (bd T X Y n2 Z2 n3 Z3 true).K i = atN n3 Z3 i) := Lib.hid fun i => rfl
    have HDN : Hid (∀ i, (bd T X Y n2 Z2 n3 Z3 true).N i = nmS i) := Lib.hid fun i => rfl
    generalize bd T X Y n2 Z2 n3 Z3 true = D at *
    have HB10 := Lib.hid hb
    have HSY := Lib.hid hsy
    have hw9 : w9.heap.size ≤ w10.heap.size := hb.size
    have hw09 : w.heap.size ≤ w9.heap.size := HB.out.size
    clear hsy hb
    unfold smV
    have HBX := Lib.hid (Own.new w10 40 #[.slice (some ⟨G, 0, none⟩) m m])
    have HB11 : Hid (Below w9.heap.size w9 (w10.alloc (.cells #[.slice (some ⟨G, 0, none⟩) m m] 40))) := Lib.hid (HB10.out.alloc hw9 _)
    have HGS : Hid (∀ s, s < m → w10.heap.size ≠ g s ∧ w9.heap.size ≤ g s ∧ g s < w10.heap.size) := Lib.hid fun s hs => ⟨by have := (HSY.out.row s hs).lt; omega, (HSY.out.glo s hs).1, (HSY.out.row s hs).lt⟩
    have hGl := HSY.out.top.lt
    have HS11 := Lib.hid (HSY.out.alloc (.cells #[.slice (some ⟨G, 0, none⟩) m m] 40))
    go_upto_region 32 with fail
    clear HSY HB10
    generalize w10.alloc _ = W11 at *
    obtain ⟨br, or, rfl, hbr, hcr⟩ := Rd.two RR.out hpos
    have hw11 := HB11.out.size
    have hbxl := HBX.out.lt
    have hbx := cell1 HBX.out
    have o1 := (HB11.out.cell (p := ⟨br, or + oi * 2, none⟩) hbr).trans (hcr oi hoin).1
    have o2 := (HB11.out.cell (p := ⟨br, or + oi * 2 + 1, none⟩) hbr).trans (hcr oi hoin).2
    have p1 := (HB11.out.cell (p := ⟨br, or + ni * 2, none⟩) hbr).trans (hcr ni hnin).1
    have p2 := (HB11.out.cell (p := ⟨br, or + ni * 2 + 1, none⟩) hbr).trans (hcr ni hnin).2
    obtain ⟨bo, hco⟩ := HE.out oi hoin
    obtain ⟨bn, hcn⟩ := HE.out ni hnin
    have HRNG := Lib.hid (Lk.rng HLK.out)
    have hron : R oi < n1 := hco.lt HRNG.out hoin
    have hrnn : R ni < n1 := hcn.lt HRNG.out hnin
    have HRO := Lib.hid hco.last
    have HRN := Lib.hid hcn.last
    have hwle : w.heap.size ≤ W11.heap.size := by omega
    have HBW11 : Hid (Below w.heap.size w W11) := Lib.hid (HB.out.trans (HB11.out.mono hw09))
    have HMRG : Hid (∀ W, Below W11.heap.size W11 W → Calls Tryd.prog 15 #[.agg #[.slice (some ⟨G, 0, none⟩) m m], .agg #[.int .u32 (X oi : Int), .int .u32 (Y oi : Int)], .agg #[.int .u32 (X ni : Int), .int .u32 (Y ni : Int)]] W (Mrg w9.heap.size G m n1 C g X Y D T (R oi) (R ni) bo bn W)) := Lib.hid fun W hb => mrg15 HXY.out HP.out (by omega) (by omega) (bo + bn) bo bn oi ni (R oi) (R ni) T D W rfl hoin hnin (HS11.out.below hb (Nat.le_refl _)) HLK.out (HI.out.below (HBW11.out.trans (hb.mono hwle)) HI0.out) (by have := hb.size; have := HI0.out; omega) hco hcn
    have hrl : br < W11.heap.size := by omega
    have k0 : (0 : Int) ≤ (oi : Int) := by omega
    have k1 : (oi : Int) < (n1 : Int) := by omega
    have k2 : (0 : Int) ≤ (ni : Int) := by omega
    have k3 : (ni : Int) < (n1 : Int) := by omega
    have HGL : Hid (W11.heap.size ≠ G ∧ ∀ s, s < m → W11.heap.size ≠ g s) := Lib.hid ⟨by omega, fun s hs => by have := (HGS.out s hs).2.2; omega⟩
    have HQ : Hid (∀ w2, Sd m g (W11.alloc (.cells #[.int .u32 0, .int .u32 0] 43)).drew w2 → w2.cell? ⟨W11.heap.size, 0, none⟩ = some (.int .u32 0) ∧ w2.cell? ⟨W11.heap.size, 1, none⟩ = some (.int .u32 0) ∧ w2.frozen? ⟨W11.heap.size, 0, none⟩ = false ∧ w2.frozen? ⟨W11.heap.size, 1, none⟩ = false) := Lib.hid fun w2 hsd => by
      have hn := hsd.own ((Own.new W11 43 #[.int .u32 0, .int .u32 0]).drew) HGL.out.2
      exact ⟨(hn.cell 0).trans rfl, (hn.cell 1).trans rfl, hn.frozen 0, hn.frozen 1⟩
    clear hcr hco hcn
    go_cut [25] from 128 (fun v wx => Hid (Md w9 W11 G m n1 C g X Y D T (R oi) (R ni) bo bn v wx))
    case first =>
      have HR0 : Hid (∀ s, s < m → br ≠ g s) := Lib.hid fun s hs => by have := (HGS.out s hs).2.1; omega
      have HX0 : Hid (∀ s, s < m → w10.heap.size ≠ g s) := Lib.hid fun s hs => (HGS.out s hs).1
      go_region_held3 (fun W => W.cell? ⟨w10.heap.size, 0, none⟩ = some (.slice (some ⟨G, 0, none⟩) m m) ∧ W.cell? ⟨br, or + oi * 2, none⟩ = some (.int .u32 (X oi : Int)) ∧ W.cell? ⟨br, or + oi * 2 + 1, none⟩ = some (.int .u32 (Y oi : Int)) ∧ W.cell? ⟨br, or + ni * 2, none⟩ = some (.int .u32 (X ni : Int)) ∧ W.cell? ⟨br, or + ni * 2 + 1, none⟩ = some (.int .u32 (Y ni : Int)) ∧ W11.heap.size ≤ W.heap.size)
        (first | exact ⟨hbx, o1, o2, p1, p2, Nat.le_refl _⟩ | exact keepAl hbxl hrl hrl hrl hrl ⟨hbx, o1, o2, p1, p2, Nat.le_refl _⟩ | exact keepSd hsd hbxl hrl hrl hrl hrl HX0.out HR0.out HR0.out HR0.out HR0.out ⟨hbx, o1, o2, p1, p2, Nat.le_refl _⟩ | exact keepSd hsd hbxl hrl hrl hrl hrl HX0.out HR0.out HR0.out HR0.out HR0.out (keepAl hbxl hrl hrl hrl hrl ⟨hbx, o1, o2, p1, p2, Nat.le_refl _⟩) | exact keepAl hbxl hrl hrl hrl hrl (keepSd hsd hbxl hrl hrl hrl hrl HX0.out HR0.out HR0.out HR0.out HR0.out ⟨hbx, o1, o2, p1, p2, Nat.le_refl _⟩) | exact keepSt (Nat.le_refl _) hbxl hrl hrl hrl hrl (keepSd hsd hbxl hrl hrl hrl hrl HX0.out HR0.out HR0.out HR0.out HR0.out (keepAl hbxl hrl hrl hrl hrl ⟨hbx, o1, o2, p1, p2, Nat.le_refl _⟩)) | exact keepAl hbxl hrl hrl hrl hrl (keepSd hsd hbxl hrl hrl hrl hrl HX0.out HR0.out HR0.out HR0.out HR0.out (keepAl hbxl hrl hrl hrl hrl ⟨hbx, o1, o2, p1, p2, Nat.le_refl _⟩)))
        ((go_at_call 15; refine (HMRG.out _ (by first | exact Below.refl _ _ | exact below_drew (Below.refl _ _) | exact below_drew (Below.alloc (Below.refl _ _) (Nat.le_refl _) _) | exact Below.alloc (below_drew (Below.refl _ _)) (Nat.le_refl _) _)).mono ?_; rintro e w12 ⟨q, D1, T', hq, rfl, hsy, hlk, hsd, hpost⟩; first | (refine use4 (HQ.out _ hsd) ?_; intro q0 q1 g0 g1) | skip))
      all_goals
        go_wp2_with fail
        go_meet
        case rel => first | exact Lib.hid (Md.mk1 hq hsy hlk hsd hpost) | exact Lib.hid (Md.mk2 HGL.out hq hsy hlk hsd hpost)
    case rest =>
      have HMD := hcut
      clear hcut HQ HMRG
      obtain ⟨wz, rfl⟩ : ∃ wz : World, wz = wc := ⟨_, rfl⟩
      obtain ⟨L, q, D1, T', rfl, hq, hL, hLs, hsy, hlk, hsd, hpost⟩ := HMD.out
      have HC9 : Hid (Below w9.heap.size w9 wz) := Lib.hid (HB11.out.trans (hsd.below (fun s hs => (HGS.out s hs).2.1) HB11.out.size))
      have hcz := HC9.out.size
      have hBX := Lib.hid (hsd.own HBX.out (fun s hs => (HGS.out s hs).1))
      have hb2 := cell1 hBX.out
      have HPO := Lib.hid hpost
      have HSY := Lib.hid hsy
      have HLK1 := Lib.hid hlk
      have HL := Lib.hid hL
      have hLl := hL.lt
      have hbl := hBX.out.lt
      have hends := hpost.ends HRNG.out HE.out HRO.out HRN.out hron hrnn hq
      have HEN := Lib.hid hends
      have hT' : ∀ j, j < n1 → -1 ≤ T' j ∧ T' j < (n1 : Int) := fun j hj => by
        rcases hlk j hj with ⟨h1, _⟩ | ⟨t, ht, h1, _⟩ <;> omega
      have HT' := Lib.hid hT'
      clear hT' hL hsy hlk hsd hpost hends HMD hbx o1 o2 p1 p2 HS11 HBX
      go_wp2_with fail
      refine (red16 HSY.out (some ⟨br, or, none⟩) n1 dr X Y Bc dc Bs ds T' ((RR.out.below HC9.out).mono hcz) ((RC.out.below HC9.out).mono hcz) ((RS.out.below HC9.out).mono hcz) HXY.out HLK1.out HP.out (by omega) (by omega)).mono ?_
      rintro e w13 ⟨h2, rfl, hR2, hb13⟩
      have HR2 := Lib.hid hR2
      have HB13 := Lib.hid hb13
      clear hR2 hb13 hb2
      go_wp2_with fail
      refine (roots10 (some ⟨h2, 0, none⟩) n1 n1 T' _ HR2.out HT'.out (by omega)).mono ?_
      rintro e w14 ⟨hb14, hr14⟩
      have HZ : Hid (Below wz.heap.size wz w14) := Lib.hid (HB13.out.trans (hb14.mono HB13.out.size))
      rcases hr14 with ⟨_, i, hi, hno⟩ | ⟨g2, Rq, rfl, hE2, _, hg2, hc2⟩
      · exfalso
        obtain ⟨d, hc⟩ := HEN.out i hi
        exact hno ⟨d, _, hc⟩
      have HC2 : Hid (∀ j, j < n1 → w14.cell? ⟨g2, j, none⟩ = some (.int .i64 ((if R j = R oi then R ni else R j : Nat) : Int))) := Lib.hid fun j hj => by rw [hc2 j hj, ChE.uniq hE2 HEN.out hj]
      have HCR14 : Hid (∀ j, j < n1 → w14.cell? ⟨gr, j, none⟩ = some (.int .i64 (R j : Int))) := Lib.hid fun j hj => (HZ.out.cell (p := ⟨gr, j, none⟩) (by show gr < _; omega)).trans ((HC9.out.cell (p := ⟨gr, j, none⟩) hgr).trans (HCR.out j hj))
      clear hb14 hE2 hc2 HR2 HB13 HEN
      go_wp2_with fail
      go_loop [30] (fun i => ∃ k : Nat, k ≤ n1 ∧ i = .int .i64 k) (fun i => n1 - (intOf i).toNat)
      case atStart => exact ⟨0, by omega, rfl⟩
      case round =>
        obtain ⟨k, hk, rfl⟩ := hrel
        by_cases hlt : k < n1
        · have a1 := HCR14.out k hlt
          have a2 := HC2.out k hlt
          have z0 : decide (k < n1) = true := decide_eq_true hlt
          by_cases h1 : R k = R oi
          · rw [if_pos h1] at a2
            have s1 : ((R k : Int) == (R oi : Int)) = true := by rw [beq_iff_eq]; omega
            clear h1
            go_wp2_with fail
            go_round
            case rel => exact ⟨k + 1, by omega, by go_num⟩
            case measure => simp [intOf]; omega
          · rw [if_neg h1] at a2
            have s1 : ((R k : Int) == (R oi : Int)) = false := by rw [beq_eq_false_iff_ne]; omega
            by_cases h2 : R k = R ni
            · have s2 : ((R k : Int) == (R ni : Int)) = true := by rw [beq_iff_eq]; omega
              rw [h2] at a2
              clear h1 h2
              go_wp2_with fail
              go_round
              case rel => exact ⟨k + 1, by omega, by go_num⟩
              case measure => simp [intOf]; omega
            · have s2 : ((R k : Int) == (R ni : Int)) = false := by rw [beq_eq_false_iff_ne]; omega
              clear h1 h2
              go_wp2_with fail
              go_round
              case rel => exact ⟨k + 1, by omega, by go_num⟩
              case measure => simp [intOf]; omega
        · have z0 : decide (k < n1) = false := decide_eq_false hlt
          obtain ⟨l0, l1⟩ := cell2 HL.out
          have m0 := (HZ.out.cell (p := ⟨L, 0, none⟩) hLl).trans l0
          have m1 := (HZ.out.cell (p := ⟨L, 1, none⟩) hLl).trans l1
          obtain ⟨_, _, e9, _, hcr⟩ := Rd.two RR.out hpos
          obtain ⟨rfl, rfl⟩ : br = _ ∧ or = _ := by simpa using e9
          have x1 := (HZ.out.cell (p := ⟨br, or + R ni * 2, none⟩) (by show br < _; omega)).trans ((HC9.out.cell (p := ⟨br, or + R ni * 2, none⟩) hbr).trans (hcr (R ni) hrnn).1)
          have x2 := (HZ.out.cell (p := ⟨br, or + R ni * 2 + 1, none⟩) (by show br < _; omega)).trans ((HC9.out.cell (p := ⟨br, or + R ni * 2 + 1, none⟩) hbr).trans (hcr (R ni) hrnn).2)
          have rn0 : (0 : Int) ≤ (R ni : Int) := by omega
          have rn1 : (R ni : Int) < (n1 : Int) := by omega
          clear l0 l1 hcr
          by_cases hrr : R oi = R ni
          · have s3 : ((R oi : Int) != (R ni : Int)) = false := by rw [bne_eq_false_iff_eq]; omega
            obtain ⟨⟨dq, hcq, _, _, _⟩, hln⟩ := HPO.out.2 hrr
            have hRq : R q = R oi := by
              obtain ⟨d, hc⟩ := HE.out q hq
              exact (hc.uniq hcq).2
            have aq := HC2.out q hq
            rw [if_pos hRq] at aq
            have HFL : Hid (∀ W, Below w9.heap.size w9 W → Calls Tryd.prog 17 #[.agg #[.int .u32 (X q : Int), .int .u32 (Y q : Int)], .slice Bc m dc, .slice Bs m ds] W fun e w' => e = .returned (.int .i64 (q : Int)) ∧ Below W.heap.size W w') := Lib.hid fun W hb => flat17 Bc m dc C Bs ds q (X q) (Y q) (HXY.out q hq) W ((RC.out.below hb).mono hb.size) ((RS.out.below hb).mono hb.size) (by omega) (by rw [HP.out]; omega)
            have HAQ := Lib.hid aq
            have HLN := Lib.hid hln
            have HRR := Lib.hid hrr
            clear aq hcq hln hRq hrr
            go_wp2_with fail
            refine (HFL.out _ (HC9.out.trans (HZ.out.mono hcz))).mono ?_
            rintro e w15 ⟨rfl, hb15⟩
            have aq := (hb15.cell (p := ⟨g2, q, none⟩) hg2).trans HAQ.out
            have HST : Hid (Below wz.heap.size wz w15) := Lib.hid (HZ.out.trans (hb15.mono HZ.out.size))
            have hqn : (q : Int) < (n1 : Int) := by omega
            have s4 : decide ((q : Int) < 0) = false := decide_eq_false (by omega)
            clear hb15 m0 m1 x1 x2
            go_wp2_with fail
            have HU18 : Hid (∀ (i : Nat) (W : World), i ≤ 4096 → Below wz.heap.size wz W → Calls Tryd.prog 18 #[.slice B2 n2 d2, .int .i64 (i : Int)] W fun e w' => e = .returned (.int .u32 (atN n2 Z2 i)) ∧ W = w') := Lib.hid fun i W hi hb => at18 B2 n2 d2 i Z2 W (((R2.out.below (HC9.out.trans (hb.mono hcz))).mono (Nat.le_trans hcz hb.size))) (by omega) hi
            have HU19 : Hid (∀ (i : Nat) (W : World), i ≤ 4096 → Below wz.heap.size wz W → Calls Tryd.prog 19 #[.slice B3 n3 d3, .int .i64 (i : Int)] W fun e w' => e = .returned (.int .u16 (atN n3 Z3 i)) ∧ W = w') := Lib.hid fun i W hi hb => at19 B3 n3 d3 i Z3 W (((R3.out.below (HC9.out.trans (hb.mono hcz))).mono (Nat.le_trans hcz hb.size))) (by omega) hi
            go_loopw [33] (fun i wr => ∃ k : Nat, k ≤ n1 ∧ i = .int .i64 k ∧ Hid (Below wz.heap.size wz wr)) (fun i _ => n1 - (intOf i).toNat)
            case atStart => exact ⟨0, by omega, rfl, HST⟩
            case round =>
              clear HST
              obtain ⟨k, hk, rfl, HW⟩ := hrel
              obtain ⟨wk, rfl⟩ : ∃ wk : World, wk = wr := ⟨_, rfl⟩
              by_cases hlt : k < n1
              · have z1 : decide (k < n1) = true := decide_eq_true hlt
                go_wp2_with fail
                refine (HU18.out k _ (by omega) HW.out).mono ?_
                rintro e w16 ⟨rfl, rfl⟩
                go_wp2_with fail
                refine (HU19.out k _ (by omega) HW.out).mono ?_
                rintro e w16 ⟨rfl, rfl⟩
                go_wp2_with fail
                refine (name20 k (by omega) _).mono ?_
                rintro e w17 ⟨rfl, hb17⟩
                have HK17 : Hid (Below wz.heap.size wz w17) := Lib.hid (HW.out.trans (hb17.mono HW.out.size))
                clear hb17 HW
                go_upto_if 222 with fail
                go_cut [34, 35, 36, 37] from 202 to 264 (fun a b c d wx => a = .int .u32 (D1.U k) ∧ b = .int .u16 (D1.K k) ∧ c = .string (D1.N k) ∧ Hid (Below wz.heap.size wz wx))
                case first =>
                  have hvU : D1.U k = atN n2 Z2 k := by rw [HLN.out.u]; exact HDU.out k
                  have hvK : D1.K k = atN n3 Z3 k := by rw [HLN.out.k]; exact HDK.out k
                  have hvN : D1.N k = nmS k := by rw [HLN.out.n]; exact HDN.out k
                  have HVU := Lib.hid hvU
                  have HVK := Lib.hid hvK
                  have HVN := Lib.hid hvN
                  clear hvU hvK hvN
                  go_wp2_with fail
                  go_meet
                  case rel => exact ⟨congrArg (Value.int .u32) HVU.out.symm, congrArg (Value.int .u16) HVK.out.symm, congrArg Value.string HVN.out.symm, HK17⟩
                case rest =>
                  obtain ⟨rfl, rfl, rfl, HN⟩ := hcut
                  obtain ⟨nx, rfl⟩ : ∃ nx : World, nx = wc := ⟨_, rfl⟩
                  have HCELL : Hid (∀ W, Below wz.heap.size wz W → Calls Tryd.prog 21 #[.agg #[.slice (some ⟨G, 0, none⟩) m m], .agg #[.int .u32 (X k : Int), .int .u32 (Y k : Int)]] W fun e w' => e = .returned (.agg #[.pointer none, .string (D1.N k), .int .u32 (D1.X k), .int .u32 (D1.Y k), .int .u32 (D1.U k), .int .u32 0, .int .u32 0, .int .u16 (D1.K k), .int .u8 0, .int .u8 0]) ∧ Below W.heap.size W w') := Lib.hid fun W hb => cell21 (HSY.out.below hb (Nat.le_refl _)) (HXY.out k hlt) (by omega) (by have h1 := HXY.out k hlt; have h2 := P_at C h1.1; have h3 := HP.out; omega)
                  have hk17 : wz.heap.size ≤ nx.heap.size := HN.out.size
                  have hb2 := (HN.out.cell (p := ⟨w10.heap.size, 0, none⟩) hbl).trans (cell1 hBX.out)
                  obtain ⟨_, _, e9, _, hcr⟩ := Rd.two RR.out hpos
                  obtain ⟨rfl, rfl⟩ : br = _ ∧ or = _ := by simpa using e9
                  have r1 := (HN.out.cell (p := ⟨br, or + k * 2, none⟩) (by show br < _; omega)).trans ((HC9.out.cell (p := ⟨br, or + k * 2, none⟩) hbr).trans (hcr k hlt).1)
                  have r2 := (HN.out.cell (p := ⟨br, or + k * 2 + 1, none⟩) (by show br < _; omega)).trans ((HC9.out.cell (p := ⟨br, or + k * 2 + 1, none⟩) hbr).trans (hcr k hlt).2)
                  have k0 : (0 : Int) ≤ (k : Int) := by omega
                  have k1 : (k : Int) < (n1 : Int) := by omega
                  have brl : br < nx.heap.size := by omega
                  have bxl : w10.heap.size < nx.heap.size := by omega
                  clear hcr
                  go_upto_region 65 with fail
                  go_cut [38] from 202 to 264 (fun v wx => Hid (Cq wz D1 k v wx))
                  case first =>
                    have HKP : Hid (∀ W, Below nx.heap.size nx W → W.cell? ⟨w10.heap.size, 0, none⟩ = some (.slice (some ⟨G, 0, none⟩) m m) ∧ W.cell? ⟨br, or + k * 2, none⟩ = some (.int .u32 (X k : Int)) ∧ W.cell? ⟨br, or + k * 2 + 1, none⟩ = some (.int .u32 (Y k : Int))) := Lib.hid fun W hb => ⟨(hb.cell (p := ⟨w10.heap.size, 0, none⟩) bxl).trans hb2, (hb.cell (p := ⟨br, or + k * 2, none⟩) brl).trans r1, (hb.cell (p := ⟨br, or + k * 2 + 1, none⟩) brl).trans r2⟩
                    go_region_held3 (fun W => W.cell? ⟨w10.heap.size, 0, none⟩ = some (.slice (some ⟨G, 0, none⟩) m m) ∧ W.cell? ⟨br, or + k * 2, none⟩ = some (.int .u32 (X k : Int)) ∧ W.cell? ⟨br, or + k * 2 + 1, none⟩ = some (.int .u32 (Y k : Int)))
                      (first | with_reducible exact HKP.out _ (Below.set10 (kTr (below_drew (kAl (Below.refl _ _))) hb18) (Nat.le_refl _) _ _ _ _ _ _ _ _ _ _) | with_reducible exact HKP.out _ (kTr (below_drew (Below.refl _ _)) hb18) | with_reducible exact HKP.out _ (kTr (below_drew (kAl (Below.refl _ _))) hb18) | with_reducible exact HKP.out _ (kAl (kTr (below_drew (Below.refl _ _)) hb18)) | with_reducible exact HKP.out _ (below_drew (Below.refl _ _)) | with_reducible exact HKP.out _ (below_drew (kAl (Below.refl _ _))))
                      ((go_at_call 21; refine (HCELL.out _ (by first | exact HN.out | exact below_drew HN.out | exact below_drew (HN.out.alloc hk17 _) | exact (below_drew HN.out).alloc hk17 _)).mono ?_; rintro e w18 ⟨rfl, hb18⟩; first | (refine use20 (fresh10 hb18) ?_; intro q0 q1 q2 q3 q4 q5 q6 q7 q8 q9 y0 y1 y2 y3 y4 y5 y6 y7 y8 y9) | skip))
                    all_goals
                      go_wp2_with fail
                      go_meet
                      case rel => first | with_reducible exact Lib.hid (Cq.mk1 HN.out hb18) | with_reducible exact Lib.hid (Cq.mk2 HN.out hb18) | exact Lib.hid (Cq.mk1 HN.out hb18) | exact Lib.hid (Cq.mk2 HN.out hb18)
                  case rest =>
                    obtain ⟨L3, rfl, hn, hbz⟩ := hcut.out
                    have v1 := (hn.cell 1).trans (show _ = some (Value.string (D1.N k)) from rfl)
                    have v4 := (hn.cell 4).trans (show _ = some (Value.int .u32 (D1.U k)) from rfl)
                    have v7 := (hn.cell 7).trans (show _ = some (Value.int .u16 (D1.K k)) from rfl)
                    have HBZ := Lib.hid hbz
                    clear hn hbz hcut HCELL hb2 r1 r2 HN
                    go_wp2_with fail
                    go_roundw
                    case rel => exact ⟨k + 1, by omega, by go_num, HBZ⟩
                    case measure => simp [intOf]; omega
              · have z1 : decide (k < n1) = false := decide_eq_false hlt
                go_wp2_with fail
                go_ret
                exact ⟨rfl, (HB.out.trans (HC9.out.mono hw09)).trans (HW.out.mono (by omega))⟩
          · have s3 : ((R oi : Int) != (R ni : Int)) = true := by rw [bne_iff_ne]; omega
            obtain ⟨hqr, _, _, hN, hU, hK⟩ := HPO.out.1 hrr
            have HNN := Lib.hid hN
            have HUU := Lib.hid hU
            have HKK := Lib.hid hK
            have HRR := Lib.hid hrr
            rw [hqr] at m0 m1
            clear hN hU hK hrr hqr
            go_wp2_with fail
            go_quiet (fail)
            go_wp2_with fail
            have HST : Hid (Below wz.heap.size wz (w14.drewN nq)) := Lib.hid (Mem.below_drewN HZ.out nq)
            have HU18 : Hid (∀ (i : Nat) (W : World), i ≤ 4096 → Below wz.heap.size wz W → Calls Tryd.prog 18 #[.slice B2 n2 d2, .int .i64 (i : Int)] W fun e w' => e = .returned (.int .u32 (atN n2 Z2 i)) ∧ W = w') := Lib.hid fun i W hi hb => at18 B2 n2 d2 i Z2 W (((R2.out.below (HC9.out.trans (hb.mono hcz))).mono (Nat.le_trans hcz hb.size))) (by omega) hi
            have HU19 : Hid (∀ (i : Nat) (W : World), i ≤ 4096 → Below wz.heap.size wz W → Calls Tryd.prog 19 #[.slice B3 n3 d3, .int .i64 (i : Int)] W fun e w' => e = .returned (.int .u16 (atN n3 Z3 i)) ∧ W = w') := Lib.hid fun i W hi hb => at19 B3 n3 d3 i Z3 W (((R3.out.below (HC9.out.trans (hb.mono hcz))).mono (Nat.le_trans hcz hb.size))) (by omega) hi
            go_loopw [33] (fun i wr => ∃ k : Nat, k ≤ n1 ∧ i = .int .i64 k ∧ Hid (Below wz.heap.size wz wr)) (fun i _ => n1 - (intOf i).toNat)
            case atStart => exact ⟨0, by omega, rfl, HST⟩
            case round =>
              clear HST
              obtain ⟨k, hk, rfl, HW⟩ := hrel
              obtain ⟨wk, rfl⟩ : ∃ wk : World, wk = wr := ⟨_, rfl⟩
              by_cases hlt : k < n1
              · have z1 : decide (k < n1) = true := decide_eq_true hlt
                go_wp2_with fail
                refine (HU18.out k _ (by omega) HW.out).mono ?_
                rintro e w16 ⟨rfl, rfl⟩
                go_wp2_with fail
                refine (HU19.out k _ (by omega) HW.out).mono ?_
                rintro e w16 ⟨rfl, rfl⟩
                go_wp2_with fail
                refine (name20 k (by omega) _).mono ?_
                rintro e w17 ⟨rfl, hb17⟩
                have HK17 : Hid (Below wz.heap.size wz w17) := Lib.hid (HW.out.trans (hb17.mono HW.out.size))
                clear hb17 HW
                go_upto_if 222 with fail
                go_cut [34, 35, 36, 37] from 202 to 264 (fun a b c d wx => a = .int .u32 (D1.U k) ∧ b = .int .u16 (D1.K k) ∧ c = .string (D1.N k) ∧ Hid (Below wz.heap.size wz wx))
                case first =>
                  by_cases hkn : k = R ni
                  · have s5 : ((k : Int) == (R ni : Int)) = true := by rw [beq_iff_eq]; omega
                    have hvU : D1.U k = (atN n2 Z2 (R ni) + atN n2 Z2 (R oi)) % 4294967296 := by
                      rw [HUU.out, hkn]
                      show up D.U (R ni) ((D.U (R ni) + D.U (R oi)) % 4294967296) (R ni) = _
                      rw [up_at, HDU.out, HDU.out]
                    have hvK : D1.K k = bits .or .u16 (atN n3 Z3 k) (bits .and .u16 (atN n3 Z3 (R oi)) 3) := by
                      rw [HKK.out, hkn]
                      show up D.K (R ni) (mgK (D.K (R ni)) (D.K (R oi))) (R ni) = _
                      rw [up_at, HDK.out, HDK.out]
                      exact mgK_eq _ _ (atN_u16 HF3.out _) (atN_u16 HF3.out _)
                    have hvN0 : D1.N k = if hasB (atN n3 Z3 (R oi)) 1 && !hasB (atN n3 Z3 k) 1 then nmS (R oi) else nmS k := by
                      rw [HNN.out, hkn]
                      show upN D.N (R ni) (if hasB (D.K (R oi)) 1 && !hasB (D.K (R ni)) 1 then D.N (R oi) else D.N (R ni)) (R ni) = _
                      unfold upN
                      rw [if_pos rfl, HDK.out, HDK.out, HDN.out, HDN.out]
                    have HVU := Lib.hid hvU
                    have HVK := Lib.hid hvK
                    have HVN0 := Lib.hid hvN0
                    clear hvU hvK hvN0 hkn
                    go_wp2_with fail
                    refine (HU19.out (R oi) _ (by omega) HK17.out).mono ?_
                    rintro e w16 ⟨rfl, rfl⟩
                    go_wp2_with fail
                    refine (HU18.out (R ni) _ (by omega) HK17.out).mono ?_
                    rintro e w16 ⟨rfl, rfl⟩
                    go_wp2_with fail
                    refine (HU18.out (R oi) _ (by omega) HK17.out).mono ?_
                    rintro e w16 ⟨rfl, rfl⟩
                    cases c1 : hasB (atN n3 Z3 (R oi)) 1
                    · have HVN : Hid (D1.N k = nmS k) := Lib.hid (by rw [HVN0.out, c1]; rfl)
                      have u1 : (bits .and .u16 (atN n3 Z3 (R oi)) 1 != 0) = false := c1
                      clear c1
                      go_wp2_with fail
                      go_meet
                      case rel => exact ⟨congrArg (Value.int .u32) HVU.out.symm, congrArg (Value.int .u16) HVK.out.symm, congrArg Value.string HVN.out.symm, HK17⟩
                    · cases c2 : hasB (atN n3 Z3 k) 1
                      · have HVN : Hid (D1.N k = nmS (R oi)) := Lib.hid (by rw [HVN0.out, c1, c2]; rfl)
                        have u1 : (bits .and .u16 (atN n3 Z3 (R oi)) 1 != 0) = true := c1
                        have u2 : (bits .and .u16 (atN n3 Z3 k) 1 == 0) = true := by
                          unfold hasB at c2
                          simpa using c2
                        clear c1 c2
                        go_wp2_with fail
                        refine (name20 (R oi) (by omega) _).mono ?_
                        rintro e w19 ⟨rfl, hb19⟩
                        have HK19 : Hid (Below wz.heap.size wz w19) := Lib.hid (HK17.out.trans (hb19.mono HK17.out.size))
                        clear hb19
                        go_wp2_with fail
                        go_meet
                        case rel => exact ⟨congrArg (Value.int .u32) HVU.out.symm, congrArg (Value.int .u16) HVK.out.symm, congrArg Value.string HVN.out.symm, HK19⟩
                      · have HVN : Hid (D1.N k = nmS k) := Lib.hid (by rw [HVN0.out, c1, c2]; rfl)
                        have u1 : (bits .and .u16 (atN n3 Z3 (R oi)) 1 != 0) = true := c1
                        have u2 : (bits .and .u16 (atN n3 Z3 k) 1 == 0) = false := by
                          unfold hasB at c2
                          simpa using c2
                        clear c1 c2
                        go_wp2_with fail
                        go_meet
                        case rel => exact ⟨congrArg (Value.int .u32) HVU.out.symm, congrArg (Value.int .u16) HVK.out.symm, congrArg Value.string HVN.out.symm, HK17⟩
                  · have s5 : ((k : Int) == (R ni : Int)) = false := by rw [beq_eq_false_iff_ne]; omega
                    have HVU : Hid (D1.U k = atN n2 Z2 k) := Lib.hid (by
                      rw [HUU.out]
                      show up D.U (R ni) _ k = _
                      rw [up_ne _ _ hkn]; exact HDU.out k)
                    have HVK : Hid (D1.K k = atN n3 Z3 k) := Lib.hid (by
                      rw [HKK.out]
                      show up D.K (R ni) _ k = _
                      rw [up_ne _ _ hkn]; exact HDK.out k)
                    have HVN : Hid (D1.N k = nmS k) := Lib.hid (by
                      rw [HNN.out]
                      show upN D.N (R ni) _ k = _
                      unfold upN
                      rw [if_neg hkn]; exact HDN.out k)
                    clear hkn
                    go_wp2_with fail
                    go_meet
                    case rel => exact ⟨congrArg (Value.int .u32) HVU.out.symm, congrArg (Value.int .u16) HVK.out.symm, congrArg Value.string HVN.out.symm, HK17⟩
                case rest =>
                  obtain ⟨rfl, rfl, rfl, HN⟩ := hcut
                  obtain ⟨nx, rfl⟩ : ∃ nx : World, nx = wc := ⟨_, rfl⟩
                  have HCELL : Hid (∀ W, Below wz.heap.size wz W → Calls Tryd.prog 21 #[.agg #[.slice (some ⟨G, 0, none⟩) m m], .agg #[.int .u32 (X k : Int), .int .u32 (Y k : Int)]] W fun e w' => e = .returned (.agg #[.pointer none, .string (D1.N k), .int .u32 (D1.X k), .int .u32 (D1.Y k), .int .u32 (D1.U k), .int .u32 0, .int .u32 0, .int .u16 (D1.K k), .int .u8 0, .int .u8 0]) ∧ Below W.heap.size W w') := Lib.hid fun W hb => cell21 (HSY.out.below hb (Nat.le_refl _)) (HXY.out k hlt) (by omega) (by have h1 := HXY.out k hlt; have h2 := P_at C h1.1; have h3 := HP.out; omega)
                  have hk17 : wz.heap.size ≤ nx.heap.size := HN.out.size
                  have hb2 := (HN.out.cell (p := ⟨w10.heap.size, 0, none⟩) hbl).trans (cell1 hBX.out)
                  obtain ⟨_, _, e9, _, hcr⟩ := Rd.two RR.out hpos
                  obtain ⟨rfl, rfl⟩ : br = _ ∧ or = _ := by simpa using e9
                  have r1 := (HN.out.cell (p := ⟨br, or + k * 2, none⟩) (by show br < _; omega)).trans ((HC9.out.cell (p := ⟨br, or + k * 2, none⟩) hbr).trans (hcr k hlt).1)
                  have r2 := (HN.out.cell (p := ⟨br, or + k * 2 + 1, none⟩) (by show br < _; omega)).trans ((HC9.out.cell (p := ⟨br, or + k * 2 + 1, none⟩) hbr).trans (hcr k hlt).2)
                  have k0 : (0 : Int) ≤ (k : Int) := by omega
                  have k1 : (k : Int) < (n1 : Int) := by omega
                  have brl : br < nx.heap.size := by omega
                  have bxl : w10.heap.size < nx.heap.size := by omega
                  clear hcr
                  go_upto_region 65 with fail
                  go_cut [38] from 202 to 264 (fun v wx => Hid (Cq wz D1 k v wx))
                  case first =>
                    have HKP : Hid (∀ W, Below nx.heap.size nx W → W.cell? ⟨w10.heap.size, 0, none⟩ = some (.slice (some ⟨G, 0, none⟩) m m) ∧ W.cell? ⟨br, or + k * 2, none⟩ = some (.int .u32 (X k : Int)) ∧ W.cell? ⟨br, or + k * 2 + 1, none⟩ = some (.int .u32 (Y k : Int))) := Lib.hid fun W hb => ⟨(hb.cell (p := ⟨w10.heap.size, 0, none⟩) bxl).trans hb2, (hb.cell (p := ⟨br, or + k * 2, none⟩) brl).trans r1, (hb.cell (p := ⟨br, or + k * 2 + 1, none⟩) brl).trans r2⟩
                    go_region_held3 (fun W => W.cell? ⟨w10.heap.size, 0, none⟩ = some (.slice (some ⟨G, 0, none⟩) m m) ∧ W.cell? ⟨br, or + k * 2, none⟩ = some (.int .u32 (X k : Int)) ∧ W.cell? ⟨br, or + k * 2 + 1, none⟩ = some (.int .u32 (Y k : Int)))
                      (first | with_reducible exact HKP.out _ (Below.set10 (kTr (below_drew (kAl (Below.refl _ _))) hb18) (Nat.le_refl _) _ _ _ _ _ _ _ _ _ _) | with_reducible exact HKP.out _ (kTr (below_drew (Below.refl _ _)) hb18) | with_reducible exact HKP.out _ (kTr (below_drew (kAl (Below.refl _ _))) hb18) | with_reducible exact HKP.out _ (kAl (kTr (below_drew (Below.refl _ _)) hb18)) | with_reducible exact HKP.out _ (below_drew (Below.refl _ _)) | with_reducible exact HKP.out _ (below_drew (kAl (Below.refl _ _))))
                      ((go_at_call 21; refine (HCELL.out _ (by first | exact HN.out | exact below_drew HN.out | exact below_drew (HN.out.alloc hk17 _) | exact (below_drew HN.out).alloc hk17 _)).mono ?_; rintro e w18 ⟨rfl, hb18⟩; first | (refine use20 (fresh10 hb18) ?_; intro q0 q1 q2 q3 q4 q5 q6 q7 q8 q9 y0 y1 y2 y3 y4 y5 y6 y7 y8 y9) | skip))
                    all_goals
                      go_wp2_with fail
                      go_meet
                      case rel => first | with_reducible exact Lib.hid (Cq.mk1 HN.out hb18) | with_reducible exact Lib.hid (Cq.mk2 HN.out hb18) | exact Lib.hid (Cq.mk1 HN.out hb18) | exact Lib.hid (Cq.mk2 HN.out hb18)
                  case rest =>
                    obtain ⟨L3, rfl, hn, hbz⟩ := hcut.out
                    have v1 := (hn.cell 1).trans (show _ = some (Value.string (D1.N k)) from rfl)
                    have v4 := (hn.cell 4).trans (show _ = some (Value.int .u32 (D1.U k)) from rfl)
                    have v7 := (hn.cell 7).trans (show _ = some (Value.int .u16 (D1.K k)) from rfl)
                    have HBZ := Lib.hid hbz
                    clear hn hbz hcut HCELL hb2 r1 r2 HN
                    go_wp2_with fail
                    go_roundw
                    case rel => exact ⟨k + 1, by omega, by go_num, HBZ⟩
                    case measure => simp [intOf]; omega
              · have z1 : decide (k < n1) = false := decide_eq_false hlt
                go_wp2_with fail
                go_ret
                exact ⟨rfl, (HB.out.trans (HC9.out.mono hw09)).trans (HW.out.mono (by omega))⟩
  · rw [szOk_no ht]
    go_wp2_with fail
    go_ret
    exact ⟨rfl, by go_grown⟩

set_option maxRecDepth 100000 in
/-- What the walk gives, for every argument and every world that holds the tables. -/
theorem contract (H : Type) (enc : TypeId × Value → H) (W : World) (base : Nat) (args : Array Value) (ds gs : List (DataW H)) (before : List MemPlace)
    (hval : ∀ (j : Nat) t v, Tryd.f3.params[j]? = some t → args[j]? = some v → Value.okWide Tryd.prog W .any base t v)
    (hW : DataW.Whole enc Tryd.prog Tryd.f3.params.toList Rows.fnMergeSymbolsJoinsTwoClassesSpec.vars false W args.toList ds gs before) (hL : laidMetH Tryd.prog Rows.fnMergeSymbolsJoinsTwoClassesRow.laid W) :
    Calls Tryd.prog 3 args W fun e W' => ∃ v, e = .returned v ∧ Rows.fnMergeSymbolsJoinsTwoClassesSpec.post enc Tryd.prog Tryd.f3 false true false false W args v W' := by
  have hW' := hW
  obtain ⟨p, q, hA0, hV, rfl, hfz, hnd⟩ := hW
  have hA : DataW.TrodAll enc Tryd.prog W 0 (fun _ => true) true Tryd.f3.params.toList args.toList ds p := hA0
  rw [Tryd.params3] at hA hval
  obtain ⟨v0, vs0, d0, ds0, p0, q0, hargs0, rfl, rfl, h0, r0⟩ := trodAll_cons hA
  obtain ⟨v1, vs1, d1, ds1, p1, q1, hargs1, rfl, rfl, h1, r1⟩ := trodAll_cons r0
  obtain ⟨v2, vs2, d2, ds2, p2, q2, hargs2, rfl, rfl, h2, r2⟩ := trodAll_cons r1
  obtain ⟨v3, vs3, d3, ds3, p3, q3, hargs3, rfl, rfl, h3, r3⟩ := trodAll_cons r2
  obtain ⟨v4, vs4, d4, ds4, p4, q4, hargs4, rfl, rfl, h4, r4⟩ := trodAll_cons r3
  obtain ⟨v5, vs5, d5, ds5, p5, q5, hargs5, rfl, rfl, h5, r5⟩ := trodAll_cons r4
  obtain ⟨rfl, rfl, rfl⟩ := trodAll_nil r5
  obtain rfl : args = #[v0, v1, v2, v3, v4, v5] := by cases args; simp_all
  obtain ⟨A0, n0, c0, Z0, rfl, hn0, hc0, hz0, hA0, hZ0⟩ := Mem.open_ints' Tryd.underlying22 Tryd.underlying48 (by kernel_rfl) (hval 0 22 v0 rfl rfl) h0
  obtain ⟨A1, n1, c1, Z1, rfl, hn1, hc1, hz1, hA1, hZ1⟩ := Mem.open_ints' Tryd.underlying23 Tryd.underlying21 (by kernel_rfl) (hval 1 23 v1 rfl rfl) h1
  obtain ⟨A2, n2, c2, Z2, rfl, hn2, hc2, hz2, hA2, hZ2⟩ := Mem.open_ints' Tryd.underlying24 Tryd.underlying25 (by kernel_rfl) (hval 2 24 v2 rfl rfl) h2
  obtain ⟨A3, n3, c3, Z3, rfl, hn3, hc3, hz3, hA3, hZ3⟩ := Mem.open_ints' Tryd.underlying22 Tryd.underlying48 (by kernel_rfl) (hval 3 22 v3 rfl rfl) h3
  obtain ⟨a4, rfl, rfl, rfl, w4⟩ := open_int Tryd.underlying25 (hval 4 25 v4 rfl rfl) h4
  obtain ⟨a5, rfl, rfl, rfl, w5⟩ := open_int Tryd.underlying25 (hval 5 25 v5 rfl rfl) h5
  clear hA0
  obtain ⟨gv, tv, csv, fv, dv, pv, rfl, hgv, _, hvv, _⟩ := trodVars_one hV
  refine (walk A0 n0 c0 Z0 A1 n1 c1 Z1 A2 n2 c2 Z2 A3 n3 c3 Z3 a4 a5 W (inv hL) (by have := World.block_lt_of_cell? W _ (inv hL).1; exact this) hA0 hc0 hn0 hz0 hZ0 hA1 hc1 hn1 hz1 hZ1 hA2 hc2 hn2 hz2 hZ2 hA3 hc3 hn3 hz3 hZ3 w4 w5).mono fun e W' ⟨he, hg⟩ => ?_
  subst he
  exact ⟨_, rfl, law_post1 laid readEach rfl vReads rfl Tryd.underlying4 ⟨rfl, rfl, rfl⟩ hW' hg⟩

def invBlock : Obj → Obj
  | .cells _ t frozen => .cells #[.int .u32 4294967295, .int .u32 4294967295] t frozen
  | o => o
/-- A world for the witness: the settled one, the variable holding what its initialiser lays. -/
noncomputable def laidWorld (os : Os) : World :=
  { World.holding Tryd.prog os ⟨#[], #[], []⟩ with heap := (World.holding Tryd.prog os ⟨#[], #[], []⟩).heap.modify 0 invBlock }
theorem laid_met (os : Os) : laidMet Tryd.prog Rows.fnMergeSymbolsJoinsTwoClassesRow.laid ((laidWorld os).forCall (fun _ _ => 0) ⟨#[], #[.slice none 0 0, .slice none 0 0, .slice none 0 0, .slice none 0 0, .int .u32 0, .int .u32 0], []⟩).memory :=
  laidMet_of_run' 8 (by kernel_rfl) (by kernel_rfl)
theorem reads (os : Os) {H : Type} (enc : TypeId × Value → H) : ∃ places, DataW.whole enc Tryd.prog ((laidWorld os).forCall (fun _ _ => 0) ⟨#[], #[.slice none 0 0, .slice none 0 0, .slice none 0 0, .slice none 0 0, .int .u32 0, .int .u32 0], []⟩).memory Tryd.f3.params.toList Rows.fnMergeSymbolsJoinsTwoClassesSpec.vars false (#[.slice none 0 0, .slice none 0 0, .slice none 0 0, .slice none 0 0, .int .u32 0, .int .u32 0] : Array Value).toList 8 = some ([.nil, .nil, .nil, .nil, .lit (.int .u32 0), .lit (.int .u32 0)], [.agg [.lit (.int .u32 4294967295), .lit (.int .u32 4294967295)]], places) :=
  ⟨MemPlace.row ⟨0, 0, none⟩ 2, by kernel_rfl⟩

set_option maxRecDepth 100000 in
theorem lifted (os : Os) (started : os.Started) (H : Type) (enc : TypeId × Value → H) (F : Stop.Interp) :
    ReturnsInHanded {} Tryd.checked os 3 .any ((OpenSpec.ofChange Rows.fnMergeSymbolsJoinsTwoClassesSpec).preRow enc Tryd.prog Tryd.f3 Rows.fnMergeSymbolsJoinsTwoClassesRow.domain false Rows.fnMergeSymbolsJoinsTwoClassesRow.laid) (((OpenSpec.ofChange Rows.fnMergeSymbolsJoinsTwoClassesSpec).at F).post enc Tryd.prog Tryd.f3 false true false false) := by
  obtain ⟨places, hx⟩ := reads os enc
  refine returnsInHanded_of_row (C := Tryd.checked) (s := OpenSpec.ofChange Rows.fnMergeSymbolsJoinsTwoClassesSpec) own started (by kernel_rfl) Tryd.func3
    (witness_row_at (enc := enc) (C := Tryd.checked) false (laidWorld os) #[.slice none 0 0, .slice none 0 0, .slice none 0 0, .slice none 0 0, .int .u32 0, .int .u32 0] rfl (by kernel_rfl) (by kernel_rfl) (by kernel_rfl)
      (OpenSpec.preRow_of_cond 8 hx (by kernel_rfl) (fun k hk => by cases hk) (by kernel_rfl) (laid_met os))) ?_
  intro W base args ds gs before hval hW _ _ _ hL _ _
  exact contract H enc W base args ds gs before hval hW hL

theorem said : Rows.FnMergeSymbolsJoinsTwoClassesSaid :=
  OpenClaim.holds_of_cond 3 Tryd.f3 rfl rfl rfl rfl rfl rfl rfl ⟨rfl, rfl, rfl, rfl, rfl⟩ rfl rfl rfl rfl rfl (by kernel_rfl) Tryd.func3 (by kernel_rfl)
    (of_decide_eq_true (by kernel_rfl)) (by unfold Func.isWrapper; first | (rw [if_pos (by decide +kernel)]; kernel_rfl) | (rw [if_neg (by decide +kernel)]; exact ⟨rfl, rfl⟩))
    (fun os started H enc _ F => by rw [OpenClaim.pre_eq_preRow]; exact lifted os started H enc F)

/-- No parameter wants a stand-in; the program's own looks are off. -/
theorem plain (f : FuncId) (fn : Func) (hf : Tryd.pinned.checked.prog.funcNamed Rows.fnMergeSymbolsJoinsTwoClassesRow.func = some f) (hfn : Tryd.pinned.checked.prog.funcs[f]? = some fn) :
    false = Tryd.pinned.checked.prog.looks [] ∧ ∀ (j : Nat) t, fn.params[j]? = some t → Tryd.pinned.checked.prog.wantsStandIn t = false := by
  obtain rfl : f = 3 := Option.some.inj ((show Tryd.prog.funcNamed Rows.fnMergeSymbolsJoinsTwoClassesRow.func = some 3 by kernel_rfl).symm.trans hf) |>.symm
  obtain rfl : fn = Tryd.f3 := (Option.some.inj (Tryd.func3.symm.trans hfn)).symm
  refine ⟨by kernel_rfl, fun j t ht => ?_⟩
  rw [Tryd.params3] at ht
  have hm : t ∈ [22, 23, 24, 22, 25, 25] := by simpa using Array.mem_of_getElem? ht
  have hall : ([22, 23, 24, 22, 25, 25] : List TypeId).all (fun t => !Tryd.prog.wantsStandIn t) = true := by kernel_rfl
  have hh : Tryd.prog.wantsStandIn t = false := by simpa using List.all_eq_true.1 hall t hm
  exact hh

/-- The card. -/
theorem card : Rows.FnMergeSymbolsJoinsTwoClassesCardSaid :=
  Claim7.holds_tied_plain_at .later [] _ _ _ _ said (fun _ h => by cases h) (by kernel_rfl) (fun _ h => by cases h) fnMergeSymbolsJoinsTwoClasses_row_tie rfl ⟨rfl, rfl⟩ (by kernel_rfl) rfl plain (by kernel_rfl)
#print axioms card
end Go.Proofs.YtbppncnhdhogbaaDoor.fnMergeSymbolsJoinsTwoClasses
