/-
  Contract for the laws on symbol links: MergeSymbols joins two classes. Conditions: sizes, no cycle, the package's InvalidRef as its initialiser lays it.
-/
import Derived.Test.YtbppncnhdhogbaaDoorFp
namespace Go.Proofs.YtbppncnhdhogbaaDoor.Fz
open Go.RowKit Go.PlainAid Mem Rws Rt Fa Pl Fb Rq Fc Fy Fe Fr Ff Fm Fp
set_option linter.unusedVariables false
/-- What MergeSymbols answers. -/
def Mrg (B G m n : Nat) (C g : Nat → Nat) (X Y : Nat → Nat) (D : Dat) (T : Nat → Int) (ro rn bo bn : Nat) (w : World) (e : Ending) (w' : World) : Prop :=
  ∃ (q : Nat) (D1 : Dat) (T' : Nat → Int), q < n ∧ e = .returned (.agg #[.int .u32 (X q : Int), .int .u32 (Y q : Int)]) ∧ Sy B G m C g D1 w' ∧ Lk n X Y D1 T' ∧ Sd m g w w' ∧ Post n T T' D D1 ro rn q bo bn
theorem Sy.lx {B G m : Nat} {C g : Nat → Nat} {D : Dat} {w : World} (h : Sy B G m C g D w) {i s r : Nat} (hL : Lc C m i s r) : w.cell? ⟨g s, r * 10 + 2, none⟩ = some (.int .u32 (D.X i)) := h.cell hL 2 (by omega)
theorem Sy.ly {B G m : Nat} {C g : Nat → Nat} {D : Dat} {w : World} (h : Sy B G m C g D w) {i s r : Nat} (hL : Lc C m i s r) : w.cell? ⟨g s, r * 10 + 3, none⟩ = some (.int .u32 (D.Y i)) := h.cell hL 3 (by omega)
theorem alloc4 (w : World) (x y z v : Array Value) (a b c d : TypeId) : Below w.heap.size w ((((w.alloc (.cells x a)).alloc (.cells y b)).alloc (.cells z c)).alloc (.cells v d)) ∧ Own ((((w.alloc (.cells x a)).alloc (.cells y b)).alloc (.cells z c)).alloc (.cells v d)) w.heap.size a x ∧ Own ((((w.alloc (.cells x a)).alloc (.cells y b)).alloc (.cells z c)).alloc (.cells v d)) (w.heap.size + 1) b y ∧ Own ((((w.alloc (.cells x a)).alloc (.cells y b)).alloc (.cells z c)).alloc (.cells v d)) (w.heap.size + 1 + 1) c z ∧ Own ((((w.alloc (.cells x a)).alloc (.cells y b)).alloc (.cells z c)).alloc (.cells v d)) (w.heap.size + 1 + 1 + 1) d v := by
  have h3 := alloc3 w x y z a b c
  refine ⟨by go_grown, h3.2.1.alloc _, h3.2.2.1.alloc _, h3.2.2.2.alloc _, ?_⟩
  have := Own.new (((w.alloc (.cells x a)).alloc (.cells y b)).alloc (.cells z c)) d v
  rw [World.size_alloc, World.size_alloc, World.size_alloc] at this
  exact this
theorem ctx4 {w w1 : World} {x y z v : Array Value} {a b c d : TypeId} (hb : Below ((((w.alloc (.cells x a)).alloc (.cells y b)).alloc (.cells z c)).alloc (.cells v d)).heap.size ((((w.alloc (.cells x a)).alloc (.cells y b)).alloc (.cells z c)).alloc (.cells v d)) w1) :
    Below w.heap.size w w1 ∧ Own w1 w.heap.size a x ∧ Own w1 (w.heap.size + 1) b y ∧ Own w1 (w.heap.size + 1 + 1) c z ∧ Own w1 (w.heap.size + 1 + 1 + 1) d v := by
  have h := alloc4 w x y z v a b c d
  exact ⟨h.1.trans (hb.mono h.1.size), h.2.1.below hb h.2.1.lt, h.2.2.1.below hb h.2.2.1.lt, h.2.2.2.1.below hb h.2.2.2.1.lt, h.2.2.2.2.below hb h.2.2.2.2.lt⟩
theorem cell2 {w : World} {b : Nat} {t : TypeId} {x y : Value} (h : Own w b t #[x, y]) : w.cell? ⟨b, 0, none⟩ = some x ∧ w.cell? ⟨b, 1, none⟩ = some y := ⟨(h.cell 0).trans rfl, (h.cell 1).trans rfl⟩
theorem cell1 {w : World} {b : Nat} {t : TypeId} {x : Value} (h : Own w b t #[x]) : w.cell? ⟨b, 0, none⟩ = some x := (h.cell 0).trans rfl
set_option maxRecDepth 100000 in
set_option maxHeartbeats 16000000 in
theorem same15 {B G m n : Nat} {C g : Nat → Nat} {X Y : Nat → Nat} (i : Nat) (hi : i < n) (T : Nat → Int) (D : Dat) (w : World) (h : Sy B G m C g D w) (hK : Lk n X Y D T) {ro rn bo bn : Nat} (hc : Ch T bo i ro) (hc' : Ch T bn i rn) :
    Calls Tryd.prog 15 #[.agg #[.slice (some ⟨G, 0, none⟩) m m], .agg #[.int .u32 (X i : Int), .int .u32 (Y i : Int)], .agg #[.int .u32 (X i : Int), .int .u32 (Y i : Int)]] w (Mrg B G m n C g X Y D T ro rn bo bn w) := by
  have HP : Hid (Post n T T D D ro rn i bo bn) := Lib.hid (post_same hc hc')
  have HS := Lib.hid h
  have HK := Lib.hid hK
  clear h hK hc hc'
  go_enter Tryd.func15, Tryd.ntmps15
  go_wp2_with fail
  refine bodyPost_ret (v := .agg #[.int .u32 (X i : Int), .int .u32 (Y i : Int)]) (by simp [results, Tryd.results15, go_sem]) rfl ⟨i, D, T, hi, rfl, ?_, HK.out, ?_, HP.out⟩
  · exact (((HS.out.alloc _).alloc _).alloc _).alloc _
  · exact Sd.of (by go_grown)
set_option maxRecDepth 100000 in
set_option maxHeartbeats 16000000 in
theorem old15 {B G m n : Nat} {C g : Nat → Nat} {X Y : Nat → Nat} (hm : m ≤ 4097) (hCb : ∀ s, s < m → C s ≤ 4096) (i si ri sj rj t : Nat) (hL : Lc C m i si ri) (htst : ((si : Int) == (sj : Int)) = false ∨ (si = sj ∧ ((ri : Int) == (rj : Int)) = false)) (hXt : X t ≤ 4097) (T : Nat → Int) (D : Dat) (w : World) (h : Sy B G m C g D w) (hI : Inv w) (hI0 : 0 < w.heap.size) (hT : 0 ≤ T i)
    (hx : D.X i = (X t : Int)) (hy : D.Y i = (Y t : Int)) {ro rn d bn : Nat} (hc : Ch T (d + 1) i ro)
    (hset : ∀ D' T' q, Lk n X Y D' T' → q < n → Lk n X Y (D'.link i (X q) (Y q)) (up T' i (q : Int)))
    (HIH : Hid (∀ W, Below w.heap.size w W → Calls Tryd.prog 15 #[.agg #[.slice (some ⟨G, 0, none⟩) m m], .agg #[.int .u32 (X t : Int), .int .u32 (Y t : Int)], .agg #[.int .u32 (sj : Int), .int .u32 (rj : Int)]] W (Mrg B G m n C g X Y D T ro rn d bn W))) :
    Calls Tryd.prog 15 #[.agg #[.slice (some ⟨G, 0, none⟩) m m], .agg #[.int .u32 (si : Int), .int .u32 (ri : Int)], .agg #[.int .u32 (sj : Int), .int .u32 (rj : Int)]] w (Mrg B G m n C g X Y D T ro rn (d + 1) bn w) := by
  have hgb : ∀ s, s < m → g s < w.heap.size := fun s hs => (h.row s hs).lt
  have hGl := h.top.lt
  have HGET : Hid (∀ W, Below w.heap.size w W → Calls Tryd.prog 26 #[.agg #[.slice (some ⟨G, 0, none⟩) m m], .agg #[.int .u32 (si : Int), .int .u32 (ri : Int)]] W fun e w' => e = .returned (.pointer (some ⟨g si, ri * 10, none⟩)) ∧ Below W.heap.size W w') := Lib.hid fun W hb => get26 (h.below hb (Nat.le_refl _)) hL hm (hCb si hL.1)
  have HL := Lib.hid hL
  have HS := Lib.hid h
  have HI := Lib.hid hI
  have HG := Lib.hid hgb
  have HX := Lib.hid hx
  have HY := Lib.hid hy
  have HC := Lib.hid hc
  have HSET := Lib.hid hset
  have hsl : si ≤ 4097 := by have := hL.1; omega
  have hrl : ri ≤ 4096 := by have h1 := hL.2.1; have h2 := hCb si hL.1; omega
  have e1 : ((X t : Int) == 4294967295) = false := by rw [beq_eq_false_iff_ne]; omega
  clear h hL hI hgb hx hy hc hset
  rcases htst with t0 | ⟨rfl, t1⟩
  all_goals
    go_enter Tryd.func15, Tryd.ntmps15
    go_wp2_with fail
    refine (HGET.out _ (by go_grown)).mono ?_
    rintro e w1 ⟨rfl, hb1⟩
    obtain ⟨hb0, o2, _, o4, o5⟩ := ctx4 hb1
    have hs1 := HS.out.below hb0 (Nat.le_refl _)
    have c2 := Sy.lx hs1 HL.out
    have c3 := Sy.ly hs1 HL.out
    rw [HX.out] at c2
    rw [HY.out] at c3
    obtain ⟨v0, v1⟩ := HI.out.below hb0 hI0
    have b2 := cell1 o2
    obtain ⟨b4, b4'⟩ := cell2 o4
    have O2 := Lib.hid o2
    have O4 := Lib.hid o4
    have O5 := Lib.hid o5
    have HB := Lib.hid hb0
    clear hb1 hb0 o2 o4 o5 hs1
    go_wp2_with fail
    go_quiet (fail)
    go_wp2_with fail
    have HW1 := Lib.hid (Mem.below_drewN HB.out nq)
    have O5' := Lib.hid (O5.out.drewN nq)
    have d2 := Sy.lx (HS.out.below HW1.out (Nat.le_refl _)) HL.out
    have d3 := Sy.ly (HS.out.below HW1.out (Nat.le_refl _)) HL.out
    rw [HX.out] at d2
    rw [HY.out] at d3
    have a2 := cell1 (O2.out.drewN nq)
    obtain ⟨a4, a4'⟩ := cell2 (O4.out.drewN nq)
    have hwl : w.heap.size + 1 + 1 < (w1.drewN nq).heap.size := O4.out.lt
    clear c2 c3 v0 v1 b2 b4 b4' O2 O4 O5 HB
    generalize w1.drewN nq = W1 at *
    have hwz := HW1.out.size
    have hgl : g si < W1.heap.size := by have := HG.out si HL.out.1; omega
    go_region_with (go_at_call 15; refine (HIH.out _ (by first | exact HW1.out | exact below_drew HW1.out)).mono ?_; rintro e w2 ⟨q, D1, T', hq, rfl, hsy, hlk, hsd, hpost⟩; have m2 := Sy.lx hsy HL.out; have m3 := Sy.ly hsy HL.out; have f2 := hsy.frozen HL.out.1 (ri * 10 + 2); have f3 := hsy.frozen HL.out.1 (ri * 10 + 3))
    all_goals
      have HP : Hid (Post n T (up T' i (q : Int)) D (D1.link i (X q) (Y q)) ro rn q (d + 1) bn) := Lib.hid (post_old hpost hT HC.out)
      have HLK := Lib.hid (HSET.out _ _ q hlk hq)
      have HS3 : Hid (Sy B G m C g (D1.link i (X q) (Y q)) ((w2.setCell ⟨g si, ri * 10 + 2, none⟩ (.int .u32 (X q : Int))).setCell ⟨g si, ri * 10 + 2 + 1, none⟩ (.int .u32 (Y q : Int)))) := Lib.hid (Sy.link hsy HL.out (X q : Int) (Y q : Int))
      have HSD : Hid (Sd m g W1 ((w2.setCell ⟨g si, ri * 10 + 2, none⟩ (.int .u32 (X q : Int))).setCell ⟨g si, ri * 10 + 2 + 1, none⟩ (.int .u32 (Y q : Int)))) := Lib.hid ((((Sd.of (below_drew (Below.refl _ W1))).trans hsd).set HL.out.1 _ _).set HL.out.1 _ _)
      clear hpost hlk hsy hsd m2 m3 f2 f3 d2 d3 a2 a4 a4'
      generalize (w2.setCell _ _).setCell _ _ = W3 at *
      have m2 := Sy.lx HS3.out HL.out
      have m3 := Sy.ly HS3.out HL.out
      rw [show (D1.link i (X q : Int) (Y q : Int)).X i = (X q : Int) from up_at _ _ _] at m2
      rw [show (D1.link i (X q : Int) (Y q : Int)).Y i = (Y q : Int) from up_at _ _ _] at m3
      have hne4 : w.heap.size + 1 + 1 + 1 ≠ G ∧ ∀ s, s < m → w.heap.size + 1 + 1 + 1 ≠ g s := ⟨by omega, fun s hs => by have := HG.out s hs; omega⟩
      have o5 := HSD.out.own O5'.out hne4.2
      obtain ⟨b5, b5'⟩ := cell2 o5
      have f5 := o5.frozen 0
      have f5' := o5.frozen 1
      have O6 := Lib.hid (Own.set (Own.set o5 0 (.int .u32 (X q : Int))) 1 (.int .u32 (Y q : Int)))
      have HNE := Lib.hid hne4
      clear hne4 o5
      go_wp2_with fail
      have r0 := (O6.out.cell 0).trans (show _ = some (Value.int .u32 (X q : Int)) from rfl)
      have r1 := (O6.out.cell 1).trans (show _ = some (Value.int .u32 (Y q : Int)) from rfl)
      exact bodyPost_ret (v := .agg #[.int .u32 (X q : Int), .int .u32 (Y q : Int)]) (by simp [results, Tryd.results15, go_sem, r0, r1]) rfl ⟨q, _, _, hq, rfl, Sy.setFar (Sy.setFar HS3.out (.inr HNE.out) _ _) (.inr HNE.out) _ _, HLK.out, (((Sd.of HW1.out).trans HSD.out).set' (by omega) _ _).set' (by omega) _ _, HP.out⟩
end Go.Proofs.YtbppncnhdhogbaaDoor.Fz
