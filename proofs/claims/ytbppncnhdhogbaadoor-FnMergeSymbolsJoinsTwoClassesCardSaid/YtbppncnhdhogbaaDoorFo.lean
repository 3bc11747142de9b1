/-
  Contract for the laws on symbol links: MergeSymbols where the old symbol has no link. Conditions: sizes, the package's InvalidRef as its initialiser lays it.
-/
import Derived.Test.YtbppncnhdhogbaaDoorFz
namespace Go.Proofs.YtbppncnhdhogbaaDoor.Fo
open Go.RowKit Go.PlainAid Mem Rws Rt Fa Pl Fb Rq Fc Fy Fe Fr Ff Fm Fp Fz
set_option linter.unusedVariables false
theorem Sy.link2 {B G m : Nat} {C g : Nat → Nat} {D : Dat} {w : World} (h : Sy B G m C g D w) {i s r : Nat} (hL : Lc C m i s r) (x y : Int) : Sy B G m C g (D.link i x y) ((w.setCell ⟨g s, r * 10 + 2, none⟩ (.int .u32 x)).setCell ⟨g s, r * 10 + 2 + 1, none⟩ (.int .u32 y)) := h.link hL x y
theorem Sd.set2 {m : Nat} {g : Nat → Nat} {w w' : World} (h : Sd m g w w') {C : Nat → Nat} {i s r : Nat} (hL : Lc C m i s r) (x y : Int) : Sd m g w ((w'.setCell ⟨g s, r * 10 + 2, none⟩ (.int .u32 x)).setCell ⟨g s, r * 10 + 2 + 1, none⟩ (.int .u32 y)) := (h.set hL.1 _ _).set hL.1 _ _
theorem lx_link {B G m : Nat} {C g : Nat → Nat} {D : Dat} {w : World} {i s r : Nat} {x y : Int} (h : Sy B G m C g (D.link i x y) w) (hL : Lc C m i s r) : w.cell? ⟨g s, r * 10 + 2, none⟩ = some (.int .u32 x) ∧ w.cell? ⟨g s, r * 10 + 3, none⟩ = some (.int .u32 y) :=
  ⟨(Sy.lx h hL).trans (by rw [show (D.link i x y).X i = x from up_at _ _ _]), (Sy.ly h hL).trans (by rw [show (D.link i x y).Y i = y from up_at _ _ _])⟩
set_option maxRecDepth 100000 in
set_option maxHeartbeats 16000000 in
theorem new15 {B G m n : Nat} {C g : Nat → Nat} {X Y : Nat → Nat} (hm : m ≤ 4097) (hCb : ∀ s, s < m → C s ≤ 4096) (i j si ri sj rj t : Nat) (hL : Lc C m i si ri) (hLj : Lc C m j sj rj) (htst : ((si : Int) == (sj : Int)) = false ∨ (si = sj ∧ ((ri : Int) == (rj : Int)) = false)) (hXt : X t ≤ 4097) (T : Nat → Int) (D : Dat) (w : World) (h : Sy B G m C g D w) (hI : Inv w) (hI0 : 0 < w.heap.size)
    (hxi : D.X i = 4294967295) (hyi : D.Y i = 4294967295) (hT : 0 ≤ T j) (hx : D.X j = (X t : Int)) (hy : D.Y j = (Y t : Int)) {ro rn bo d : Nat} (hro : T ro < 0) (hc : Ch T (d + 1) j rn)
    (hset : ∀ D' T' q, Lk n X Y D' T' → q < n → Lk n X Y (D'.link j (X q) (Y q)) (up T' j (q : Int)))
    (HIH : Hid (∀ W, Below w.heap.size w W → Calls Tryd.prog 15 #[.agg #[.slice (some ⟨G, 0, none⟩) m m], .agg #[.int .u32 (si : Int), .int .u32 (ri : Int)], .agg #[.int .u32 (X t : Int), .int .u32 (Y t : Int)]] W (Mrg B G m n C g X Y D T ro rn bo d W))) :
    Calls Tryd.prog 15 #[.agg #[.slice (some ⟨G, 0, none⟩) m m], .agg #[.int .u32 (si : Int), .int .u32 (ri : Int)], .agg #[.int .u32 (sj : Int), .int .u32 (rj : Int)]] w (Mrg B G m n C g X Y D T ro rn bo (d + 1) w) := by
  have hgb : ∀ s, s < m → g s < w.heap.size := fun s hs => (h.row s hs).lt
  have hGl := h.top.lt
  have HGET : Hid (∀ W, Below w.heap.size w W → Calls Tryd.prog 26 #[.agg #[.slice (some ⟨G, 0, none⟩) m m], .agg #[.int .u32 (si : Int), .int .u32 (ri : Int)]] W fun e w' => e = .returned (.pointer (some ⟨g si, ri * 10, none⟩)) ∧ Below W.heap.size W w') := Lib.hid fun W hb => get26 (h.below hb (Nat.le_refl _)) hL hm (hCb si hL.1)
  have HGETJ : Hid (∀ W, Below w.heap.size w W → Calls Tryd.prog 26 #[.agg #[.slice (some ⟨G, 0, none⟩) m m], .agg #[.int .u32 (sj : Int), .int .u32 (rj : Int)]] W fun e w' => e = .returned (.pointer (some ⟨g sj, rj * 10, none⟩)) ∧ Below W.heap.size W w') := Lib.hid fun W hb => get26 (h.below hb (Nat.le_refl _)) hLj hm (hCb sj hLj.1)
  have HL := Lib.hid hL
  have HLJ := Lib.hid hLj
  have HS := Lib.hid h
  have HI := Lib.hid hI
  have HG := Lib.hid hgb
  have HXI := Lib.hid hxi
  have HYI := Lib.hid hyi
  have HX := Lib.hid hx
  have HY := Lib.hid hy
  have HC := Lib.hid hc
  have HRO := Lib.hid hro
  have HSET := Lib.hid hset
  have hsl : si ≤ 4097 := by have := hL.1; omega
  have hrl : ri ≤ 4096 := by have h1 := hL.2.1; have h2 := hCb si hL.1; omega
  have hslj : sj ≤ 4097 := by have := hLj.1; omega
  have hrlj : rj ≤ 4096 := by have h1 := hLj.2.1; have h2 := hCb sj hLj.1; omega
  have e1 : ((X t : Int) == 4294967295) = false := by rw [beq_eq_false_iff_ne]; omega
  clear h hL hLj hI hgb hx hy hxi hyi hc hset hro
  rcases htst with t0 | ⟨rfl, t1⟩
  all_goals
    go_enter Tryd.func15, Tryd.ntmps15
    go_wp2_with fail
    refine (HGET.out _ (by go_grown)).mono ?_
    rintro e w1 ⟨rfl, hb1⟩
    obtain ⟨hb0, o2, o3, o4, o5⟩ := ctx4 hb1
    have hs1 := HS.out.below hb0 (Nat.le_refl _)
    have c2 := Sy.lx hs1 HL.out
    have c3 := Sy.ly hs1 HL.out
    rw [HXI.out] at c2
    rw [HYI.out] at c3
    obtain ⟨v0, v1⟩ := HI.out.below hb0 hI0
    have b2 := cell1 o2
    obtain ⟨b4, b4'⟩ := cell2 o4
    have O2 := Lib.hid o2
    have O3 := Lib.hid o3
    have O4 := Lib.hid o4
    have O5 := Lib.hid o5
    have HB := Lib.hid hb0
    clear hb1 hb0 o2 o3 o4 o5 hs1
    go_wp2_with fail
    go_quiet (fail)
    go_wp2_with fail
    refine (HGETJ.out _ (Mem.below_drewN HB.out nq)).mono ?_
    rintro e w2 ⟨rfl, hb2⟩
    have HB2 := Lib.hid ((Mem.below_drewN HB.out nq).trans (hb2.mono (Mem.below_drewN HB.out nq).size))
    have P2 := Lib.hid ((O2.out.drewN nq).below hb2 O2.out.lt)
    have P3 := Lib.hid ((O3.out.drewN nq).below hb2 O3.out.lt)
    have P4 := Lib.hid ((O4.out.drewN nq).below hb2 O4.out.lt)
    have P5 := Lib.hid ((O5.out.drewN nq).below hb2 O5.out.lt)
    obtain ⟨v0', v1'⟩ := HI.out.below HB2.out hI0
    have hs2 := HS.out.below HB2.out (Nat.le_refl _)
    have c2' := Sy.lx hs2 HLJ.out
    have c3' := Sy.ly hs2 HLJ.out
    rw [HX.out] at c2'
    rw [HY.out] at c3'
    have b2' := cell1 P2.out
    clear hb2 hs2 c2 c3 v0 v1 b2 b4 b4' O2 O3 O4 O5 HB
    go_wp2_with fail
    go_quiet (fail)
    go_wp2_with fail
    have HW1 := Lib.hid (Mem.below_drewN HB2.out nq)
    have O5' := Lib.hid (P5.out.drewN nq)
    have hs3 := HS.out.below HW1.out (Nat.le_refl _)
    have d2 := Sy.lx hs3 HLJ.out
    have d3 := Sy.ly hs3 HLJ.out
    rw [HX.out] at d2
    rw [HY.out] at d3
    have a2 := cell1 (P2.out.drewN nq)
    obtain ⟨a3, a3'⟩ := cell2 (P3.out.drewN nq)
    have hwl : w.heap.size + 1 + 1 < (w2.drewN nq).heap.size := P4.out.lt
    clear hs3 c2' c3' v0' v1' b2' P2 P3 P4 P5 HB2
    generalize w2.drewN nq = W1 at *
    have hwz := HW1.out.size
    have hgl := Nat.lt_of_lt_of_le (HG.out _ HLJ.out.1) hwz
    go_region_with (go_at_call 15; refine (HIH.out _ (by first | exact HW1.out | exact below_drew HW1.out)).mono ?_; rintro e w3 ⟨q, D1, T', hq, rfl, hsy, hlk, hsd, hpost⟩; have m2 := Sy.lx hsy HLJ.out; have m3 := Sy.ly hsy HLJ.out; have f2 := hsy.frozen HLJ.out.1 (rj * 10 + 2); have f3 := hsy.frozen HLJ.out.1 (rj * 10 + 3))
    all_goals
      have HP : Hid (Post n T (up T' j (q : Int)) D (D1.link j (X q) (Y q)) ro rn q bo (d + 1)) := Lib.hid (post_new hpost hT HC.out HRO.out)
      have HLK := Lib.hid (HSET.out _ _ q hlk hq)
      have HS3 := Lib.hid (Sy.link2 hsy HLJ.out (X q : Int) (Y q : Int))
      have HSD := Lib.hid (Sd.set2 ((Sd.of (below_drew (Below.refl _ W1))).trans hsd) HLJ.out (X q : Int) (Y q : Int))
      clear hpost hlk hsy hsd m2 m3 f2 f3 d2 d3 a2 a3 a3'
      generalize (w3.setCell _ _).setCell _ _ = W3 at *
      obtain ⟨m2, m3⟩ := lx_link HS3.out HLJ.out
      have hne4 : w.heap.size + 1 + 1 + 1 ≠ G ∧ ∀ s, s < m → w.heap.size + 1 + 1 + 1 ≠ g s := ⟨by omega, fun s hs => by have := HG.out s hs; omega⟩
      have o5 := HSD.out.own O5'.out hne4.2
      obtain ⟨b5, b5'⟩ := cell2 o5
      have f5 := o5.frozen 0
      have f5' := o5.frozen 1
      have O6 := Lib.hid (Own.set (Own.set o5 0 (.int .u32 (X q : Int))) 1 (.int .u32 (Y q : Int)))
      have HNE := Lib.hid hne4
      clear hne4 o5
      go_wp2_with fail
      have r0 := (O6.out.cell 0).trans (show _ = some (Value.int .u32 (X q : Int)) from rfl)
      have r1 := (O6.out.cell 1).trans (show _ = some (Value.int .u32 (Y q : Int)) from rfl)
      exact bodyPost_ret (v := .agg #[.int .u32 (X q : Int), .int .u32 (Y q : Int)]) (by simp [results, Tryd.results15, go_sem, r0, r1]) rfl ⟨q, _, _, hq, rfl, Sy.setFar (Sy.setFar HS3.out (.inr HNE.out) _ _) (.inr HNE.out) _ _, HLK.out, (((Sd.of HW1.out).trans HSD.out).set' (by omega) _ _).set' (by omega) _ _, HP.out⟩
set_option maxRecDepth 100000 in
set_option maxHeartbeats 16000000 in
theorem fin15 {B G m n : Nat} {C g : Nat → Nat} {X Y : Nat → Nat} (hm : m ≤ 4097) (hCb : ∀ s, s < m → C s ≤ 4096) (i j si ri sj rj : Nat) (hne : i ≠ j) (hjn : j < n) (hsj : sj = X j) (hrj : rj = Y j) (hL : Lc C m i si ri) (hLj : Lc C m j sj rj) (htst : ((si : Int) == (sj : Int)) = false ∨ (si = sj ∧ ((ri : Int) == (rj : Int)) = false)) (T : Nat → Int) (D : Dat) (w : World) (h : Sy B G m C g D w) (hI : Inv w) (hI0 : 0 < w.heap.size)
    (hxi : D.X i = 4294967295) (hyi : D.Y i = 4294967295) (hx : D.X j = 4294967295) (hy : D.Y j = 4294967295)
    (hlk : Lk n X Y (D.link i (X j) (Y j)) (up T i (j : Int))) :
    Calls Tryd.prog 15 #[.agg #[.slice (some ⟨G, 0, none⟩) m m], .agg #[.int .u32 (si : Int), .int .u32 (ri : Int)], .agg #[.int .u32 (sj : Int), .int .u32 (rj : Int)]] w (Mrg B G m n C g X Y D T i j 0 0 w) := by
  have hgb : ∀ s, s < m → g s < w.heap.size := fun s hs => (h.row s hs).lt
  have hGl := h.top.lt
  have HGET : Hid (∀ W, Below w.heap.size w W → Calls Tryd.prog 26 #[.agg #[.slice (some ⟨G, 0, none⟩) m m], .agg #[.int .u32 (si : Int), .int .u32 (ri : Int)]] W fun e w' => e = .returned (.pointer (some ⟨g si, ri * 10, none⟩)) ∧ Below W.heap.size W w') := Lib.hid fun W hb => get26 (h.below hb (Nat.le_refl _)) hL hm (hCb si hL.1)
  have HGETJ : Hid (∀ W, Below w.heap.size w W → Calls Tryd.prog 26 #[.agg #[.slice (some ⟨G, 0, none⟩) m m], .agg #[.int .u32 (sj : Int), .int .u32 (rj : Int)]] W fun e w' => e = .returned (.pointer (some ⟨g sj, rj * 10, none⟩)) ∧ Below W.heap.size W w') := Lib.hid fun W hb => get26 (h.below hb (Nat.le_refl _)) hLj hm (hCb sj hLj.1)
  have HL := Lib.hid hL
  have HLJ := Lib.hid hLj
  have HS := Lib.hid h
  have HI := Lib.hid hI
  have HG := Lib.hid hgb
  have HXI := Lib.hid hxi
  have HYI := Lib.hid hyi
  have HX := Lib.hid hx
  have HY := Lib.hid hy
  have HLK := Lib.hid hlk
  have HSJ := Lib.hid hsj
  have HRJ := Lib.hid hrj
  have hsl : si ≤ 4097 := by have := hL.1; omega
  have hrl : ri ≤ 4096 := by have h1 := hL.2.1; have h2 := hCb si hL.1; omega
  have hslj : sj ≤ 4097 := by have := hLj.1; omega
  have hrlj : rj ≤ 4096 := by have h1 := hLj.2.1; have h2 := hCb sj hLj.1; omega
  clear h hL hLj hI hgb hx hy hxi hyi hlk hsj hrj
  rcases htst with t0 | ⟨rfl, t1⟩
  all_goals
    go_enter Tryd.func15, Tryd.ntmps15
    go_wp2_with fail
    refine (HGET.out _ (by go_grown)).mono ?_
    rintro e w1 ⟨rfl, hb1⟩
    obtain ⟨hb0, o2, o3, o4, o5⟩ := ctx4 hb1
    have hs1 := HS.out.below hb0 (Nat.le_refl _)
    have c2 := Sy.lx hs1 HL.out
    have c3 := Sy.ly hs1 HL.out
    rw [HXI.out] at c2
    rw [HYI.out] at c3
    obtain ⟨v0, v1⟩ := HI.out.below hb0 hI0
    have b2 := cell1 o2
    obtain ⟨b4, b4'⟩ := cell2 o4
    have O2 := Lib.hid o2
    have O3 := Lib.hid o3
    have O4 := Lib.hid o4
    have O5 := Lib.hid o5
    have HB := Lib.hid hb0
    clear hb1 hb0 o2 o3 o4 o5 hs1
    go_wp2_with fail
    go_quiet (fail)
    go_wp2_with fail
    refine (HGETJ.out _ (Mem.below_drewN HB.out nq)).mono ?_
    rintro e w2 ⟨rfl, hb2⟩
    have HB2 := Lib.hid ((Mem.below_drewN HB.out nq).trans (hb2.mono (Mem.below_drewN HB.out nq).size))
    have P2 := Lib.hid ((O2.out.drewN nq).below hb2 O2.out.lt)
    have P3 := Lib.hid ((O3.out.drewN nq).below hb2 O3.out.lt)
    have P4 := Lib.hid ((O4.out.drewN nq).below hb2 O4.out.lt)
    have P5 := Lib.hid ((O5.out.drewN nq).below hb2 O5.out.lt)
    obtain ⟨v0', v1'⟩ := HI.out.below HB2.out hI0
    have hs2 := HS.out.below HB2.out (Nat.le_refl _)
    have c2' := Sy.lx hs2 HLJ.out
    have c3' := Sy.ly hs2 HLJ.out
    rw [HX.out] at c2'
    rw [HY.out] at c3'
    have b2' := cell1 P2.out
    obtain ⟨b4n, b4n'⟩ := cell2 P4.out
    have l2 := Sy.lx hs2 HL.out
    have l3 := Sy.ly hs2 HL.out
    have fl2 := hs2.frozen HL.out.1 (ri * 10 + 2)
    have fl3 := hs2.frozen HL.out.1 (ri * 10 + 3)
    clear hb2 hs2 c2 c3 v0 v1 b2 b4 b4' O2 O3 O4 O5 HB
    go_wp2_with fail
    go_quiet (fail)
    go_wp2_with fail
    have HW1 := Lib.hid (Mem.below_drewN HB2.out nq)
    have hne3 : ∀ s, s < m → w.heap.size + 1 + 1 ≠ g s := fun s hs => by have := HG.out s hs; omega
    have hne4 : w.heap.size + 1 + 1 + 1 ≠ G ∧ ∀ s, s < m → w.heap.size + 1 + 1 + 1 ≠ g s := ⟨by omega, fun s hs => by have := HG.out s hs; omega⟩
    refine (join27 (Sy.link2 (HS.out.below HW1.out (Nat.le_refl _)) HL.out _ _) HL.out HLJ.out hne).mono ?_
    rintro e w3 ⟨rfl, hsy, hsd⟩
    have HSY := Lib.hid hsy
    have HSD := Lib.hid ((Sd.set2 (Sd.of HW1.out) HL.out _ _).trans hsd)
    have o4 := hsd.own (Own.far (Own.far (P4.out.drewN nq) (p := ⟨_, _, none⟩) (hne3 _ HL.out.1) _) (p := ⟨_, _, none⟩) (hne3 _ HL.out.1) _) hne3
    have o5 := hsd.own (Own.far (Own.far (P5.out.drewN nq) (p := ⟨_, _, none⟩) (hne4.2 _ HL.out.1) _) (p := ⟨_, _, none⟩) (hne4.2 _ HL.out.1) _) hne4.2
    obtain ⟨x4, x4'⟩ := cell2 o4
    obtain ⟨b5, b5'⟩ := cell2 o5
    have f5 := o5.frozen 0
    have f5' := o5.frozen 1
    have HNE := Lib.hid hne4
    have O5 := Lib.hid o5
    clear hsy hsd o4 o5 hne3 hne4 l2 l3 fl2 fl3 b4n b4n' c2' c3' v0' v1' b2' P2 P3 P4 P5 HB2
    obtain rfl := HSJ.out
    obtain rfl := HRJ.out
    go_wp2_with fail
    have O6 := Lib.hid (Own.set (Own.set O5.out 0 (.int .u32 (X j : Int))) 1 (.int .u32 (Y j : Int)))
    have r0 := (O6.out.cell 0).trans (show _ = some (Value.int .u32 (X j : Int)) from rfl)
    have r1 := (O6.out.cell 1).trans (show _ = some (Value.int .u32 (Y j : Int)) from rfl)
    exact bodyPost_ret (v := .agg #[.int .u32 (X j : Int), .int .u32 (Y j : Int)]) (by simp [results, Tryd.results15, go_sem, r0, r1]) rfl ⟨j, _, _, hjn, rfl, Sy.setFar (Sy.setFar HSY.out (.inr HNE.out) _ _) (.inr HNE.out) _ _, HLK.out, ((HSD.out).set' (by omega) _ _).set' (by omega) _ _, post_fin hne⟩
end Go.Proofs.YtbppncnhdhogbaaDoor.Fo
