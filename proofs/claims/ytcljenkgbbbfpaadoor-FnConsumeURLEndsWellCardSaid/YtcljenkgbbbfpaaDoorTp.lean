/-
  Proved: consumeURL ends with TURL or TBadURL at a place that the law allows. Conditions: those that each theorem names as its hypotheses, and no
  others.
-/
import Derived.Test.YtcljenkgbbbfpaaDoorTo
import Derived.Deep.DeepCutAuto
namespace Go.Proofs.YtcljenkgbbbfpaaDoor.Tp
open Go.RowKit Go.PlainAid Str Mem Ho De Lu Lg Dw Tk Tl Tm Tn To Cu Rws
set_option linter.unusedVariables false
set_option linter.unusedSimpArgs false
variable {B : Nat → Option Value}
def lenAt (g : Nat) (w : World) : Nat := match w.cell? ⟨g, 37, none⟩ with
  | some (.int _ x) => x.toNat
  | _ => 0
theorem len_at {g : Nat} {s : ByteArray} {m q : Nat} {w : World} (h : Ax B g s ((m + 1 : Nat) : Int) q w) : lenAt g w = q - (m + 1) := by
  unfold lenAt
  rw [h.cell37]
  show ((q : Int) - ((m + 1 : Nat) : Int)).toNat = _
  omega
theorem cp_end {s : ByteArray} {q : Nat} (hq : q ≤ s.size) (h : cpOf s q = -1) : q = s.size := by
  by_cases l : q < s.size
  · have := (rd_bounds s q hq).1
    rw [(cp_in l).1] at h
    omega
  · omega
theorem cp_more {s : ByteArray} {q : Nat} (h : cpOf s q ≠ -1) : q < s.size ∧ 1 ≤ wdOf s q := by
  by_cases l : q < s.size
  · exact ⟨l, by rw [(cp_in l).2]; exact rw_pos l⟩
  · exact absurd (cp_out (by omega)).1 h
theorem cp_asc {s : ByteArray} {q : Nat} {c : Int} (h : cpOf s q = c) (h0 : 0 ≤ c) (h1 : c < 128) : q < s.size ∧ bt s q = c ∧ wdOf s q = 1 := by
  obtain ⟨l, _⟩ := cp_more (s := s) (q := q) (by omega)
  obtain ⟨e1, e2⟩ := cp_in l
  rw [e1] at h
  by_cases ha : bt s q < 128
  · obtain ⟨r1, r2⟩ := rd_asc l ha
    exact ⟨l, by omega, by omega⟩
  · have := (rd_high l (by omega)).1
    omega
/-- The lexer at q, in the walk from w. -/
structure Sx (B : Nat → Option Value) (g : Nat) (s : ByteArray) (m lo : Nat) (w : World) (q : Nat) (wr : World) : Prop where
  ax : Ax B g s ((m + 1 : Nat) : Int) q wr
  mq : m + 1 ≤ q
  bl : Below lo w wr
  lw : lo ≤ w.heap.size
  lg : lo ≤ g
theorem Sx.step {g : Nat} {s : ByteArray} {m lo q q' : Nat} {w wr w' : World} (h : Sx B g s m lo w q wr) (a : Ax B g s ((m + 1 : Nat) : Int) q' w') (f : Fr g wr w') (hq : q ≤ q') : Sx B g s m lo w q' w' :=
  ⟨a, Nat.le_trans h.mq hq, gr_below h.bl h.lw (Fr.gr f) h.lg, h.lw, h.lg⟩
theorem Sx.below {g : Nat} {s : ByteArray} {m lo q : Nat} {w wr w' : World} (h : Sx B g s m lo w q wr) (hb : Below wr.heap.size wr w') : Sx B g s m lo w q w' :=
  ⟨h.ax.below hb, h.mq, h.bl.trans (hb.mono (Nat.le_trans h.lw h.bl.size)), h.lw, h.lg⟩
theorem Sx.tabs {g : Nat} {s : ByteArray} {m lo q : Nat} {w wr : World} (h : Sx B g s m lo w q wr) (hT : Lib.Utf8Tabs 1 2 w) (hlo : 3 ≤ lo) : Lib.Utf8Tabs 1 2 wr := tabs_of hT hlo h.bl
/-- What the log's step needs beside. -/
structure Lo (g m lo k mu hm ms p : Nat) (w wr : World) : Prop where
  log : LogSt wr lo k mu hm ms (.slice none 0 0) 0 []
  loc : Own wr p 29 #[.int .i32 m]
theorem Lo.step {g m lo k mu hm ms p q : Nat} {s : ByteArray} {w wr w' : World} (h : Lo g m lo k mu hm ms p w wr) (a : Ax B g s ((m + 1 : Nat) : Int) q wr) (f : Fr g wr w') : Lo g m lo k mu hm ms p w w' := by
  refine ⟨Ax.log a h.log (Fr.gr f), ?_⟩
  obtain ⟨_, nl, cs, hl, _⟩ := a
  exact ((Fr.gr f).block p h.loc.lt (fun e => own_ne h.loc hl.own (by decide) (Option.some.inj e))).trans h.loc
theorem Lo.below {g m lo k mu hm ms p : Nat} {w wr w' : World} (h : Lo g m lo k mu hm ms p w wr) (hb : Below wr.heap.size wr w') : Lo g m lo k mu hm ms p w w' :=
  ⟨LogSt.below h.log hb, h.loc.below hb h.loc.lt⟩
/-- A place where a URL may end. -/
def Good (s : ByteArray) (m q : Nat) : Prop := q = s.size ∨ m + 1 < q ∧ bt s (q - 1) = 41
def Url (g : Nat) (s : ByteArray) (m lo : Nat) (w : World) (e : Ending) (w' : World) : Prop :=
  ∃ (kd : Int) (q : Nat) (B : Nat → Option Value), e = .returned (.int .u8 kd) ∧ (kd = 37 ∨ kd = 3) ∧ Ax B g s ((m + 1 : Nat) : Int) q w' ∧ m + 1 ≤ q ∧ Good s m q ∧ Below lo w w'
theorem Sx.url {g : Nat} {s : ByteArray} {m lo q : Nat} {w wr : World} (h : Sx B g s m lo w q wr) (kd : Int) (hk : kd = 37 ∨ kd = 3) (hg : Good s m q) : Url g s m lo w (.returned (.int .u8 kd)) wr :=
  ⟨kd, q, B, rfl, hk, h.ax, h.mq, hg, h.bl⟩
/-- The lexer's cells that the log's step loads. -/
def Ld (g q m p p5 k mu hm ms : Nat) (V : World) : Prop :=
  V.cell? ⟨g, 1, none⟩ = some (.func (.func 78) #[] #[.pointer (some ⟨k, 0, none⟩), .pointer (some ⟨mu, 0, none⟩), .pointer (some ⟨hm, 0, none⟩), .pointer (some ⟨ms, 0, none⟩)]) ∧ V.cell? ⟨g, 2, none⟩ = some (.func (.func 81) #[] #[.pointer (some ⟨mu, 0, none⟩), .pointer (some ⟨hm, 0, none⟩)]) ∧ V.cell? ⟨g, 3, none⟩ = some (.func (.func 82) #[] #[.pointer (some ⟨mu, 0, none⟩), .pointer (some ⟨ms, 0, none⟩)]) ∧ V.cell? ⟨g, 4, none⟩ = some (.func (.func 83) #[] #[.pointer (some ⟨mu, 0, none⟩), .pointer (some ⟨ms, 0, none⟩)]) ∧ V.cell? ⟨g, 5, none⟩ = some (.int .i8 3) ∧ V.cell? ⟨g, 6, none⟩ = some (.map none) ∧ V.cell? ⟨p5, 0, none⟩ = some (.int .i32 q) ∧ V.cell? ⟨p, 0, none⟩ = some (.int .i32 m)
set_option maxRecDepth 100000 in
set_option maxHeartbeats 64000000 in
theorem url49 (g : Nat) (s : ByteArray) (m lo q0 k mu hm ms : Nat) (w : World) (h : Ax B g s ((m + 1 : Nat) : Int) q0 w) (hL : LogSt w lo k mu hm ms (.slice none 0 0) 0 []) (hb : BB B s k mu hm ms) (hT : Lib.Utf8Tabs 1 2 w) (hlo : 3 ≤ lo) (hg : lo ≤ g) (hs : s.size ≤ 1048576) (hq0 : m + 1 ≤ q0) :
    Calls Tryd.prog 49 #[.pointer (some ⟨g, 0, none⟩), .agg #[.int .i32 m]] w (Url g s m lo w) := by
  have HBB := Lib.hid hb
  have HT := Lib.hid hT
  have hlw := hL.lw
  have hqs := h.hq
  have HA := Lib.hid h
  have HL := Lib.hid hL
  clear h hL hb hT
  go_enter Tryd.func49, Tryd.ntmps49
  go_upto_region 1 with fail
  generalize hW : w.alloc _ = W
  have hb : Below w.heap.size w W := by rw [← hW]; exact (Below.refl _ _).alloc (Nat.le_refl _) _
  have HS : Hid (Sx B g s m lo w q0 W ∧ Lo g m lo k mu hm ms w.heap.size w W) := Lib.hid ⟨⟨HA.out.below hb, hq0, hb.mono hlw, hlw, hg⟩, ⟨LogSt.below HL.out hb, by rw [← hW]; exact Own.new _ _ _⟩⟩
  clear hW hb HA HL
  go_step3
  go_wp2_with fail
  go_step3
  go_wp2_with fail
  go_loopw [13] (fun _ wr => ∃ (q : Nat), Hid (Sx B g s m lo w q wr ∧ Lo g m lo k mu hm ms w.heap.size w wr)) (fun _ wr => s.size + 1 - lenAt g wr)
  case atStart => exact ⟨q0, HS⟩
  case round =>
    clear HS
    obtain ⟨q, HS⟩ := hrel
    obtain ⟨wo, rfl⟩ : ∃ wo : World, wo = wr := ⟨_, rfl⟩
    have c35 := HS.out.1.ax.cell
    have hqs1 := HS.out.1.ax.hq
    have hmq := HS.out.1.mq
    have hw3 : 3 ≤ wo.heap.size := Nat.le_trans hlo (Nat.le_trans hlw HS.out.1.bl.size)
    by_cases h41 : cpOf s q = 41
    focus
      obtain ⟨l1, b1, k1⟩ := cp_asc h41 (by omega) (by omega)
      rw [h41] at c35
      have HB1 : Hid (bt s q = 41) := Lib.hid b1
      clear b1 h41
      go_wp2_with fail
      refine (stepA g s _ q _ HS.out.1.ax (HS.out.1.tabs HT.out hlo) hw3 hs (by omega) (by omega)).mono ?_
      rintro e w2 ⟨rfl, h2, f2⟩
      rw [k1] at h2
      have HS2 := Lib.hid (HS.out.1.step h2 f2 (by omega))
      clear h2 f2 HS c35 k1
      go_wp2_with fail
      rw [Exit.noGoto_ret]
      go_ret
      exact HS2.out.url 37 (.inl rfl) (.inr ⟨by omega, by simpa using HB1.out⟩)

    by_cases hx : cpOf s q = -1
    focus
      have HQ := Lib.hid (cp_end hqs1 hx)
      rw [hx] at c35
      clear hx h41

      have c36 := HS.out.1.ax.cell36
      have c37 := HS.out.1.ax.cell37
      have HO : Hid (∀ o3, o3 ≤ s.size → (∀ p, m ≤ p → p < o3 → 128 ≤ bt s p) → o3 ≤ q) := Lib.hid (by intro o3 h1 h2; have := HQ.out; omega)

      go_wp2_with fail
      refine (end44 _ _ (by omega) (by omega) (by omega) (by omega) _).mono ?_
      rintro e w2 ⟨rfl, hb2⟩
      rw [show (m : Int) + 1 + ((q : Int) - ((m : Int) + 1)) = (q : Int) by omega]
      have HS2 : Hid (Sx B g s m lo w q w2 ∧ Lo g m lo k mu hm ms w.heap.size w w2) := Lib.hid ⟨HS.out.1.below hb2, HS.out.2.below hb2⟩
      clear hb2 HS c35 c36 c37
      go_upto_region 11 with fail
      generalize hV : w2.alloc _ = V
      have hb3 : Below w2.heap.size w2 V := by rw [← hV]; exact (Below.refl _ _).alloc (Nat.le_refl _) _
      have HP5 : Hid (Own V w2.heap.size 29 #[.int .i32 q]) := Lib.hid (by rw [← hV]; exact Own.new _ _ _)
      have HS3 : Hid (Sx B g s m lo w q V ∧ Lo g m lo k mu hm ms w.heap.size w V) := Lib.hid ⟨HS2.out.1.below hb3, HS2.out.2.below hb3⟩
      obtain ⟨cs, hK, hR, hAX⟩ := Ax.open HS3.out.1.ax HBB.out
      have HK := Lib.hid hK
      have HR := Lib.hid hR
      have HAX := Lib.hid hAX
      have hV3 : 3 ≤ V.heap.size := Nat.le_trans hlo (Nat.le_trans hlw HS3.out.1.bl.size)
      generalize w2.heap.size = p5 at HP5
      have HSC : Hid (∀ (V' : World) (c : Array Value), Own V' g 64 c → Same cs c → Own V' p5 29 #[.int .i32 q] → Own V' w.heap.size 29 #[.int .i32 m] → V'.cell? ⟨g, 1, none⟩ = some (.func (.func 78) #[] #[.pointer (some ⟨k, 0, none⟩), .pointer (some ⟨mu, 0, none⟩), .pointer (some ⟨hm, 0, none⟩), .pointer (some ⟨ms, 0, none⟩)]) ∧ V'.cell? ⟨g, 2, none⟩ = some (.func (.func 81) #[] #[.pointer (some ⟨mu, 0, none⟩), .pointer (some ⟨hm, 0, none⟩)]) ∧ V'.cell? ⟨g, 3, none⟩ = some (.func (.func 82) #[] #[.pointer (some ⟨mu, 0, none⟩), .pointer (some ⟨ms, 0, none⟩)]) ∧ V'.cell? ⟨g, 4, none⟩ = some (.func (.func 83) #[] #[.pointer (some ⟨mu, 0, none⟩), .pointer (some ⟨ms, 0, none⟩)]) ∧ V'.cell? ⟨g, 5, none⟩ = some (.int .i8 3) ∧ V'.cell? ⟨g, 6, none⟩ = some (.map none) ∧ V'.cell? ⟨p5, 0, none⟩ = some (.int .i32 q) ∧ V'.cell? ⟨w.heap.size, 0, none⟩ = some (.int .i32 m)) := Lib.hid fun V' c ho hsm h5 hp => ⟨(ho.cell 1).trans ((hsm 1 (by omega)).trans ((HR.out 1 (by omega) (by omega) (by omega) (by omega)).trans HBB.out.b1)), (ho.cell 2).trans ((hsm 2 (by omega)).trans ((HR.out 2 (by omega) (by omega) (by omega) (by omega)).trans HBB.out.b2)), (ho.cell 3).trans ((hsm 3 (by omega)).trans ((HR.out 3 (by omega) (by omega) (by omega) (by omega)).trans HBB.out.b3)), (ho.cell 4).trans ((hsm 4 (by omega)).trans ((HR.out 4 (by omega) (by omega) (by omega) (by omega)).trans HBB.out.b4)), (ho.cell 5).trans ((hsm 5 (by omega)).trans ((HR.out 5 (by omega) (by omega) (by omega) (by omega)).trans HBB.out.b5)), (ho.cell 6).trans ((hsm 6 (by omega)).trans ((HR.out 6 (by omega) (by omega) (by omega) (by omega)).trans HBB.out.b6)), (h5.cell 0).trans rfl, (hp.cell 0).trans rfl⟩
      have NP5 : Hid (p5 ≠ g) := Lib.hid (own_ne HP5.out HK.out.tr.own (by decide))
      have NPL : Hid (w.heap.size ≠ g) := Lib.hid (own_ne HS3.out.2.loc HK.out.tr.own (by decide))
      have KQ : Hid (∀ (V0 V1 : World) (p : Nat) (t : TypeId) (c : Array Value), Own V0 p t c → Own V0 g 64 cs → V0.grownBy V1 (some g) → t ≠ 64 → Own V1 p t c) := Lib.hid fun V0 V1 p t c ho hq hg ht => (hg.block p ho.lt (fun e => own_ne ho hq ht (Option.some.inj e))).trans ho
      clear hb3 hV hK hR hAX HS2
      have HT3 := Lib.hid (HS3.out.1.tabs HT.out hlo)
      have hg3 : 3 ≤ g := Nat.le_trans hlo hg

      go_region_held3 (fun V' => V'.cell? ⟨g, 1, none⟩ = some (.func (.func 78) #[] #[.pointer (some ⟨k, 0, none⟩), .pointer (some ⟨mu, 0, none⟩), .pointer (some ⟨hm, 0, none⟩), .pointer (some ⟨ms, 0, none⟩)]) ∧ V'.cell? ⟨g, 2, none⟩ = some (.func (.func 81) #[] #[.pointer (some ⟨mu, 0, none⟩), .pointer (some ⟨hm, 0, none⟩)]) ∧ V'.cell? ⟨g, 3, none⟩ = some (.func (.func 82) #[] #[.pointer (some ⟨mu, 0, none⟩), .pointer (some ⟨ms, 0, none⟩)]) ∧ V'.cell? ⟨g, 4, none⟩ = some (.func (.func 83) #[] #[.pointer (some ⟨mu, 0, none⟩), .pointer (some ⟨ms, 0, none⟩)]) ∧ V'.cell? ⟨g, 5, none⟩ = some (.int .i8 3) ∧ V'.cell? ⟨g, 6, none⟩ = some (.map none) ∧ V'.cell? ⟨p5, 0, none⟩ = some (.int .i32 q) ∧ V'.cell? ⟨w.heap.size, 0, none⟩ = some (.int .i32 m))
        (first
          | assumption
          | exact HSC.out _ _ ho4 (hk3.same.trans hs4) (hk4 _ _ _ ((KQ.out _ _ _ _ _ HP5.out.drew HK.out.tr.own.drew hk3.gr (by decide)).alloc _) NP5.out (by decide) (by decide) (by decide) (by decide)) (hk4 _ _ _ ((KQ.out _ _ _ _ _ HS3.out.2.loc.drew HK.out.tr.own.drew hk3.gr (by decide)).alloc _) NPL.out (by decide) (by decide) (by decide) (by decide))
          | exact HSC.out _ _ (hk3.tr.own.alloc _) hk3.same ((KQ.out _ _ _ _ _ HP5.out.drew HK.out.tr.own.drew hk3.gr (by decide)).alloc _) ((KQ.out _ _ _ _ _ HS3.out.2.loc.drew HK.out.tr.own.drew hk3.gr (by decide)).alloc _)
          | exact HSC.out _ _ hk3.tr.own hk3.same (KQ.out _ _ _ _ _ HP5.out.drew HK.out.tr.own.drew hk3.gr (by decide)) (KQ.out _ _ _ _ _ HS3.out.2.loc.drew HK.out.tr.own.drew hk3.gr (by decide))
          | exact HSC.out _ _ HK.out.tr.own.drew (Same.refl _) HP5.out.drew HS3.out.2.loc.drew)
        (first
          | (go_at_call 60; refine (dat60 g cs s m 0 0 0 0 false 1 _ _ (HK.out.below (below_drewN (Below.refl _ _) 1)).start (Nat.zero_le _) (by omega) hs (by omega) (by omega) (tabs_gr HT3.out hg3 hV3 (grown_of_below (below_drewN (Below.refl _ _) 1) (some g))) hg3 hV3).mono ?_; rintro e3 w3 ⟨⟨l, rfl⟩, cs3, o3, ln3, ls3, le3, hk3, ho3, hc3⟩)
          | (go_at_call 59; refine (addIDN59 g cs3 s q o3 ln3 ls3 le3 true 0 _ _ _ _ k mu hm ms lo 0 _ [] _ (LogSt.below (LogSt.grown (LogSt.below HS3.out.2.log (below_drewN (Below.refl _ _) 1)) hk3.gr HK.out.tr.own.drew) ((Below.refl _ _).alloc (Nat.le_refl _) _)) (by omega) hg (hk3.start.below ((Below.refl _ _).alloc (Nat.le_refl _) _)).start (HO.out o3 hk3.ho hc3) (by omega) hs (by omega) (by omega) (tabs_gr (tabs_gr (tabs_gr HT3.out hg3 hV3 (grown_of_below (below_drewN (Below.refl _ _) 1) (some g))) hg3 hV3 hk3.gr) hg3 (Nat.le_trans hV3 hk3.gr.size) (grown_of_below ((Below.refl _ _).alloc (Nat.le_refl _) _) (some g))) hg3 (Nat.le_trans (Nat.le_trans hV3 hk3.gr.size) ((Below.refl _ _).alloc (Nat.le_refl _) _).size)).mono ?_; rintro e4 w4 ⟨rfl, ⟨cs4, ho4, hs4, hz4⟩, hb4, hk4⟩))
      have HS4 : Hid (Sx (fun i : Nat => cs4[i]?) g s m lo w q w4) := Lib.hid ⟨HAX.out _ _ ho4 (hk3.same.trans hs4) hz4, by omega, Below.trans (Below.alloc (gr_below (below_drewN HS3.out.1.bl 1) hlw hk3.gr hg) (Nat.le_trans hlw (Nat.le_trans HS3.out.1.bl.size hk3.gr.size)) _) hb4, hlw, hg⟩
      clear hs4 hb4 hk4 hk3 ho3 hc3 KQ
      generalize (fun i : Nat => cs4[i]?) = B4 at HS4
      clear ho4 hz4 HAX HK HR HSC HP5 NP5 NPL HT3 HS3 HO
      go_wp2_with fail
      rw [Exit.noGoto_ret]
      go_ret
      exact HS4.out.url 37 (.inl rfl) (.inl HQ.out)

    by_cases hw : cpOf s q = 32 ∨ cpOf s q = 9 ∨ cpOf s q = 10 ∨ cpOf s q = 13 ∨ cpOf s q = 12
    focus
      rcases hw with hc | hc | hc | hc | hc
      focus
        obtain ⟨l1, b1, k1⟩ := cp_asc hc (by omega) (by omega)
        have HB1 : Hid (bt s q < 128) := Lib.hid (by omega)
        rw [hc] at c35
        clear b1 hc h41 hx
        go_wp2_with fail
        refine (stepA g s _ q _ HS.out.1.ax (HS.out.1.tabs HT.out hlo) hw3 hs (by omega) (by omega)).mono ?_
        rintro e w2 ⟨rfl, h2, f2⟩
        rw [k1] at h2
        have HS2 : Hid ((Sx B g s m lo w (q + 1) w2 ∧ Lo g m lo k mu hm ms w.heap.size w w2) ∧ bt s (q + 1 - 1) < 128) := Lib.hid ⟨⟨HS.out.1.step h2 f2 (by omega), HS.out.2.step HS.out.1.ax f2⟩, by simpa using HB1.out⟩
        clear h2 f2 HS c35 k1 HB1
        go_wp2_with fail
        go_loopw [80] (fun _ wr => ∃ (q2 : Nat), q + 1 ≤ q2 ∧ Hid ((Sx B g s m lo w q2 wr ∧ Lo g m lo k mu hm ms w.heap.size w wr) ∧ bt s (q2 - 1) < 128)) (fun _ wr => s.size + 1 - lenAt g wr)
        case atStart => exact ⟨q + 1, Nat.le_refl _, HS2⟩
        case round =>
          clear HS2
          obtain ⟨q2, hq2, HSB⟩ := hrel
          obtain ⟨wi, rfl⟩ : ∃ wi : World, wi = wr := ⟨_, rfl⟩
          have HS := Lib.hid HSB.out.1
          have HB := Lib.hid HSB.out.2
          have c35 := HS.out.1.ax.cell
          have hqs2 := HS.out.1.ax.hq
          have hwi : 3 ≤ wi.heap.size := Nat.le_trans hlo (Nat.le_trans hlw HS.out.1.bl.size)
          have HM := Lib.hid (len_at HS.out.1.ax)
          clear HSB
          go_wp2_with fail
          refine (isWs (cpOf s q2) _).mono ?_
          rintro e w3 ⟨rfl, rfl⟩
          cases hws : wsB (cpOf s q2)
          focus
            by_cases h41 : cpOf s q2 = 41
            focus
              obtain ⟨l2, b2, k2⟩ := cp_asc h41 (by omega) (by omega)
              have HB2 : Hid (bt s q2 = 41) := Lib.hid b2
              rw [h41] at c35
              clear b2 h41 hws
              go_wp2_with fail
              refine (stepA g s _ q2 _ HS.out.1.ax (HS.out.1.tabs HT.out hlo) hwi hs (by omega) (by omega)).mono ?_
              rintro e w4 ⟨rfl, h4, f4⟩
              rw [k2] at h4
              have HS4 := Lib.hid (HS.out.1.step h4 f4 (by omega))
              clear h4 f4 HS c35 k2
              go_wp2_with fail
              rw [Exit.noGoto_ret]
              go_ret

              exact HS4.out.url 37 (.inl rfl) (.inr ⟨by omega, by simpa using HB2.out⟩)
            focus
              have t41 : (cpOf s q2 != 41) = true := bne_iff_ne.2 h41
              clear h41 hws
              have hmq2 := HS.out.1.mq
              have c36 := HS.out.1.ax.cell36
              have c37 := HS.out.1.ax.cell37
              have HO : Hid (∀ o3, o3 ≤ s.size → (∀ p, m ≤ p → p < o3 → 128 ≤ bt s p) → o3 ≤ q2) := Lib.hid (by intro o3 h1 h2; have := HB.out; rcases Nat.lt_or_ge (q2 - 1) o3 with h3 | h3; (have := h2 (q2 - 1) (by omega) h3; omega); omega)

              go_wp2_with fail
              refine (end44 _ _ (by omega) (by omega) (by omega) (by omega) _).mono ?_
              rintro e w2 ⟨rfl, hb2⟩
              rw [show (m : Int) + 1 + ((q2 : Int) - ((m : Int) + 1)) = (q2 : Int) by omega]
              have HS2 : Hid (Sx B g s m lo w q2 w2 ∧ Lo g m lo k mu hm ms w.heap.size w w2) := Lib.hid ⟨HS.out.1.below hb2, HS.out.2.below hb2⟩
              clear hb2 HS c35 c36 c37
              go_upto_region 23 with fail
              generalize hV : w2.alloc _ = V
              have hb3 : Below w2.heap.size w2 V := by rw [← hV]; exact (Below.refl _ _).alloc (Nat.le_refl _) _
              have HP5 : Hid (Own V w2.heap.size 29 #[.int .i32 q2]) := Lib.hid (by rw [← hV]; exact Own.new _ _ _)
              have HS3 : Hid (Sx B g s m lo w q2 V ∧ Lo g m lo k mu hm ms w.heap.size w V) := Lib.hid ⟨HS2.out.1.below hb3, HS2.out.2.below hb3⟩
              obtain ⟨cs, hK, hR, hAX⟩ := Ax.open HS3.out.1.ax HBB.out
              have HK := Lib.hid hK
              have HR := Lib.hid hR
              have HAX := Lib.hid hAX
              have hV3 : 3 ≤ V.heap.size := Nat.le_trans hlo (Nat.le_trans hlw HS3.out.1.bl.size)
              generalize w2.heap.size = p5 at HP5
              have HSC : Hid (∀ (V' : World) (c : Array Value), Own V' g 64 c → Same cs c → Own V' p5 29 #[.int .i32 q2] → Own V' w.heap.size 29 #[.int .i32 m] → V'.cell? ⟨g, 1, none⟩ = some (.func (.func 78) #[] #[.pointer (some ⟨k, 0, none⟩), .pointer (some ⟨mu, 0, none⟩), .pointer (some ⟨hm, 0, none⟩), .pointer (some ⟨ms, 0, none⟩)]) ∧ V'.cell? ⟨g, 2, none⟩ = some (.func (.func 81) #[] #[.pointer (some ⟨mu, 0, none⟩), .pointer (some ⟨hm, 0, none⟩)]) ∧ V'.cell? ⟨g, 3, none⟩ = some (.func (.func 82) #[] #[.pointer (some ⟨mu, 0, none⟩), .pointer (some ⟨ms, 0, none⟩)]) ∧ V'.cell? ⟨g, 4, none⟩ = some (.func (.func 83) #[] #[.pointer (some ⟨mu, 0, none⟩), .pointer (some ⟨ms, 0, none⟩)]) ∧ V'.cell? ⟨g, 5, none⟩ = some (.int .i8 3) ∧ V'.cell? ⟨g, 6, none⟩ = some (.map none) ∧ V'.cell? ⟨p5, 0, none⟩ = some (.int .i32 q2) ∧ V'.cell? ⟨w.heap.size, 0, none⟩ = some (.int .i32 m)) := Lib.hid fun V' c ho hsm h5 hp => ⟨(ho.cell 1).trans ((hsm 1 (by omega)).trans ((HR.out 1 (by omega) (by omega) (by omega) (by omega)).trans HBB.out.b1)), (ho.cell 2).trans ((hsm 2 (by omega)).trans ((HR.out 2 (by omega) (by omega) (by omega) (by omega)).trans HBB.out.b2)), (ho.cell 3).trans ((hsm 3 (by omega)).trans ((HR.out 3 (by omega) (by omega) (by omega) (by omega)).trans HBB.out.b3)), (ho.cell 4).trans ((hsm 4 (by omega)).trans ((HR.out 4 (by omega) (by omega) (by omega) (by omega)).trans HBB.out.b4)), (ho.cell 5).trans ((hsm 5 (by omega)).trans ((HR.out 5 (by omega) (by omega) (by omega) (by omega)).trans HBB.out.b5)), (ho.cell 6).trans ((hsm 6 (by omega)).trans ((HR.out 6 (by omega) (by omega) (by omega) (by omega)).trans HBB.out.b6)), (h5.cell 0).trans rfl, (hp.cell 0).trans rfl⟩
              have NP5 : Hid (p5 ≠ g) := Lib.hid (own_ne HP5.out HK.out.tr.own (by decide))
              have NPL : Hid (w.heap.size ≠ g) := Lib.hid (own_ne HS3.out.2.loc HK.out.tr.own (by decide))
              have KQ : Hid (∀ (V0 V1 : World) (p : Nat) (t : TypeId) (c : Array Value), Own V0 p t c → Own V0 g 64 cs → V0.grownBy V1 (some g) → t ≠ 64 → Own V1 p t c) := Lib.hid fun V0 V1 p t c ho hq hg ht => (hg.block p ho.lt (fun e => own_ne ho hq ht (Option.some.inj e))).trans ho
              clear hb3 hV hK hR hAX HS2
              have HT3 := Lib.hid (HS3.out.1.tabs HT.out hlo)
              have hg3 : 3 ≤ g := Nat.le_trans hlo hg

              go_region_held3 (fun V' => V'.cell? ⟨g, 1, none⟩ = some (.func (.func 78) #[] #[.pointer (some ⟨k, 0, none⟩), .pointer (some ⟨mu, 0, none⟩), .pointer (some ⟨hm, 0, none⟩), .pointer (some ⟨ms, 0, none⟩)]) ∧ V'.cell? ⟨g, 2, none⟩ = some (.func (.func 81) #[] #[.pointer (some ⟨mu, 0, none⟩), .pointer (some ⟨hm, 0, none⟩)]) ∧ V'.cell? ⟨g, 3, none⟩ = some (.func (.func 82) #[] #[.pointer (some ⟨mu, 0, none⟩), .pointer (some ⟨ms, 0, none⟩)]) ∧ V'.cell? ⟨g, 4, none⟩ = some (.func (.func 83) #[] #[.pointer (some ⟨mu, 0, none⟩), .pointer (some ⟨ms, 0, none⟩)]) ∧ V'.cell? ⟨g, 5, none⟩ = some (.int .i8 3) ∧ V'.cell? ⟨g, 6, none⟩ = some (.map none) ∧ V'.cell? ⟨p5, 0, none⟩ = some (.int .i32 q2) ∧ V'.cell? ⟨w.heap.size, 0, none⟩ = some (.int .i32 m))
                (first
                  | assumption
                  | exact HSC.out _ _ ho4 (hk3.same.trans hs4) (hk4 _ _ _ ((KQ.out _ _ _ _ _ HP5.out.drew HK.out.tr.own.drew hk3.gr (by decide)).alloc _) NP5.out (by decide) (by decide) (by decide) (by decide)) (hk4 _ _ _ ((KQ.out _ _ _ _ _ HS3.out.2.loc.drew HK.out.tr.own.drew hk3.gr (by decide)).alloc _) NPL.out (by decide) (by decide) (by decide) (by decide))
                  | exact HSC.out _ _ (hk3.tr.own.alloc _) hk3.same ((KQ.out _ _ _ _ _ HP5.out.drew HK.out.tr.own.drew hk3.gr (by decide)).alloc _) ((KQ.out _ _ _ _ _ HS3.out.2.loc.drew HK.out.tr.own.drew hk3.gr (by decide)).alloc _)
                  | exact HSC.out _ _ hk3.tr.own hk3.same (KQ.out _ _ _ _ _ HP5.out.drew HK.out.tr.own.drew hk3.gr (by decide)) (KQ.out _ _ _ _ _ HS3.out.2.loc.drew HK.out.tr.own.drew hk3.gr (by decide))
                  | exact HSC.out _ _ HK.out.tr.own.drew (Same.refl _) HP5.out.drew HS3.out.2.loc.drew)
                (first
                  | (go_at_call 60; refine (dat60 g cs s m 0 0 0 0 false 1 _ _ (HK.out.below (below_drewN (Below.refl _ _) 1)).start (Nat.zero_le _) (by omega) hs (by omega) (by omega) (tabs_gr HT3.out hg3 hV3 (grown_of_below (below_drewN (Below.refl _ _) 1) (some g))) hg3 hV3).mono ?_; rintro e3 w3 ⟨⟨l, rfl⟩, cs3, o3, ln3, ls3, le3, hk3, ho3, hc3⟩)
                  | (go_at_call 59; refine (addIDN59 g cs3 s q2 o3 ln3 ls3 le3 true 0 _ _ _ _ k mu hm ms lo 0 _ [] _ (LogSt.below (LogSt.grown (LogSt.below HS3.out.2.log (below_drewN (Below.refl _ _) 1)) hk3.gr HK.out.tr.own.drew) ((Below.refl _ _).alloc (Nat.le_refl _) _)) (by omega) hg (hk3.start.below ((Below.refl _ _).alloc (Nat.le_refl _) _)).start (HO.out o3 hk3.ho hc3) (by omega) hs (by omega) (by omega) (tabs_gr (tabs_gr (tabs_gr HT3.out hg3 hV3 (grown_of_below (below_drewN (Below.refl _ _) 1) (some g))) hg3 hV3 hk3.gr) hg3 (Nat.le_trans hV3 hk3.gr.size) (grown_of_below ((Below.refl _ _).alloc (Nat.le_refl _) _) (some g))) hg3 (Nat.le_trans (Nat.le_trans hV3 hk3.gr.size) ((Below.refl _ _).alloc (Nat.le_refl _) _).size)).mono ?_; rintro e4 w4 ⟨rfl, ⟨cs4, ho4, hs4, hz4⟩, hb4, hk4⟩))
              have HS4 : Hid (Sx (fun i : Nat => cs4[i]?) g s m lo w q2 w4) := Lib.hid ⟨HAX.out _ _ ho4 (hk3.same.trans hs4) hz4, by omega, Below.trans (Below.alloc (gr_below (below_drewN HS3.out.1.bl 1) hlw hk3.gr hg) (Nat.le_trans hlw (Nat.le_trans HS3.out.1.bl.size hk3.gr.size)) _) hb4, hlw, hg⟩
              clear hs4 hb4 hk4 hk3 ho3 hc3 KQ
              generalize (fun i : Nat => cs4[i]?) = B4 at HS4
              clear ho4 hz4 HAX HK HR HSC HP5 NP5 NPL HT3 HS3 HO

              have c35 := HS4.out.ax.cell
              by_cases hx : cpOf s q2 = -1
              focus
                have HQ2 := Lib.hid (cp_end hqs2 hx)
                rw [hx] at c35
                clear hx
                go_wp2_with fail
                rw [Exit.noGoto_ret]
                go_ret

                exact HS4.out.url 37 (.inl rfl) (.inl HQ2.out)
              focus
                have tx : (cpOf s q2 == -1) = false := beq_eq_false_iff_ne.2 hx
                clear hx
                go_wp2_with fail
                clear c35 tx HB HM
                go_loopw [174] (fun _ wr => ∃ (q : Nat), Hid (Sx B4 g s m lo w q wr)) (fun _ wr => s.size + 1 - lenAt g wr)
                case atStart => exact ⟨q2, HS4⟩
                case round =>
                  clear HS4
                  obtain ⟨r, HS⟩ := hrel
                  obtain ⟨wp, rfl⟩ : ∃ wp : World, wp = wr := ⟨_, rfl⟩
                  have c35 := HS.out.ax.cell
                  have hrs := HS.out.ax.hq
                  have hmr := HS.out.mq
                  have hp3 : 3 ≤ wp.heap.size := Nat.le_trans hlo (Nat.le_trans hlw HS.out.bl.size)
                  have HM := Lib.hid (len_at HS.out.ax)
                  by_cases r41 : cpOf s r = 41
                  focus
                    obtain ⟨l1, b1, k1⟩ := cp_asc r41 (by omega) (by omega)
                    rw [r41] at c35
                    have HB1 : Hid (bt s r = 41) := Lib.hid b1
                    clear b1 r41
                    go_wp2_with fail
                    refine (stepA g s _ r _ HS.out.ax (HS.out.tabs HT.out hlo) hp3 hs (by omega) (by omega)).mono ?_
                    rintro e w2 ⟨rfl, h2, f2⟩
                    rw [k1] at h2
                    have HS2 := Lib.hid (HS.out.step h2 f2 (by omega))
                    clear h2 f2 HS c35 k1
                    go_wp2_with fail
                    rw [Exit.noGoto_ret]
                    go_ret
                    exact HS2.out.url 3 (.inr rfl) (.inr ⟨by omega, by simpa using HB1.out⟩)
                  by_cases rx : cpOf s r = -1
                  focus
                    have HQ2 := Lib.hid (cp_end hrs rx)
                    rw [rx] at c35
                    clear rx r41
                    go_wp2_with fail
                    refine (stepA g s _ r _ HS.out.ax (HS.out.tabs HT.out hlo) hp3 hs (by omega) (by omega)).mono ?_
                    rintro e w2 ⟨rfl, h2, f2⟩
                    rw [(cp_out (s := s) (q := r) (by have := HQ2.out; omega)).2, Nat.add_zero] at h2
                    have HS2 := Lib.hid (HS.out.step h2 f2 (Nat.le_refl _))
                    clear h2 f2 HS c35
                    go_wp2_with fail
                    rw [Exit.noGoto_ret]
                    go_ret
                    exact HS2.out.url 3 (.inr rfl) (.inl HQ2.out)
                  obtain ⟨l1, k1⟩ := cp_more rx
                  have hw1 := (cp_rng s r hrs).2.2
                  by_cases r92 : cpOf s r = 92
                  focus
                    obtain ⟨_, b1, _⟩ := cp_asc r92 (by omega) (by omega)
                    rw [r92] at c35
                    have HB1 : Hid (bt s r = 92) := Lib.hid b1
                    clear b1 r41 rx r92
                    go_wp2_with fail
                    refine (valid61 g s _ r _ HS.out.ax (HS.out.tabs HT.out hlo) hp3 hs).mono ?_
                    rintro e w2 ⟨⟨b, rfl⟩, hb2⟩
                    have hz2 := hb2.size
                    have HS2 := Lib.hid (HS.out.below hb2)
                    clear hb2 HS c35
                    cases b
                    focus
                      go_wp2_with fail
                      refine (stepA g s _ r _ HS2.out.ax (HS2.out.tabs HT.out hlo) (Nat.le_trans hp3 hz2) hs (by omega) (by omega)).mono ?_
                      rintro e w3 ⟨rfl, h3, f3⟩
                      have HM3 := Lib.hid (len_at h3)
                      have HS3 := Lib.hid (HS2.out.step h3 f3 (Nat.le_add_right _ _))
                      clear h3 f3 HS2
                      go_wp2_with fail
                      go_roundw
                      case rel => exact ⟨_, HS3⟩
                      case measure => rw [HM3.out, HM.out]; omega
                    focus
                      go_wp2_with fail
                      refine (escape g s _ r _ HS2.out.ax (HS2.out.tabs HT.out hlo) (Nat.le_trans hlo hg) (Nat.le_trans hp3 hz2) hs (by omega) (by omega) l1 HB1.out).mono ?_
                      rintro e w3 ⟨rfl, h3, f3⟩
                      have hd := stepD_le l1
                      have hz3 := f3.size
                      have HS3 := Lib.hid (HS2.out.step h3 f3 (Nat.le_of_lt hd.1))
                      clear h3 f3 HS2
                      generalize (stepD s r).1 = r2 at *
                      generalize (stepD s r).2 = rv at *
                      have hw2 := (cp_rng s r2 hd.2).2.2
                      go_wp2_with fail
                      refine (stepA g s _ r2 _ HS3.out.ax (HS3.out.tabs HT.out hlo) (Nat.le_trans hp3 (Nat.le_trans hz2 hz3)) hs (by omega) (by omega)).mono ?_
                      rintro e w4 ⟨rfl, h4, f4⟩
                      have HM4 := Lib.hid (len_at h4)
                      have HS4 := Lib.hid (HS3.out.step h4 f4 (Nat.le_add_right _ _))
                      clear h4 f4 HS3
                      go_wp2_with fail
                      go_roundw
                      case rel => exact ⟨_, HS4⟩
                      case measure => rw [HM4.out, HM.out]; omega
                  focus
                    have t41 : (cpOf s r == 41) = false := beq_eq_false_iff_ne.2 r41
                    have tx : (cpOf s r == -1) = false := beq_eq_false_iff_ne.2 rx
                    have t92 : (cpOf s r == 92) = false := beq_eq_false_iff_ne.2 r92
                    clear r41 rx r92
                    go_wp2_with fail
                    refine (stepA g s _ r _ HS.out.ax (HS.out.tabs HT.out hlo) hp3 hs (by omega) (by omega)).mono ?_
                    rintro e w3 ⟨rfl, h3, f3⟩
                    have HM3 := Lib.hid (len_at h3)
                    have HS3 := Lib.hid (HS.out.step h3 f3 (Nat.le_add_right _ _))
                    clear h3 f3 HS c35
                    go_wp2_with fail
                    go_roundw
                    case rel => exact ⟨_, HS3⟩
                    case measure => rw [HM3.out, HM.out]; omega

          focus
            have hcs : cpOf s q2 = 32 ∨ cpOf s q2 = 9 ∨ cpOf s q2 = 10 ∨ cpOf s q2 = 13 ∨ cpOf s q2 = 12 := by
              unfold wsB at hws
              simpa [or_assoc] using hws
            obtain ⟨l2, b2, k2⟩ := cp_asc (c := cpOf s q2) rfl (by omega) (by omega)
            have HB2 : Hid (bt s q2 < 128) := Lib.hid (by omega)
            clear b2 hcs hws
            go_wp2_with fail
            refine (stepA g s _ q2 _ HS.out.1.ax (HS.out.1.tabs HT.out hlo) hwi hs (by omega) (by omega)).mono ?_
            rintro e w4 ⟨rfl, h4, f4⟩
            rw [k2] at h4
            have HM4 := Lib.hid (len_at h4)
            have HS4 : Hid ((Sx B g s m lo w (q2 + 1) w4 ∧ Lo g m lo k mu hm ms w.heap.size w w4) ∧ bt s (q2 + 1 - 1) < 128) := Lib.hid ⟨⟨HS.out.1.step h4 f4 (by omega), HS.out.2.step HS.out.1.ax f4⟩, by simpa using HB2.out⟩
            have hmq2 := HS.out.1.mq
            clear h4 f4 HS c35 k2
            go_wp2_with fail
            go_roundw
            case rel => exact ⟨q2 + 1, by omega, HS4⟩
            case measure => rw [HM4.out, HM.out]; omega
      focus
        obtain ⟨l1, b1, k1⟩ := cp_asc hc (by omega) (by omega)
        have HB1 : Hid (bt s q < 128) := Lib.hid (by omega)
        rw [hc] at c35
        clear b1 hc h41 hx
        go_wp2_with fail
        refine (stepA g s _ q _ HS.out.1.ax (HS.out.1.tabs HT.out hlo) hw3 hs (by omega) (by omega)).mono ?_
        rintro e w2 ⟨rfl, h2, f2⟩
        rw [k1] at h2
        have HS2 : Hid ((Sx B g s m lo w (q + 1) w2 ∧ Lo g m lo k mu hm ms w.heap.size w w2) ∧ bt s (q + 1 - 1) < 128) := Lib.hid ⟨⟨HS.out.1.step h2 f2 (by omega), HS.out.2.step HS.out.1.ax f2⟩, by simpa using HB1.out⟩
        clear h2 f2 HS c35 k1 HB1
        go_wp2_with fail
        go_loopw [80] (fun _ wr => ∃ (q2 : Nat), q + 1 ≤ q2 ∧ Hid ((Sx B g s m lo w q2 wr ∧ Lo g m lo k mu hm ms w.heap.size w wr) ∧ bt s (q2 - 1) < 128)) (fun _ wr => s.size + 1 - lenAt g wr)
        case atStart => exact ⟨q + 1, Nat.le_refl _, HS2⟩
        case round =>
          clear HS2
          obtain ⟨q2, hq2, HSB⟩ := hrel
          obtain ⟨wi, rfl⟩ : ∃ wi : World, wi = wr := ⟨_, rfl⟩
          have HS := Lib.hid HSB.out.1
          have HB := Lib.hid HSB.out.2
          have c35 := HS.out.1.ax.cell
          have hqs2 := HS.out.1.ax.hq
          have hwi : 3 ≤ wi.heap.size := Nat.le_trans hlo (Nat.le_trans hlw HS.out.1.bl.size)
          have HM := Lib.hid (len_at HS.out.1.ax)
          clear HSB
          go_wp2_with fail
          refine (isWs (cpOf s q2) _).mono ?_
          rintro e w3 ⟨rfl, rfl⟩
          cases hws : wsB (cpOf s q2)
          focus
            by_cases h41 : cpOf s q2 = 41
            focus
              obtain ⟨l2, b2, k2⟩ := cp_asc h41 (by omega) (by omega)
              have HB2 : Hid (bt s q2 = 41) := Lib.hid b2
              rw [h41] at c35
              clear b2 h41 hws
              go_wp2_with fail
              refine (stepA g s _ q2 _ HS.out.1.ax (HS.out.1.tabs HT.out hlo) hwi hs (by omega) (by omega)).mono ?_
              rintro e w4 ⟨rfl, h4, f4⟩
              rw [k2] at h4
              have HS4 := Lib.hid (HS.out.1.step h4 f4 (by omega))
              clear h4 f4 HS c35 k2
              go_wp2_with fail
              rw [Exit.noGoto_ret]
              go_ret

              exact HS4.out.url 37 (.inl rfl) (.inr ⟨by omega, by simpa using HB2.out⟩)
            focus
              have t41 : (cpOf s q2 != 41) = true := bne_iff_ne.2 h41
              clear h41 hws
              have hmq2 := HS.out.1.mq
              have c36 := HS.out.1.ax.cell36
              have c37 := HS.out.1.ax.cell37
              have HO : Hid (∀ o3, o3 ≤ s.size → (∀ p, m ≤ p → p < o3 → 128 ≤ bt s p) → o3 ≤ q2) := Lib.hid (by intro o3 h1 h2; have := HB.out; rcases Nat.lt_or_ge (q2 - 1) o3 with h3 | h3; (have := h2 (q2 - 1) (by omega) h3; omega); omega)

              go_wp2_with fail
              refine (end44 _ _ (by omega) (by omega) (by omega) (by omega) _).mono ?_
              rintro e w2 ⟨rfl, hb2⟩
              rw [show (m : Int) + 1 + ((q2 : Int) - ((m : Int) + 1)) = (q2 : Int) by omega]
              have HS2 : Hid (Sx B g s m lo w q2 w2 ∧ Lo g m lo k mu hm ms w.heap.size w w2) := Lib.hid ⟨HS.out.1.below hb2, HS.out.2.below hb2⟩
              clear hb2 HS c35 c36 c37
              go_upto_region 23 with fail
              generalize hV : w2.alloc _ = V
              have hb3 : Below w2.heap.size w2 V := by rw [← hV]; exact (Below.refl _ _).alloc (Nat.le_refl _) _
              have HP5 : Hid (Own V w2.heap.size 29 #[.int .i32 q2]) := Lib.hid (by rw [← hV]; exact Own.new _ _ _)
              have HS3 : Hid (Sx B g s m lo w q2 V ∧ Lo g m lo k mu hm ms w.heap.size w V) := Lib.hid ⟨HS2.out.1.below hb3, HS2.out.2.below hb3⟩
              obtain ⟨cs, hK, hR, hAX⟩ := Ax.open HS3.out.1.ax HBB.out
              have HK := Lib.hid hK
              have HR := Lib.hid hR
              have HAX := Lib.hid hAX
              have hV3 : 3 ≤ V.heap.size := Nat.le_trans hlo (Nat.le_trans hlw HS3.out.1.bl.size)
              generalize w2.heap.size = p5 at HP5
              have HSC : Hid (∀ (V' : World) (c : Array Value), Own V' g 64 c → Same cs c → Own V' p5 29 #[.int .i32 q2] → Own V' w.heap.size 29 #[.int .i32 m] → V'.cell? ⟨g, 1, none⟩ = some (.func (.func 78) #[] #[.pointer (some ⟨k, 0, none⟩), .pointer (some ⟨mu, 0, none⟩), .pointer (some ⟨hm, 0, none⟩), .pointer (some ⟨ms, 0, none⟩)]) ∧ V'.cell? ⟨g, 2, none⟩ = some (.func (.func 81) #[] #[.pointer (some ⟨mu, 0, none⟩), .pointer (some ⟨hm, 0, none⟩)]) ∧ V'.cell? ⟨g, 3, none⟩ = some (.func (.func 82) #[] #[.pointer (some ⟨mu, 0, none⟩), .pointer (some ⟨ms, 0, none⟩)]) ∧ V'.cell? ⟨g, 4, none⟩ = some (.func (.func 83) #[] #[.pointer (some ⟨mu, 0, none⟩), .pointer (some ⟨ms, 0, none⟩)]) ∧ V'.cell? ⟨g, 5, none⟩ = some (.int .i8 3) ∧ V'.cell? ⟨g, 6, none⟩ = some (.map none) ∧ V'.cell? ⟨p5, 0, none⟩ = some (.int .i32 q2) ∧ V'.cell? ⟨w.heap.size, 0, none⟩ = some (.int .i32 m)) := Lib.hid fun V' c ho hsm h5 hp => ⟨(ho.cell 1).trans ((hsm 1 (by omega)).trans ((HR.out 1 (by omega) (by omega) (by omega) (by omega)).trans HBB.out.b1)), (ho.cell 2).trans ((hsm 2 (by omega)).trans ((HR.out 2 (by omega) (by omega) (by omega) (by omega)).trans HBB.out.b2)), (ho.cell 3).trans ((hsm 3 (by omega)).trans ((HR.out 3 (by omega) (by omega) (by omega) (by omega)).trans HBB.out.b3)), (ho.cell 4).trans ((hsm 4 (by omega)).trans ((HR.out 4 (by omega) (by omega) (by omega) (by omega)).trans HBB.out.b4)), (ho.cell 5).trans ((hsm 5 (by omega)).trans ((HR.out 5 (by omega) (by omega) (by omega) (by omega)).trans HBB.out.b5)), (ho.cell 6).trans ((hsm 6 (by omega)).trans ((HR.out 6 (by omega) (by omega) (by omega) (by omega)).trans HBB.out.b6)), (h5.cell 0).trans rfl, (hp.cell 0).trans rfl⟩
              have NP5 : Hid (p5 ≠ g) := Lib.hid (own_ne HP5.out HK.out.tr.own (by decide))
              have NPL : Hid (w.heap.size ≠ g) := Lib.hid (own_ne HS3.out.2.loc HK.out.tr.own (by decide))
              have KQ : Hid (∀ (V0 V1 : World) (p : Nat) (t : TypeId) (c : Array Value), Own V0 p t c → Own V0 g 64 cs → V0.grownBy V1 (some g) → t ≠ 64 → Own V1 p t c) := Lib.hid fun V0 V1 p t c ho hq hg ht => (hg.block p ho.lt (fun e => own_ne ho hq ht (Option.some.inj e))).trans ho
              clear hb3 hV hK hR hAX HS2
              have HT3 := Lib.hid (HS3.out.1.tabs HT.out hlo)
              have hg3 : 3 ≤ g := Nat.le_trans hlo hg

              go_region_held3 (fun V' => V'.cell? ⟨g, 1, none⟩ = some (.func (.func 78) #[] #[.pointer (some ⟨k, 0, none⟩), .pointer (some ⟨mu, 0, none⟩), .pointer (some ⟨hm, 0, none⟩), .pointer (some ⟨ms, 0, none⟩)]) ∧ V'.cell? ⟨g, 2, none⟩ = some (.func (.func 81) #[] #[.pointer (some ⟨mu, 0, none⟩), .pointer (some ⟨hm, 0, none⟩)]) ∧ V'.cell? ⟨g, 3, none⟩ = some (.func (.func 82) #[] #[.pointer (some ⟨mu, 0, none⟩), .pointer (some ⟨ms, 0, none⟩)]) ∧ V'.cell? ⟨g, 4, none⟩ = some (.func (.func 83) #[] #[.pointer (some ⟨mu, 0, none⟩), .pointer (some ⟨ms, 0, none⟩)]) ∧ V'.cell? ⟨g, 5, none⟩ = some (.int .i8 3) ∧ V'.cell? ⟨g, 6, none⟩ = some (.map none) ∧ V'.cell? ⟨p5, 0, none⟩ = some (.int .i32 q2) ∧ V'.cell? ⟨w.heap.size, 0, none⟩ = some (.int .i32 m))
                (first
                  | assumption
                  | exact HSC.out _ _ ho4 (hk3.same.trans hs4) (hk4 _ _ _ ((KQ.out _ _ _ _ _ HP5.out.drew HK.out.tr.own.drew hk3.gr (by decide)).alloc _) NP5.out (by decide) (by decide) (by decide) (by decide)) (hk4 _ _ _ ((KQ.out _ _ _ _ _ HS3.out.2.loc.drew HK.out.tr.own.drew hk3.gr (by decide)).alloc _) NPL.out (by decide) (by decide) (by decide) (by decide))
                  | exact HSC.out _ _ (hk3.tr.own.alloc _) hk3.same ((KQ.out _ _ _ _ _ HP5.out.drew HK.out.tr.own.drew hk3.gr (by decide)).alloc _) ((KQ.out _ _ _ _ _ HS3.out.2.loc.drew HK.out.tr.own.drew hk3.gr (by decide)).alloc _)
                  | exact HSC.out _ _ hk3.tr.own hk3.same (KQ.out _ _ _ _ _ HP5.out.drew HK.out.tr.own.drew hk3.gr (by decide)) (KQ.out _ _ _ _ _ HS3.out.2.loc.drew HK.out.tr.own.drew hk3.gr (by decide))
                  | exact HSC.out _ _ HK.out.tr.own.drew (Same.refl _) HP5.out.drew HS3.out.2.loc.drew)
                (first
                  | (go_at_call 60; refine (dat60 g cs s m 0 0 0 0 false 1 _ _ (HK.out.below (below_drewN (Below.refl _ _) 1)).start (Nat.zero_le _) (by omega) hs (by omega) (by omega) (tabs_gr HT3.out hg3 hV3 (grown_of_below (below_drewN (Below.refl _ _) 1) (some g))) hg3 hV3).mono ?_; rintro e3 w3 ⟨⟨l, rfl⟩, cs3, o3, ln3, ls3, le3, hk3, ho3, hc3⟩)
                  | (go_at_call 59; refine (addIDN59 g cs3 s q2 o3 ln3 ls3 le3 true 0 _ _ _ _ k mu hm ms lo 0 _ [] _ (LogSt.below (LogSt.grown (LogSt.below HS3.out.2.log (below_drewN (Below.refl _ _) 1)) hk3.gr HK.out.tr.own.drew) ((Below.refl _ _).alloc (Nat.le_refl _) _)) (by omega) hg (hk3.start.below ((Below.refl _ _).alloc (Nat.le_refl _) _)).start (HO.out o3 hk3.ho hc3) (by omega) hs (by omega) (by omega) (tabs_gr (tabs_gr (tabs_gr HT3.out hg3 hV3 (grown_of_below (below_drewN (Below.refl _ _) 1) (some g))) hg3 hV3 hk3.gr) hg3 (Nat.le_trans hV3 hk3.gr.size) (grown_of_below ((Below.refl _ _).alloc (Nat.le_refl _) _) (some g))) hg3 (Nat.le_trans (Nat.le_trans hV3 hk3.gr.size) ((Below.refl _ _).alloc (Nat.le_refl _) _).size)).mono ?_; rintro e4 w4 ⟨rfl, ⟨cs4, ho4, hs4, hz4⟩, hb4, hk4⟩))
              have HS4 : Hid (Sx (fun i : Nat => cs4[i]?) g s m lo w q2 w4) := Lib.hid ⟨HAX.out _ _ ho4 (hk3.same.trans hs4) hz4, by omega, Below.trans (Below.alloc (gr_below (below_drewN HS3.out.1.bl 1) hlw hk3.gr hg) (Nat.le_trans hlw (Nat.le_trans HS3.out.1.bl.size hk3.gr.size)) _) hb4, hlw, hg⟩
              clear hs4 hb4 hk4 hk3 ho3 hc3 KQ
              generalize (fun i : Nat => cs4[i]?) = B4 at HS4
              clear ho4 hz4 HAX HK HR HSC HP5 NP5 NPL HT3 HS3 HO

              have c35 := HS4.out.ax.cell
              by_cases hx : cpOf s q2 = -1
              focus
                have HQ2 := Lib.hid (cp_end hqs2 hx)
                rw [hx] at c35
                clear hx
                go_wp2_with fail
                rw [Exit.noGoto_ret]
                go_ret

                exact HS4.out.url 37 (.inl rfl) (.inl HQ2.out)
              focus
                have tx : (cpOf s q2 == -1) = false := beq_eq_false_iff_ne.2 hx
                clear hx
                go_wp2_with fail
                clear c35 tx HB HM
                go_loopw [174] (fun _ wr => ∃ (q : Nat), Hid (Sx B4 g s m lo w q wr)) (fun _ wr => s.size + 1 - lenAt g wr)
                case atStart => exact ⟨q2, HS4⟩
                case round =>
                  clear HS4
                  obtain ⟨r, HS⟩ := hrel
                  obtain ⟨wp, rfl⟩ : ∃ wp : World, wp = wr := ⟨_, rfl⟩
                  have c35 := HS.out.ax.cell
                  have hrs := HS.out.ax.hq
                  have hmr := HS.out.mq
                  have hp3 : 3 ≤ wp.heap.size := Nat.le_trans hlo (Nat.le_trans hlw HS.out.bl.size)
                  have HM := Lib.hid (len_at HS.out.ax)
                  by_cases r41 : cpOf s r = 41
                  focus
                    obtain ⟨l1, b1, k1⟩ := cp_asc r41 (by omega) (by omega)
                    rw [r41] at c35
                    have HB1 : Hid (bt s r = 41) := Lib.hid b1
                    clear b1 r41
                    go_wp2_with fail
                    refine (stepA g s _ r _ HS.out.ax (HS.out.tabs HT.out hlo) hp3 hs (by omega) (by omega)).mono ?_
                    rintro e w2 ⟨rfl, h2, f2⟩
                    rw [k1] at h2
                    have HS2 := Lib.hid (HS.out.step h2 f2 (by omega))
                    clear h2 f2 HS c35 k1
                    go_wp2_with fail
                    rw [Exit.noGoto_ret]
                    go_ret
                    exact HS2.out.url 3 (.inr rfl) (.inr ⟨by omega, by simpa using HB1.out⟩)
                  by_cases rx : cpOf s r = -1
                  focus
                    have HQ2 := Lib.hid (cp_end hrs rx)
                    rw [rx] at c35
                    clear rx r41
                    go_wp2_with fail
                    refine (stepA g s _ r _ HS.out.ax (HS.out.tabs HT.out hlo) hp3 hs (by omega) (by omega)).mono ?_
                    rintro e w2 ⟨rfl, h2, f2⟩
                    rw [(cp_out (s := s) (q := r) (by have := HQ2.out; omega)).2, Nat.add_zero] at h2
                    have HS2 := Lib.hid (HS.out.step h2 f2 (Nat.le_refl _))
                    clear h2 f2 HS c35
                    go_wp2_with fail
                    rw [Exit.noGoto_ret]
                    go_ret
                    exact HS2.out.url 3 (.inr rfl) (.inl HQ2.out)
                  obtain ⟨l1, k1⟩ := cp_more rx
                  have hw1 := (cp_rng s r hrs).2.2
                  by_cases r92 : cpOf s r = 92
                  focus
                    obtain ⟨_, b1, _⟩ := cp_asc r92 (by omega) (by omega)
                    rw [r92] at c35
                    have HB1 : Hid (bt s r = 92) := Lib.hid b1
                    clear b1 r41 rx r92
                    go_wp2_with fail
                    refine (valid61 g s _ r _ HS.out.ax (HS.out.tabs HT.out hlo) hp3 hs).mono ?_
                    rintro e w2 ⟨⟨b, rfl⟩, hb2⟩
                    have hz2 := hb2.size
                    have HS2 := Lib.hid (HS.out.below hb2)
                    clear hb2 HS c35
                    cases b
                    focus
                      go_wp2_with fail
                      refine (stepA g s _ r _ HS2.out.ax (HS2.out.tabs HT.out hlo) (Nat.le_trans hp3 hz2) hs (by omega) (by omega)).mono ?_
                      rintro e w3 ⟨rfl, h3, f3⟩
                      have HM3 := Lib.hid (len_at h3)
                      have HS3 := Lib.hid (HS2.out.step h3 f3 (Nat.le_add_right _ _))
                      clear h3 f3 HS2
                      go_wp2_with fail
                      go_roundw
                      case rel => exact ⟨_, HS3⟩
                      case measure => rw [HM3.out, HM.out]; omega
                    focus
                      go_wp2_with fail
                      refine (escape g s _ r _ HS2.out.ax (HS2.out.tabs HT.out hlo) (Nat.le_trans hlo hg) (Nat.le_trans hp3 hz2) hs (by omega) (by omega) l1 HB1.out).mono ?_
                      rintro e w3 ⟨rfl, h3, f3⟩
                      have hd := stepD_le l1
                      have hz3 := f3.size
                      have HS3 := Lib.hid (HS2.out.step h3 f3 (Nat.le_of_lt hd.1))
                      clear h3 f3 HS2
                      generalize (stepD s r).1 = r2 at *
                      generalize (stepD s r).2 = rv at *
                      have hw2 := (cp_rng s r2 hd.2).2.2
                      go_wp2_with fail
                      refine (stepA g s _ r2 _ HS3.out.ax (HS3.out.tabs HT.out hlo) (Nat.le_trans hp3 (Nat.le_trans hz2 hz3)) hs (by omega) (by omega)).mono ?_
                      rintro e w4 ⟨rfl, h4, f4⟩
                      have HM4 := Lib.hid (len_at h4)
                      have HS4 := Lib.hid (HS3.out.step h4 f4 (Nat.le_add_right _ _))
                      clear h4 f4 HS3
                      go_wp2_with fail
                      go_roundw
                      case rel => exact ⟨_, HS4⟩
                      case measure => rw [HM4.out, HM.out]; omega
                  focus
                    have t41 : (cpOf s r == 41) = false := beq_eq_false_iff_ne.2 r41
                    have tx : (cpOf s r == -1) = false := beq_eq_false_iff_ne.2 rx
                    have t92 : (cpOf s r == 92) = false := beq_eq_false_iff_ne.2 r92
                    clear r41 rx r92
                    go_wp2_with fail
                    refine (stepA g s _ r _ HS.out.ax (HS.out.tabs HT.out hlo) hp3 hs (by omega) (by omega)).mono ?_
                    rintro e w3 ⟨rfl, h3, f3⟩
                    have HM3 := Lib.hid (len_at h3)
                    have HS3 := Lib.hid (HS.out.step h3 f3 (Nat.le_add_right _ _))
                    clear h3 f3 HS c35
                    go_wp2_with fail
                    go_roundw
                    case rel => exact ⟨_, HS3⟩
                    case measure => rw [HM3.out, HM.out]; omega

          focus
            have hcs : cpOf s q2 = 32 ∨ cpOf s q2 = 9 ∨ cpOf s q2 = 10 ∨ cpOf s q2 = 13 ∨ cpOf s q2 = 12 := by
              unfold wsB at hws
              simpa [or_assoc] using hws
            obtain ⟨l2, b2, k2⟩ := cp_asc (c := cpOf s q2) rfl (by omega) (by omega)
            have HB2 : Hid (bt s q2 < 128) := Lib.hid (by omega)
            clear b2 hcs hws
            go_wp2_with fail
            refine (stepA g s _ q2 _ HS.out.1.ax (HS.out.1.tabs HT.out hlo) hwi hs (by omega) (by omega)).mono ?_
            rintro e w4 ⟨rfl, h4, f4⟩
            rw [k2] at h4
            have HM4 := Lib.hid (len_at h4)
            have HS4 : Hid ((Sx B g s m lo w (q2 + 1) w4 ∧ Lo g m lo k mu hm ms w.heap.size w w4) ∧ bt s (q2 + 1 - 1) < 128) := Lib.hid ⟨⟨HS.out.1.step h4 f4 (by omega), HS.out.2.step HS.out.1.ax f4⟩, by simpa using HB2.out⟩
            have hmq2 := HS.out.1.mq
            clear h4 f4 HS c35 k2
            go_wp2_with fail
            go_roundw
            case rel => exact ⟨q2 + 1, by omega, HS4⟩
            case measure => rw [HM4.out, HM.out]; omega
      focus
        obtain ⟨l1, b1, k1⟩ := cp_asc hc (by omega) (by omega)
        have HB1 : Hid (bt s q < 128) := Lib.hid (by omega)
        rw [hc] at c35
        clear b1 hc h41 hx
        go_wp2_with fail
        refine (stepA g s _ q _ HS.out.1.ax (HS.out.1.tabs HT.out hlo) hw3 hs (by omega) (by omega)).mono ?_
        rintro e w2 ⟨rfl, h2, f2⟩
        rw [k1] at h2
        have HS2 : Hid ((Sx B g s m lo w (q + 1) w2 ∧ Lo g m lo k mu hm ms w.heap.size w w2) ∧ bt s (q + 1 - 1) < 128) := Lib.hid ⟨⟨HS.out.1.step h2 f2 (by omega), HS.out.2.step HS.out.1.ax f2⟩, by simpa using HB1.out⟩
        clear h2 f2 HS c35 k1 HB1
        go_wp2_with fail
        go_loopw [80] (fun _ wr => ∃ (q2 : Nat), q + 1 ≤ q2 ∧ Hid ((Sx B g s m lo w q2 wr ∧ Lo g m lo k mu hm ms w.heap.size w wr) ∧ bt s (q2 - 1) < 128)) (fun _ wr => s.size + 1 - lenAt g wr)
        case atStart => exact ⟨q + 1, Nat.le_refl _, HS2⟩
        case round =>
          clear HS2
          obtain ⟨q2, hq2, HSB⟩ := hrel
          obtain ⟨wi, rfl⟩ : ∃ wi : World, wi = wr := ⟨_, rfl⟩
          have HS := Lib.hid HSB.out.1
          have HB := Lib.hid HSB.out.2
          have c35 := HS.out.1.ax.cell
          have hqs2 := HS.out.1.ax.hq
          have hwi : 3 ≤ wi.heap.size := Nat.le_trans hlo (Nat.le_trans hlw HS.out.1.bl.size)
          have HM := Lib.hid (len_at HS.out.1.ax)
          clear HSB
          go_wp2_with fail
          refine (isWs (cpOf s q2) _).mono ?_
          rintro e w3 ⟨rfl, rfl⟩
          cases hws : wsB (cpOf s q2)
          focus
            by_cases h41 : cpOf s q2 = 41
            focus
              obtain ⟨l2, b2, k2⟩ := cp_asc h41 (by omega) (by omega)
              have HB2 : Hid (bt s q2 = 41) := Lib.hid b2
              rw [h41] at c35
              clear b2 h41 hws
              go_wp2_with fail
              refine (stepA g s _ q2 _ HS.out.1.ax (HS.out.1.tabs HT.out hlo) hwi hs (by omega) (by omega)).mono ?_
              rintro e w4 ⟨rfl, h4, f4⟩
              rw [k2] at h4
              have HS4 := Lib.hid (HS.out.1.step h4 f4 (by omega))
              clear h4 f4 HS c35 k2
              go_wp2_with fail
              rw [Exit.noGoto_ret]
              go_ret

              exact HS4.out.url 37 (.inl rfl) (.inr ⟨by omega, by simpa using HB2.out⟩)
            focus
              have t41 : (cpOf s q2 != 41) = true := bne_iff_ne.2 h41
              clear h41 hws
              have hmq2 := HS.out.1.mq
              have c36 := HS.out.1.ax.cell36
              have c37 := HS.out.1.ax.cell37
              have HO : Hid (∀ o3, o3 ≤ s.size → (∀ p, m ≤ p → p < o3 → 128 ≤ bt s p) → o3 ≤ q2) := Lib.hid (by intro o3 h1 h2; have := HB.out; rcases Nat.lt_or_ge (q2 - 1) o3 with h3 | h3; (have := h2 (q2 - 1) (by omega) h3; omega); omega)

              go_wp2_with fail
              refine (end44 _ _ (by omega) (by omega) (by omega) (by omega) _).mono ?_
              rintro e w2 ⟨rfl, hb2⟩
              rw [show (m : Int) + 1 + ((q2 : Int) - ((m : Int) + 1)) = (q2 : Int) by omega]
              have HS2 : Hid (Sx B g s m lo w q2 w2 ∧ Lo g m lo k mu hm ms w.heap.size w w2) := Lib.hid ⟨HS.out.1.below hb2, HS.out.2.below hb2⟩
              clear hb2 HS c35 c36 c37
              go_upto_region 23 with fail
              generalize hV : w2.alloc _ = V
              have hb3 : Below w2.heap.size w2 V := by rw [← hV]; exact (Below.refl _ _).alloc (Nat.le_refl _) _
              have HP5 : Hid (Own V w2.heap.size 29 #[.int .i32 q2]) := Lib.hid (by rw [← hV]; exact Own.new _ _ _)
              have HS3 : Hid (Sx B g s m lo w q2 V ∧ Lo g m lo k mu hm ms w.heap.size w V) := Lib.hid ⟨HS2.out.1.below hb3, HS2.out.2.below hb3⟩
              obtain ⟨cs, hK, hR, hAX⟩ := Ax.open HS3.out.1.ax HBB.out
              have HK := Lib.hid hK
              have HR := Lib.hid hR
              have HAX := Lib.hid hAX
              have hV3 : 3 ≤ V.heap.size := Nat.le_trans hlo (Nat.le_trans hlw HS3.out.1.bl.size)
              generalize w2.heap.size = p5 at HP5
              have HSC : Hid (∀ (V' : World) (c : Array Value), Own V' g 64 c → Same cs c → Own V' p5 29 #[.int .i32 q2] → Own V' w.heap.size 29 #[.int .i32 m] → V'.cell? ⟨g, 1, none⟩ = some (.func (.func 78) #[] #[.pointer (some ⟨k, 0, none⟩), .pointer (some ⟨mu, 0, none⟩), .pointer (some ⟨hm, 0, none⟩), .pointer (some ⟨ms, 0, none⟩)]) ∧ V'.cell? ⟨g, 2, none⟩ = some (.func (.func 81) #[] #[.pointer (some ⟨mu, 0, none⟩), .pointer (some ⟨hm, 0, none⟩)]) ∧ V'.cell? ⟨g, 3, none⟩ = some (.func (.func 82) #[] #[.pointer (some ⟨mu, 0, none⟩), .pointer (some ⟨ms, 0, none⟩)]) ∧ V'.cell? ⟨g, 4, none⟩ = some (.func (.func 83) #[] #[.pointer (some ⟨mu, 0, none⟩), .pointer (some ⟨ms, 0, none⟩)]) ∧ V'.cell? ⟨g, 5, none⟩ = some (.int .i8 3) ∧ V'.cell? ⟨g, 6, none⟩ = some (.map none) ∧ V'.cell? ⟨p5, 0, none⟩ = some (.int .i32 q2) ∧ V'.cell? ⟨w.heap.size, 0, none⟩ = some (.int .i32 m)) := Lib.hid fun V' c ho hsm h5 hp => ⟨(ho.cell 1).trans ((hsm 1 (by omega)).trans ((HR.out 1 (by omega) (by omega) (by omega) (by omega)).trans HBB.out.b1)), (ho.cell 2).trans ((hsm 2 (by omega)).trans ((HR.out 2 (by omega) (by omega) (by omega) (by omega)).trans HBB.out.b2)), (ho.cell 3).trans ((hsm 3 (by omega)).trans ((HR.out 3 (by omega) (by omega) (by omega) (by omega)).trans HBB.out.b3)), (ho.cell 4).trans ((hsm 4 (by omega)).trans ((HR.out 4 (by omega) (by omega) (by omega) (by omega)).trans HBB.out.b4)), (ho.cell 5).trans ((hsm 5 (by omega)).trans ((HR.out 5 (by omega) (by omega) (by omega) (by omega)).trans HBB.out.b5)), (ho.cell 6).trans ((hsm 6 (by omega)).trans ((HR.out 6 (by omega) (by omega) (by omega) (by omega)).trans HBB.out.b6)), (h5.cell 0).trans rfl, (hp.cell 0).trans rfl⟩
              have NP5 : Hid (p5 ≠ g) := Lib.hid (own_ne HP5.out HK.out.tr.own (by decide))
              have NPL : Hid (w.heap.size ≠ g) := Lib.hid (own_ne HS3.out.2.loc HK.out.tr.own (by decide))
              have KQ : Hid (∀ (V0 V1 : World) (p : Nat) (t : TypeId) (c : Array Value), Own V0 p t c → Own V0 g 64 cs → V0.grownBy V1 (some g) → t ≠ 64 → Own V1 p t c) := Lib.hid fun V0 V1 p t c ho hq hg ht => (hg.block p ho.lt (fun e => own_ne ho hq ht (Option.some.inj e))).trans ho
              clear hb3 hV hK hR hAX HS2
              have HT3 := Lib.hid (HS3.out.1.tabs HT.out hlo)
              have hg3 : 3 ≤ g := Nat.le_trans hlo hg

              go_region_held3 (fun V' => V'.cell? ⟨g, 1, none⟩ = some (.func (.func 78) #[] #[.pointer (some ⟨k, 0, none⟩), .pointer (some ⟨mu, 0, none⟩), .pointer (some ⟨hm, 0, none⟩), .pointer (some ⟨ms, 0, none⟩)]) ∧ V'.cell? ⟨g, 2, none⟩ = some (.func (.func 81) #[] #[.pointer (some ⟨mu, 0, none⟩), .pointer (some ⟨hm, 0, none⟩)]) ∧ V'.cell? ⟨g, 3, none⟩ = some (.func (.func 82) #[] #[.pointer (some ⟨mu, 0, none⟩), .pointer (some ⟨ms, 0, none⟩)]) ∧ V'.cell? ⟨g, 4, none⟩ = some (.func (.func 83) #[] #[.pointer (some ⟨mu, 0, none⟩), .pointer (some ⟨ms, 0, none⟩)]) ∧ V'.cell? ⟨g, 5, none⟩ = some (.int .i8 3) ∧ V'.cell? ⟨g, 6, none⟩ = some (.map none) ∧ V'.cell? ⟨p5, 0, none⟩ = some (.int .i32 q2) ∧ V'.cell? ⟨w.heap.size, 0, none⟩ = some (.int .i32 m))
                (first
                  | assumption
                  | exact HSC.out _ _ ho4 (hk3.same.trans hs4) (hk4 _ _ _ ((KQ.out _ _ _ _ _ HP5.out.drew HK.out.tr.own.drew hk3.gr (by decide)).alloc _) NP5.out (by decide) (by decide) (by decide) (by decide)) (hk4 _ _ _ ((KQ.out _ _ _ _ _ HS3.out.2.loc.drew HK.out.tr.own.drew hk3.gr (by decide)).alloc _) NPL.out (by decide) (by decide) (by decide) (by decide))
                  | exact HSC.out _ _ (hk3.tr.own.alloc _) hk3.same ((KQ.out _ _ _ _ _ HP5.out.drew HK.out.tr.own.drew hk3.gr (by decide)).alloc _) ((KQ.out _ _ _ _ _ HS3.out.2.loc.drew HK.out.tr.own.drew hk3.gr (by decide)).alloc _)
                  | exact HSC.out _ _ hk3.tr.own hk3.same (KQ.out _ _ _ _ _ HP5.out.drew HK.out.tr.own.drew hk3.gr (by decide)) (KQ.out _ _ _ _ _ HS3.out.2.loc.drew HK.out.tr.own.drew hk3.gr (by decide))
                  | exact HSC.out _ _ HK.out.tr.own.drew (Same.refl _) HP5.out.drew HS3.out.2.loc.drew)
                (first
                  | (go_at_call 60; refine (dat60 g cs s m 0 0 0 0 false 1 _ _ (HK.out.below (below_drewN (Below.refl _ _) 1)).start (Nat.zero_le _) (by omega) hs (by omega) (by omega) (tabs_gr HT3.out hg3 hV3 (grown_of_below (below_drewN (Below.refl _ _) 1) (some g))) hg3 hV3).mono ?_; rintro e3 w3 ⟨⟨l, rfl⟩, cs3, o3, ln3, ls3, le3, hk3, ho3, hc3⟩)
                  | (go_at_call 59; refine (addIDN59 g cs3 s q2 o3 ln3 ls3 le3 true 0 _ _ _ _ k mu hm ms lo 0 _ [] _ (LogSt.below (LogSt.grown (LogSt.below HS3.out.2.log (below_drewN (Below.refl _ _) 1)) hk3.gr HK.out.tr.own.drew) ((Below.refl _ _).alloc (Nat.le_refl _) _)) (by omega) hg (hk3.start.below ((Below.refl _ _).alloc (Nat.le_refl _) _)).start (HO.out o3 hk3.ho hc3) (by omega) hs (by omega) (by omega) (tabs_gr (tabs_gr (tabs_gr HT3.out hg3 hV3 (grown_of_below (below_drewN (Below.refl _ _) 1) (some g))) hg3 hV3 hk3.gr) hg3 (Nat.le_trans hV3 hk3.gr.size) (grown_of_below ((Below.refl _ _).alloc (Nat.le_refl _) _) (some g))) hg3 (Nat.le_trans (Nat.le_trans hV3 hk3.gr.size) ((Below.refl _ _).alloc (Nat.le_refl _) _).size)).mono ?_; rintro e4 w4 ⟨rfl, ⟨cs4, ho4, hs4, hz4⟩, hb4, hk4⟩))
              have HS4 : Hid (Sx (fun i : Nat => cs4[i]?) g s m lo w q2 w4) := Lib.hid ⟨HAX.out _ _ ho4 (hk3.same.trans hs4) hz4, by omega, Below.trans (Below.alloc (gr_below (below_drewN HS3.out.1.bl 1) hlw hk3.gr hg) (Nat.le_trans hlw (Nat.le_trans HS3.out.1.bl.size hk3.gr.size)) _) hb4, hlw, hg⟩
              clear hs4 hb4 hk4 hk3 ho3 hc3 KQ
              generalize (fun i : Nat => cs4[i]?) = B4 at HS4
              clear ho4 hz4 HAX HK HR HSC HP5 NP5 NPL HT3 HS3 HO

              have c35 := HS4.out.ax.cell
              by_cases hx : cpOf s q2 = -1
              focus
                have HQ2 := Lib.hid (cp_end hqs2 hx)
                rw [hx] at c35
                clear hx
                go_wp2_with fail
                rw [Exit.noGoto_ret]
                go_ret

                exact HS4.out.url 37 (.inl rfl) (.inl HQ2.out)
              focus
                have tx : (cpOf s q2 == -1) = false := beq_eq_false_iff_ne.2 hx
                clear hx
                go_wp2_with fail
                clear c35 tx HB HM
                go_loopw [174] (fun _ wr => ∃ (q : Nat), Hid (Sx B4 g s m lo w q wr)) (fun _ wr => s.size + 1 - lenAt g wr)
                case atStart => exact ⟨q2, HS4⟩
                case round =>
                  clear HS4
                  obtain ⟨r, HS⟩ := hrel
                  obtain ⟨wp, rfl⟩ : ∃ wp : World, wp = wr := ⟨_, rfl⟩
                  have c35 := HS.out.ax.cell
                  have hrs := HS.out.ax.hq
                  have hmr := HS.out.mq
                  have hp3 : 3 ≤ wp.heap.size := Nat.le_trans hlo (Nat.le_trans hlw HS.out.bl.size)
                  have HM := Lib.hid (len_at HS.out.ax)
                  by_cases r41 : cpOf s r = 41
                  focus
                    obtain ⟨l1, b1, k1⟩ := cp_asc r41 (by omega) (by omega)
                    rw [r41] at c35
                    have HB1 : Hid (bt s r = 41) := Lib.hid b1
                    clear b1 r41
                    go_wp2_with fail
                    refine (stepA g s _ r _ HS.out.ax (HS.out.tabs HT.out hlo) hp3 hs (by omega) (by omega)).mono ?_
                    rintro e w2 ⟨rfl, h2, f2⟩
                    rw [k1] at h2
                    have HS2 := Lib.hid (HS.out.step h2 f2 (by omega))
                    clear h2 f2 HS c35 k1
                    go_wp2_with fail
                    rw [Exit.noGoto_ret]
                    go_ret
                    exact HS2.out.url 3 (.inr rfl) (.inr ⟨by omega, by simpa using HB1.out⟩)
                  by_cases rx : cpOf s r = -1
                  focus
                    have HQ2 := Lib.hid (cp_end hrs rx)
                    rw [rx] at c35
                    clear rx r41
                    go_wp2_with fail
                    refine (stepA g s _ r _ HS.out.ax (HS.out.tabs HT.out hlo) hp3 hs (by omega) (by omega)).mono ?_
                    rintro e w2 ⟨rfl, h2, f2⟩
                    rw [(cp_out (s := s) (q := r) (by have := HQ2.out; omega)).2, Nat.add_zero] at h2
                    have HS2 := Lib.hid (HS.out.step h2 f2 (Nat.le_refl _))
                    clear h2 f2 HS c35
                    go_wp2_with fail
                    rw [Exit.noGoto_ret]
                    go_ret
                    exact HS2.out.url 3 (.inr rfl) (.inl HQ2.out)
                  obtain ⟨l1, k1⟩ := cp_more rx
                  have hw1 := (cp_rng s r hrs).2.2
                  by_cases r92 : cpOf s r = 92
                  focus
                    obtain ⟨_, b1, _⟩ := cp_asc r92 (by omega) (by omega)
                    rw [r92] at c35
                    have HB1 : Hid (bt s r = 92) := Lib.hid b1
                    clear b1 r41 rx r92
                    go_wp2_with fail
                    refine (valid61 g s _ r _ HS.out.ax (HS.out.tabs HT.out hlo) hp3 hs).mono ?_
                    rintro e w2 ⟨⟨b, rfl⟩, hb2⟩
                    have hz2 := hb2.size
                    have HS2 := Lib.hid (HS.out.below hb2)
                    clear hb2 HS c35
                    cases b
                    focus
                      go_wp2_with fail
                      refine (stepA g s _ r _ HS2.out.ax (HS2.out.tabs HT.out hlo) (Nat.le_trans hp3 hz2) hs (by omega) (by omega)).mono ?_
                      rintro e w3 ⟨rfl, h3, f3⟩
                      have HM3 := Lib.hid (len_at h3)
                      have HS3 := Lib.hid (HS2.out.step h3 f3 (Nat.le_add_right _ _))
                      clear h3 f3 HS2
                      go_wp2_with fail
                      go_roundw
                      case rel => exact ⟨_, HS3⟩
                      case measure => rw [HM3.out, HM.out]; omega
                    focus
                      go_wp2_with fail
                      refine (escape g s _ r _ HS2.out.ax (HS2.out.tabs HT.out hlo) (Nat.le_trans hlo hg) (Nat.le_trans hp3 hz2) hs (by omega) (by omega) l1 HB1.out).mono ?_
                      rintro e w3 ⟨rfl, h3, f3⟩
                      have hd := stepD_le l1
                      have hz3 := f3.size
                      have HS3 := Lib.hid (HS2.out.step h3 f3 (Nat.le_of_lt hd.1))
                      clear h3 f3 HS2
                      generalize (stepD s r).1 = r2 at *
                      generalize (stepD s r).2 = rv at *
                      have hw2 := (cp_rng s r2 hd.2).2.2
                      go_wp2_with fail
                      refine (stepA g s _ r2 _ HS3.out.ax (HS3.out.tabs HT.out hlo) (Nat.le_trans hp3 (Nat.le_trans hz2 hz3)) hs (by omega) (by omega)).mono ?_
                      rintro e w4 ⟨rfl, h4, f4⟩
                      have HM4 := Lib.hid (len_at h4)
                      have HS4 := Lib.hid (HS3.out.step h4 f4 (Nat.le_add_right _ _))
                      clear h4 f4 HS3
                      go_wp2_with fail
                      go_roundw
                      case rel => exact ⟨_, HS4⟩
                      case measure => rw [HM4.out, HM.out]; omega
                  focus
                    have t41 : (cpOf s r == 41) = false := beq_eq_false_iff_ne.2 r41
                    have tx : (cpOf s r == -1) = false := beq_eq_false_iff_ne.2 rx
                    have t92 : (cpOf s r == 92) = false := beq_eq_false_iff_ne.2 r92
                    clear r41 rx r92
                    go_wp2_with fail
                    refine (stepA g s _ r _ HS.out.ax (HS.out.tabs HT.out hlo) hp3 hs (by omega) (by omega)).mono ?_
                    rintro e w3 ⟨rfl, h3, f3⟩
                    have HM3 := Lib.hid (len_at h3)
                    have HS3 := Lib.hid (HS.out.step h3 f3 (Nat.le_add_right _ _))
                    clear h3 f3 HS c35
                    go_wp2_with fail
                    go_roundw
                    case rel => exact ⟨_, HS3⟩
                    case measure => rw [HM3.out, HM.out]; omega

          focus
            have hcs : cpOf s q2 = 32 ∨ cpOf s q2 = 9 ∨ cpOf s q2 = 10 ∨ cpOf s q2 = 13 ∨ cpOf s q2 = 12 := by
              unfold wsB at hws
              simpa [or_assoc] using hws
            obtain ⟨l2, b2, k2⟩ := cp_asc (c := cpOf s q2) rfl (by omega) (by omega)
            have HB2 : Hid (bt s q2 < 128) := Lib.hid (by omega)
            clear b2 hcs hws
            go_wp2_with fail
            refine (stepA g s _ q2 _ HS.out.1.ax (HS.out.1.tabs HT.out hlo) hwi hs (by omega) (by omega)).mono ?_
            rintro e w4 ⟨rfl, h4, f4⟩
            rw [k2] at h4
            have HM4 := Lib.hid (len_at h4)
            have HS4 : Hid ((Sx B g s m lo w (q2 + 1) w4 ∧ Lo g m lo k mu hm ms w.heap.size w w4) ∧ bt s (q2 + 1 - 1) < 128) := Lib.hid ⟨⟨HS.out.1.step h4 f4 (by omega), HS.out.2.step HS.out.1.ax f4⟩, by simpa using HB2.out⟩
            have hmq2 := HS.out.1.mq
            clear h4 f4 HS c35 k2
            go_wp2_with fail
            go_roundw
            case rel => exact ⟨q2 + 1, by omega, HS4⟩
            case measure => rw [HM4.out, HM.out]; omega
      focus
        obtain ⟨l1, b1, k1⟩ := cp_asc hc (by omega) (by omega)
        have HB1 : Hid (bt s q < 128) := Lib.hid (by omega)
        rw [hc] at c35
        clear b1 hc h41 hx
        go_wp2_with fail
        refine (stepA g s _ q _ HS.out.1.ax (HS.out.1.tabs HT.out hlo) hw3 hs (by omega) (by omega)).mono ?_
        rintro e w2 ⟨rfl, h2, f2⟩
        rw [k1] at h2
        have HS2 : Hid ((Sx B g s m lo w (q + 1) w2 ∧ Lo g m lo k mu hm ms w.heap.size w w2) ∧ bt s (q + 1 - 1) < 128) := Lib.hid ⟨⟨HS.out.1.step h2 f2 (by omega), HS.out.2.step HS.out.1.ax f2⟩, by simpa using HB1.out⟩
        clear h2 f2 HS c35 k1 HB1
        go_wp2_with fail
        go_loopw [80] (fun _ wr => ∃ (q2 : Nat), q + 1 ≤ q2 ∧ Hid ((Sx B g s m lo w q2 wr ∧ Lo g m lo k mu hm ms w.heap.size w wr) ∧ bt s (q2 - 1) < 128)) (fun _ wr => s.size + 1 - lenAt g wr)
        case atStart => exact ⟨q + 1, Nat.le_refl _, HS2⟩
        case round =>
          clear HS2
          obtain ⟨q2, hq2, HSB⟩ := hrel
          obtain ⟨wi, rfl⟩ : ∃ wi : World, wi = wr := ⟨_, rfl⟩
          have HS := Lib.hid HSB.out.1
          have HB := Lib.hid HSB.out.2
          have c35 := HS.out.1.ax.cell
          have hqs2 := HS.out.1.ax.hq
          have hwi : 3 ≤ wi.heap.size := Nat.le_trans hlo (Nat.le_trans hlw HS.out.1.bl.size)
          have HM := Lib.hid (len_at HS.out.1.ax)
          clear HSB
          go_wp2_with fail
          refine (isWs (cpOf s q2) _).mono ?_
          rintro e w3 ⟨rfl, rfl⟩
          cases hws : wsB (cpOf s q2)
          focus
            by_cases h41 : cpOf s q2 = 41
            focus
              obtain ⟨l2, b2, k2⟩ := cp_asc h41 (by omega) (by omega)
              have HB2 : Hid (bt s q2 = 41) := Lib.hid b2
              rw [h41] at c35
              clear b2 h41 hws
              go_wp2_with fail
              refine (stepA g s _ q2 _ HS.out.1.ax (HS.out.1.tabs HT.out hlo) hwi hs (by omega) (by omega)).mono ?_
              rintro e w4 ⟨rfl, h4, f4⟩
              rw [k2] at h4
              have HS4 := Lib.hid (HS.out.1.step h4 f4 (by omega))
              clear h4 f4 HS c35 k2
              go_wp2_with fail
              rw [Exit.noGoto_ret]
              go_ret

              exact HS4.out.url 37 (.inl rfl) (.inr ⟨by omega, by simpa using HB2.out⟩)
            focus
              have t41 : (cpOf s q2 != 41) = true := bne_iff_ne.2 h41
              clear h41 hws
              have hmq2 := HS.out.1.mq
              have c36 := HS.out.1.ax.cell36
              have c37 := HS.out.1.ax.cell37
              have HO : Hid (∀ o3, o3 ≤ s.size → (∀ p, m ≤ p → p < o3 → 128 ≤ bt s p) → o3 ≤ q2) := Lib.hid (by intro o3 h1 h2; have := HB.out; rcases Nat.lt_or_ge (q2 - 1) o3 with h3 | h3; (have := h2 (q2 - 1) (by omega) h3; omega); omega)

              go_wp2_with fail
              refine (end44 _ _ (by omega) (by omega) (by omega) (by omega) _).mono ?_
              rintro e w2 ⟨rfl, hb2⟩
              rw [show (m : Int) + 1 + ((q2 : Int) - ((m : Int) + 1)) = (q2 : Int) by omega]
              have HS2 : Hid (Sx B g s m lo w q2 w2 ∧ Lo g m lo k mu hm ms w.heap.size w w2) := Lib.hid ⟨HS.out.1.below hb2, HS.out.2.below hb2⟩
              clear hb2 HS c35 c36 c37
              go_upto_region 23 with fail
              generalize hV : w2.alloc _ = V
              have hb3 : Below w2.heap.size w2 V := by rw [← hV]; exact (Below.refl _ _).alloc (Nat.le_refl _) _
              have HP5 : Hid (Own V w2.heap.size 29 #[.int .i32 q2]) := Lib.hid (by rw [← hV]; exact Own.new _ _ _)
              have HS3 : Hid (Sx B g s m lo w q2 V ∧ Lo g m lo k mu hm ms w.heap.size w V) := Lib.hid ⟨HS2.out.1.below hb3, HS2.out.2.below hb3⟩
              obtain ⟨cs, hK, hR, hAX⟩ := Ax.open HS3.out.1.ax HBB.out
              have HK := Lib.hid hK
              have HR := Lib.hid hR
              have HAX := Lib.hid hAX
              have hV3 : 3 ≤ V.heap.size := Nat.le_trans hlo (Nat.le_trans hlw HS3.out.1.bl.size)
              generalize w2.heap.size = p5 at HP5
              have HSC : Hid (∀ (V' : World) (c : Array Value), Own V' g 64 c → Same cs c → Own V' p5 29 #[.int .i32 q2] → Own V' w.heap.size 29 #[.int .i32 m] → V'.cell? ⟨g, 1, none⟩ = some (.func (.func 78) #[] #[.pointer (some ⟨k, 0, none⟩), .pointer (some ⟨mu, 0, none⟩), .pointer (some ⟨hm, 0, none⟩), .pointer (some ⟨ms, 0, none⟩)]) ∧ V'.cell? ⟨g, 2, none⟩ = some (.func (.func 81) #[] #[.pointer (some ⟨mu, 0, none⟩), .pointer (some ⟨hm, 0, none⟩)]) ∧ V'.cell? ⟨g, 3, none⟩ = some (.func (.func 82) #[] #[.pointer (some ⟨mu, 0, none⟩), .pointer (some ⟨ms, 0, none⟩)]) ∧ V'.cell? ⟨g, 4, none⟩ = some (.func (.func 83) #[] #[.pointer (some ⟨mu, 0, none⟩), .pointer (some ⟨ms, 0, none⟩)]) ∧ V'.cell? ⟨g, 5, none⟩ = some (.int .i8 3) ∧ V'.cell? ⟨g, 6, none⟩ = some (.map none) ∧ V'.cell? ⟨p5, 0, none⟩ = some (.int .i32 q2) ∧ V'.cell? ⟨w.heap.size, 0, none⟩ = some (.int .i32 m)) := Lib.hid fun V' c ho hsm h5 hp => ⟨(ho.cell 1).trans ((hsm 1 (by omega)).trans ((HR.out 1 (by omega) (by omega) (by omega) (by omega)).trans HBB.out.b1)), (ho.cell 2).trans ((hsm 2 (by omega)).trans ((HR.out 2 (by omega) (by omega) (by omega) (by omega)).trans HBB.out.b2)), (ho.cell 3).trans ((hsm 3 (by omega)).trans ((HR.out 3 (by omega) (by omega) (by omega) (by omega)).trans HBB.out.b3)), (ho.cell 4).trans ((hsm 4 (by omega)).trans ((HR.out 4 (by omega) (by omega) (by omega) (by omega)).trans HBB.out.b4)), (ho.cell 5).trans ((hsm 5 (by omega)).trans ((HR.out 5 (by omega) (by omega) (by omega) (by omega)).trans HBB.out.b5)), (ho.cell 6).trans ((hsm 6 (by omega)).trans ((HR.out 6 (by omega) (by omega) (by omega) (by omega)).trans HBB.out.b6)), (h5.cell 0).trans rfl, (hp.cell 0).trans rfl⟩
              have NP5 : Hid (p5 ≠ g) := Lib.hid (own_ne HP5.out HK.out.tr.own (by decide))
              have NPL : Hid (w.heap.size ≠ g) := Lib.hid (own_ne HS3.out.2.loc HK.out.tr.own (by decide))
              have KQ : Hid (∀ (V0 V1 : World) (p : Nat) (t : TypeId) (c : Array Value), Own V0 p t c → Own V0 g 64 cs → V0.grownBy V1 (some g) → t ≠ 64 → Own V1 p t c) := Lib.hid fun V0 V1 p t c ho hq hg ht => (hg.block p ho.lt (fun e => own_ne ho hq ht (Option.some.inj e))).trans ho
              clear hb3 hV hK hR hAX HS2
              have HT3 := Lib.hid (HS3.out.1.tabs HT.out hlo)
              have hg3 : 3 ≤ g := Nat.le_trans hlo hg

              go_region_held3 (fun V' => V'.cell? ⟨g, 1, none⟩ = some (.func (.func 78) #[] #[.pointer (some ⟨k, 0, none⟩), .pointer (some ⟨mu, 0, none⟩), .pointer (some ⟨hm, 0, none⟩), .pointer (some ⟨ms, 0, none⟩)]) ∧ V'.cell? ⟨g, 2, none⟩ = some (.func (.func 81) #[] #[.pointer (some ⟨mu, 0, none⟩), .pointer (some ⟨hm, 0, none⟩)]) ∧ V'.cell? ⟨g, 3, none⟩ = some (.func (.func 82) #[] #[.pointer (some ⟨mu, 0, none⟩), .pointer (some ⟨ms, 0, none⟩)]) ∧ V'.cell? ⟨g, 4, none⟩ = some (.func (.func 83) #[] #[.pointer (some ⟨mu, 0, none⟩), .pointer (some ⟨ms, 0, none⟩)]) ∧ V'.cell? ⟨g, 5, none⟩ = some (.int .i8 3) ∧ V'.cell? ⟨g, 6, none⟩ = some (.map none) ∧ V'.cell? ⟨p5, 0, none⟩ = some (.int .i32 q2) ∧ V'.cell? ⟨w.heap.size, 0, none⟩ = some (.int .i32 m))
                (first
                  | assumption
                  | exact HSC.out _ _ ho4 (hk3.same.trans hs4) (hk4 _ _ _ ((KQ.out _ _ _ _ _ HP5.out.drew HK.out.tr.own.drew hk3.gr (by decide)).alloc _) NP5.out (by decide) (by decide) (by decide) (by decide)) (hk4 _ _ _ ((KQ.out _ _ _ _ _ HS3.out.2.loc.drew HK.out.tr.own.drew hk3.gr (by decide)).alloc _) NPL.out (by decide) (by decide) (by decide) (by decide))
                  | exact HSC.out _ _ (hk3.tr.own.alloc _) hk3.same ((KQ.out _ _ _ _ _ HP5.out.drew HK.out.tr.own.drew hk3.gr (by decide)).alloc _) ((KQ.out _ _ _ _ _ HS3.out.2.loc.drew HK.out.tr.own.drew hk3.gr (by decide)).alloc _)
                  | exact HSC.out _ _ hk3.tr.own hk3.same (KQ.out _ _ _ _ _ HP5.out.drew HK.out.tr.own.drew hk3.gr (by decide)) (KQ.out _ _ _ _ _ HS3.out.2.loc.drew HK.out.tr.own.drew hk3.gr (by decide))
                  | exact HSC.out _ _ HK.out.tr.own.drew (Same.refl _) HP5.out.drew HS3.out.2.loc.drew)
                (first
                  | (go_at_call 60; refine (dat60 g cs s m 0 0 0 0 false 1 _ _ (HK.out.below (below_drewN (Below.refl _ _) 1)).start (Nat.zero_le _) (by omega) hs (by omega) (by omega) (tabs_gr HT3.out hg3 hV3 (grown_of_below (below_drewN (Below.refl _ _) 1) (some g))) hg3 hV3).mono ?_; rintro e3 w3 ⟨⟨l, rfl⟩, cs3, o3, ln3, ls3, le3, hk3, ho3, hc3⟩)
                  | (go_at_call 59; refine (addIDN59 g cs3 s q2 o3 ln3 ls3 le3 true 0 _ _ _ _ k mu hm ms lo 0 _ [] _ (LogSt.below (LogSt.grown (LogSt.below HS3.out.2.log (below_drewN (Below.refl _ _) 1)) hk3.gr HK.out.tr.own.drew) ((Below.refl _ _).alloc (Nat.le_refl _) _)) (by omega) hg (hk3.start.below ((Below.refl _ _).alloc (Nat.le_refl _) _)).start (HO.out o3 hk3.ho hc3) (by omega) hs (by omega) (by omega) (tabs_gr (tabs_gr (tabs_gr HT3.out hg3 hV3 (grown_of_below (below_drewN (Below.refl _ _) 1) (some g))) hg3 hV3 hk3.gr) hg3 (Nat.le_trans hV3 hk3.gr.size) (grown_of_below ((Below.refl _ _).alloc (Nat.le_refl _) _) (some g))) hg3 (Nat.le_trans (Nat.le_trans hV3 hk3.gr.size) ((Below.refl _ _).alloc (Nat.le_refl _) _).size)).mono ?_; rintro e4 w4 ⟨rfl, ⟨cs4, ho4, hs4, hz4⟩, hb4, hk4⟩))
              have HS4 : Hid (Sx (fun i : Nat => cs4[i]?) g s m lo w q2 w4) := Lib.hid ⟨HAX.out _ _ ho4 (hk3.same.trans hs4) hz4, by omega, Below.trans (Below.alloc (gr_below (below_drewN HS3.out.1.bl 1) hlw hk3.gr hg) (Nat.le_trans hlw (Nat.le_trans HS3.out.1.bl.size hk3.gr.size)) _) hb4, hlw, hg⟩
              clear hs4 hb4 hk4 hk3 ho3 hc3 KQ
              generalize (fun i : Nat => cs4[i]?) = B4 at HS4
              clear ho4 hz4 HAX HK HR HSC HP5 NP5 NPL HT3 HS3 HO

              have c35 := HS4.out.ax.cell
              by_cases hx : cpOf s q2 = -1
              focus
                have HQ2 := Lib.hid (cp_end hqs2 hx)
                rw [hx] at c35
                clear hx
                go_wp2_with fail
                rw [Exit.noGoto_ret]
                go_ret

                exact HS4.out.url 37 (.inl rfl) (.inl HQ2.out)
              focus
                have tx : (cpOf s q2 == -1) = false := beq_eq_false_iff_ne.2 hx
                clear hx
                go_wp2_with fail
                clear c35 tx HB HM
                go_loopw [174] (fun _ wr => ∃ (q : Nat), Hid (Sx B4 g s m lo w q wr)) (fun _ wr => s.size + 1 - lenAt g wr)
                case atStart => exact ⟨q2, HS4⟩
                case round =>
                  clear HS4
                  obtain ⟨r, HS⟩ := hrel
                  obtain ⟨wp, rfl⟩ : ∃ wp : World, wp = wr := ⟨_, rfl⟩
                  have c35 := HS.out.ax.cell
                  have hrs := HS.out.ax.hq
                  have hmr := HS.out.mq
                  have hp3 : 3 ≤ wp.heap.size := Nat.le_trans hlo (Nat.le_trans hlw HS.out.bl.size)
                  have HM := Lib.hid (len_at HS.out.ax)
                  by_cases r41 : cpOf s r = 41
                  focus
                    obtain ⟨l1, b1, k1⟩ := cp_asc r41 (by omega) (by omega)
                    rw [r41] at c35
                    have HB1 : Hid (bt s r = 41) := Lib.hid b1
                    clear b1 r41
                    go_wp2_with fail
                    refine (stepA g s _ r _ HS.out.ax (HS.out.tabs HT.out hlo) hp3 hs (by omega) (by omega)).mono ?_
                    rintro e w2 ⟨rfl, h2, f2⟩
                    rw [k1] at h2
                    have HS2 := Lib.hid (HS.out.step h2 f2 (by omega))
                    clear h2 f2 HS c35 k1
                    go_wp2_with fail
                    rw [Exit.noGoto_ret]
                    go_ret
                    exact HS2.out.url 3 (.inr rfl) (.inr ⟨by omega, by simpa using HB1.out⟩)
                  by_cases rx : cpOf s r = -1
                  focus
                    have HQ2 := Lib.hid (cp_end hrs rx)
                    rw [rx] at c35
                    clear rx r41
                    go_wp2_with fail
                    refine (stepA g s _ r _ HS.out.ax (HS.out.tabs HT.out hlo) hp3 hs (by omega) (by omega)).mono ?_
                    rintro e w2 ⟨rfl, h2, f2⟩
                    rw [(cp_out (s := s) (q := r) (by have := HQ2.out; omega)).2, Nat.add_zero] at h2
                    have HS2 := Lib.hid (HS.out.step h2 f2 (Nat.le_refl _))
                    clear h2 f2 HS c35
                    go_wp2_with fail
                    rw [Exit.noGoto_ret]
                    go_ret
                    exact HS2.out.url 3 (.inr rfl) (.inl HQ2.out)
                  obtain ⟨l1, k1⟩ := cp_more rx
                  have hw1 := (cp_rng s r hrs).2.2
                  by_cases r92 : cpOf s r = 92
                  focus
                    obtain ⟨_, b1, _⟩ := cp_asc r92 (by omega) (by omega)
                    rw [r92] at c35
                    have HB1 : Hid (bt s r = 92) := Lib.hid b1
                    clear b1 r41 rx r92
                    go_wp2_with fail
                    refine (valid61 g s _ r _ HS.out.ax (HS.out.tabs HT.out hlo) hp3 hs).mono ?_
                    rintro e w2 ⟨⟨b, rfl⟩, hb2⟩
                    have hz2 := hb2.size
                    have HS2 := Lib.hid (HS.out.below hb2)
                    clear hb2 HS c35
                    cases b
                    focus
                      go_wp2_with fail
                      refine (stepA g s _ r _ HS2.out.ax (HS2.out.tabs HT.out hlo) (Nat.le_trans hp3 hz2) hs (by omega) (by omega)).mono ?_
                      rintro e w3 ⟨rfl, h3, f3⟩
                      have HM3 := Lib.hid (len_at h3)
                      have HS3 := Lib.hid (HS2.out.step h3 f3 (Nat.le_add_right _ _))
                      clear h3 f3 HS2
                      go_wp2_with fail
                      go_roundw
                      case rel => exact ⟨_, HS3⟩
                      case measure => rw [HM3.out, HM.out]; omega
                    focus
                      go_wp2_with fail
                      refine (escape g s _ r _ HS2.out.ax (HS2.out.tabs HT.out hlo) (Nat.le_trans hlo hg) (Nat.le_trans hp3 hz2) hs (by omega) (by omega) l1 HB1.out).mono ?_
                      rintro e w3 ⟨rfl, h3, f3⟩
                      have hd := stepD_le l1
                      have hz3 := f3.size
                      have HS3 := Lib.hid (HS2.out.step h3 f3 (Nat.le_of_lt hd.1))
                      clear h3 f3 HS2
                      generalize (stepD s r).1 = r2 at *
                      generalize (stepD s r).2 = rv at *
                      have hw2 := (cp_rng s r2 hd.2).2.2
                      go_wp2_with fail
                      refine (stepA g s _ r2 _ HS3.out.ax (HS3.out.tabs HT.out hlo) (Nat.le_trans hp3 (Nat.le_trans hz2 hz3)) hs (by omega) (by omega)).mono ?_
                      rintro e w4 ⟨rfl, h4, f4⟩
                      have HM4 := Lib.hid (len_at h4)
                      have HS4 := Lib.hid (HS3.out.step h4 f4 (Nat.le_add_right _ _))
                      clear h4 f4 HS3
                      go_wp2_with fail
                      go_roundw
                      case rel => exact ⟨_, HS4⟩
                      case measure => rw [HM4.out, HM.out]; omega
                  focus
                    have t41 : (cpOf s r == 41) = false := beq_eq_false_iff_ne.2 r41
                    have tx : (cpOf s r == -1) = false := beq_eq_false_iff_ne.2 rx
                    have t92 : (cpOf s r == 92) = false := beq_eq_false_iff_ne.2 r92
                    clear r41 rx r92
                    go_wp2_with fail
                    refine (stepA g s _ r _ HS.out.ax (HS.out.tabs HT.out hlo) hp3 hs (by omega) (by omega)).mono ?_
                    rintro e w3 ⟨rfl, h3, f3⟩
                    have HM3 := Lib.hid (len_at h3)
                    have HS3 := Lib.hid (HS.out.step h3 f3 (Nat.le_add_right _ _))
                    clear h3 f3 HS c35
                    go_wp2_with fail
                    go_roundw
                    case rel => exact ⟨_, HS3⟩
                    case measure => rw [HM3.out, HM.out]; omega

          focus
            have hcs : cpOf s q2 = 32 ∨ cpOf s q2 = 9 ∨ cpOf s q2 = 10 ∨ cpOf s q2 = 13 ∨ cpOf s q2 = 12 := by
              unfold wsB at hws
              simpa [or_assoc] using hws
            obtain ⟨l2, b2, k2⟩ := cp_asc (c := cpOf s q2) rfl (by omega) (by omega)
            have HB2 : Hid (bt s q2 < 128) := Lib.hid (by omega)
            clear b2 hcs hws
            go_wp2_with fail
            refine (stepA g s _ q2 _ HS.out.1.ax (HS.out.1.tabs HT.out hlo) hwi hs (by omega) (by omega)).mono ?_
            rintro e w4 ⟨rfl, h4, f4⟩
            rw [k2] at h4
            have HM4 := Lib.hid (len_at h4)
            have HS4 : Hid ((Sx B g s m lo w (q2 + 1) w4 ∧ Lo g m lo k mu hm ms w.heap.size w w4) ∧ bt s (q2 + 1 - 1) < 128) := Lib.hid ⟨⟨HS.out.1.step h4 f4 (by omega), HS.out.2.step HS.out.1.ax f4⟩, by simpa using HB2.out⟩
            have hmq2 := HS.out.1.mq
            clear h4 f4 HS c35 k2
            go_wp2_with fail
            go_roundw
            case rel => exact ⟨q2 + 1, by omega, HS4⟩
            case measure => rw [HM4.out, HM.out]; omega
      focus
        obtain ⟨l1, b1, k1⟩ := cp_asc hc (by omega) (by omega)
        have HB1 : Hid (bt s q < 128) := Lib.hid (by omega)
        rw [hc] at c35
        clear b1 hc h41 hx
        go_wp2_with fail
        refine (stepA g s _ q _ HS.out.1.ax (HS.out.1.tabs HT.out hlo) hw3 hs (by omega) (by omega)).mono ?_
        rintro e w2 ⟨rfl, h2, f2⟩
        rw [k1] at h2
        have HS2 : Hid ((Sx B g s m lo w (q + 1) w2 ∧ Lo g m lo k mu hm ms w.heap.size w w2) ∧ bt s (q + 1 - 1) < 128) := Lib.hid ⟨⟨HS.out.1.step h2 f2 (by omega), HS.out.2.step HS.out.1.ax f2⟩, by simpa using HB1.out⟩
        clear h2 f2 HS c35 k1 HB1
        go_wp2_with fail
        go_loopw [80] (fun _ wr => ∃ (q2 : Nat), q + 1 ≤ q2 ∧ Hid ((Sx B g s m lo w q2 wr ∧ Lo g m lo k mu hm ms w.heap.size w wr) ∧ bt s (q2 - 1) < 128)) (fun _ wr => s.size + 1 - lenAt g wr)
        case atStart => exact ⟨q + 1, Nat.le_refl _, HS2⟩
        case round =>
          clear HS2
          obtain ⟨q2, hq2, HSB⟩ := hrel
          obtain ⟨wi, rfl⟩ : ∃ wi : World, wi = wr := ⟨_, rfl⟩
          have HS := Lib.hid HSB.out.1
          have HB := Lib.hid HSB.out.2
          have c35 := HS.out.1.ax.cell
          have hqs2 := HS.out.1.ax.hq
          have hwi : 3 ≤ wi.heap.size := Nat.le_trans hlo (Nat.le_trans hlw HS.out.1.bl.size)
          have HM := Lib.hid (len_at HS.out.1.ax)
          clear HSB
          go_wp2_with fail
          refine (isWs (cpOf s q2) _).mono ?_
          rintro e w3 ⟨rfl, rfl⟩
          cases hws : wsB (cpOf s q2)
          focus
            by_cases h41 : cpOf s q2 = 41
            focus
              obtain ⟨l2, b2, k2⟩ := cp_asc h41 (by omega) (by omega)
              have HB2 : Hid (bt s q2 = 41) := Lib.hid b2
              rw [h41] at c35
              clear b2 h41 hws
              go_wp2_with fail
              refine (stepA g s _ q2 _ HS.out.1.ax (HS.out.1.tabs HT.out hlo) hwi hs (by omega) (by omega)).mono ?_
              rintro e w4 ⟨rfl, h4, f4⟩
              rw [k2] at h4
              have HS4 := Lib.hid (HS.out.1.step h4 f4 (by omega))
              clear h4 f4 HS c35 k2
              go_wp2_with fail
              rw [Exit.noGoto_ret]
              go_ret

              exact HS4.out.url 37 (.inl rfl) (.inr ⟨by omega, by simpa using HB2.out⟩)
            focus
              have t41 : (cpOf s q2 != 41) = true := bne_iff_ne.2 h41
              clear h41 hws
              have hmq2 := HS.out.1.mq
              have c36 := HS.out.1.ax.cell36
              have c37 := HS.out.1.ax.cell37
              have HO : Hid (∀ o3, o3 ≤ s.size → (∀ p, m ≤ p → p < o3 → 128 ≤ bt s p) → o3 ≤ q2) := Lib.hid (by intro o3 h1 h2; have := HB.out; rcases Nat.lt_or_ge (q2 - 1) o3 with h3 | h3; (have := h2 (q2 - 1) (by omega) h3; omega); omega)

              go_wp2_with fail
              refine (end44 _ _ (by omega) (by omega) (by omega) (by omega) _).mono ?_
              rintro e w2 ⟨rfl, hb2⟩
              rw [show (m : Int) + 1 + ((q2 : Int) - ((m : Int) + 1)) = (q2 : Int) by omega]
              have HS2 : Hid (Sx B g s m lo w q2 w2 ∧ Lo g m lo k mu hm ms w.heap.size w w2) := Lib.hid ⟨HS.out.1.below hb2, HS.out.2.below hb2⟩
              clear hb2 HS c35 c36 c37
              go_upto_region 23 with fail
              generalize hV : w2.alloc _ = V
              have hb3 : Below w2.heap.size w2 V := by rw [← hV]; exact (Below.refl _ _).alloc (Nat.le_refl _) _
              have HP5 : Hid (Own V w2.heap.size 29 #[.int .i32 q2]) := Lib.hid (by rw [← hV]; exact Own.new _ _ _)
              have HS3 : Hid (Sx B g s m lo w q2 V ∧ Lo g m lo k mu hm ms w.heap.size w V) := Lib.hid ⟨HS2.out.1.below hb3, HS2.out.2.below hb3⟩
              obtain ⟨cs, hK, hR, hAX⟩ := Ax.open HS3.out.1.ax HBB.out
              have HK := Lib.hid hK
              have HR := Lib.hid hR
              have HAX := Lib.hid hAX
              have hV3 : 3 ≤ V.heap.size := Nat.le_trans hlo (Nat.le_trans hlw HS3.out.1.bl.size)
              generalize w2.heap.size = p5 at HP5
              have HSC : Hid (∀ (V' : World) (c : Array Value), Own V' g 64 c → Same cs c → Own V' p5 29 #[.int .i32 q2] → Own V' w.heap.size 29 #[.int .i32 m] → V'.cell? ⟨g, 1, none⟩ = some (.func (.func 78) #[] #[.pointer (some ⟨k, 0, none⟩), .pointer (some ⟨mu, 0, none⟩), .pointer (some ⟨hm, 0, none⟩), .pointer (some ⟨ms, 0, none⟩)]) ∧ V'.cell? ⟨g, 2, none⟩ = some (.func (.func 81) #[] #[.pointer (some ⟨mu, 0, none⟩), .pointer (some ⟨hm, 0, none⟩)]) ∧ V'.cell? ⟨g, 3, none⟩ = some (.func (.func 82) #[] #[.pointer (some ⟨mu, 0, none⟩), .pointer (some ⟨ms, 0, none⟩)]) ∧ V'.cell? ⟨g, 4, none⟩ = some (.func (.func 83) #[] #[.pointer (some ⟨mu, 0, none⟩), .pointer (some ⟨ms, 0, none⟩)]) ∧ V'.cell? ⟨g, 5, none⟩ = some (.int .i8 3) ∧ V'.cell? ⟨g, 6, none⟩ = some (.map none) ∧ V'.cell? ⟨p5, 0, none⟩ = some (.int .i32 q2) ∧ V'.cell? ⟨w.heap.size, 0, none⟩ = some (.int .i32 m)) := Lib.hid fun V' c ho hsm h5 hp => ⟨(ho.cell 1).trans ((hsm 1 (by omega)).trans ((HR.out 1 (by omega) (by omega) (by omega) (by omega)).trans HBB.out.b1)), (ho.cell 2).trans ((hsm 2 (by omega)).trans ((HR.out 2 (by omega) (by omega) (by omega) (by omega)).trans HBB.out.b2)), (ho.cell 3).trans ((hsm 3 (by omega)).trans ((HR.out 3 (by omega) (by omega) (by omega) (by omega)).trans HBB.out.b3)), (ho.cell 4).trans ((hsm 4 (by omega)).trans ((HR.out 4 (by omega) (by omega) (by omega) (by omega)).trans HBB.out.b4)), (ho.cell 5).trans ((hsm 5 (by omega)).trans ((HR.out 5 (by omega) (by omega) (by omega) (by omega)).trans HBB.out.b5)), (ho.cell 6).trans ((hsm 6 (by omega)).trans ((HR.out 6 (by omega) (by omega) (by omega) (by omega)).trans HBB.out.b6)), (h5.cell 0).trans rfl, (hp.cell 0).trans rfl⟩
              have NP5 : Hid (p5 ≠ g) := Lib.hid (own_ne HP5.out HK.out.tr.own (by decide))
              have NPL : Hid (w.heap.size ≠ g) := Lib.hid (own_ne HS3.out.2.loc HK.out.tr.own (by decide))
              have KQ : Hid (∀ (V0 V1 : World) (p : Nat) (t : TypeId) (c : Array Value), Own V0 p t c → Own V0 g 64 cs → V0.grownBy V1 (some g) → t ≠ 64 → Own V1 p t c) := Lib.hid fun V0 V1 p t c ho hq hg ht => (hg.block p ho.lt (fun e => own_ne ho hq ht (Option.some.inj e))).trans ho
              clear hb3 hV hK hR hAX HS2
              have HT3 := Lib.hid (HS3.out.1.tabs HT.out hlo)
              have hg3 : 3 ≤ g := Nat.le_trans hlo hg

              go_region_held3 (fun V' => V'.cell? ⟨g, 1, none⟩ = some (.func (.func 78) #[] #[.pointer (some ⟨k, 0, none⟩), .pointer (some ⟨mu, 0, none⟩), .pointer (some ⟨hm, 0, none⟩), .pointer (some ⟨ms, 0, none⟩)]) ∧ V'.cell? ⟨g, 2, none⟩ = some (.func (.func 81) #[] #[.pointer (some ⟨mu, 0, none⟩), .pointer (some ⟨hm, 0, none⟩)]) ∧ V'.cell? ⟨g, 3, none⟩ = some (.func (.func 82) #[] #[.pointer (some ⟨mu, 0, none⟩), .pointer (some ⟨ms, 0, none⟩)]) ∧ V'.cell? ⟨g, 4, none⟩ = some (.func (.func 83) #[] #[.pointer (some ⟨mu, 0, none⟩), .pointer (some ⟨ms, 0, none⟩)]) ∧ V'.cell? ⟨g, 5, none⟩ = some (.int .i8 3) ∧ V'.cell? ⟨g, 6, none⟩ = some (.map none) ∧ V'.cell? ⟨p5, 0, none⟩ = some (.int .i32 q2) ∧ V'.cell? ⟨w.heap.size, 0, none⟩ = some (.int .i32 m))
                (first
                  | assumption
                  | exact HSC.out _ _ ho4 (hk3.same.trans hs4) (hk4 _ _ _ ((KQ.out _ _ _ _ _ HP5.out.drew HK.out.tr.own.drew hk3.gr (by decide)).alloc _) NP5.out (by decide) (by decide) (by decide) (by decide)) (hk4 _ _ _ ((KQ.out _ _ _ _ _ HS3.out.2.loc.drew HK.out.tr.own.drew hk3.gr (by decide)).alloc _) NPL.out (by decide) (by decide) (by decide) (by decide))
                  | exact HSC.out _ _ (hk3.tr.own.alloc _) hk3.same ((KQ.out _ _ _ _ _ HP5.out.drew HK.out.tr.own.drew hk3.gr (by decide)).alloc _) ((KQ.out _ _ _ _ _ HS3.out.2.loc.drew HK.out.tr.own.drew hk3.gr (by decide)).alloc _)
                  | exact HSC.out _ _ hk3.tr.own hk3.same (KQ.out _ _ _ _ _ HP5.out.drew HK.out.tr.own.drew hk3.gr (by decide)) (KQ.out _ _ _ _ _ HS3.out.2.loc.drew HK.out.tr.own.drew hk3.gr (by decide))
                  | exact HSC.out _ _ HK.out.tr.own.drew (Same.refl _) HP5.out.drew HS3.out.2.loc.drew)
                (first
                  | (go_at_call 60; refine (dat60 g cs s m 0 0 0 0 false 1 _ _ (HK.out.below (below_drewN (Below.refl _ _) 1)).start (Nat.zero_le _) (by omega) hs (by omega) (by omega) (tabs_gr HT3.out hg3 hV3 (grown_of_below (below_drewN (Below.refl _ _) 1) (some g))) hg3 hV3).mono ?_; rintro e3 w3 ⟨⟨l, rfl⟩, cs3, o3, ln3, ls3, le3, hk3, ho3, hc3⟩)
                  | (go_at_call 59; refine (addIDN59 g cs3 s q2 o3 ln3 ls3 le3 true 0 _ _ _ _ k mu hm ms lo 0 _ [] _ (LogSt.below (LogSt.grown (LogSt.below HS3.out.2.log (below_drewN (Below.refl _ _) 1)) hk3.gr HK.out.tr.own.drew) ((Below.refl _ _).alloc (Nat.le_refl _) _)) (by omega) hg (hk3.start.below ((Below.refl _ _).alloc (Nat.le_refl _) _)).start (HO.out o3 hk3.ho hc3) (by omega) hs (by omega) (by omega) (tabs_gr (tabs_gr (tabs_gr HT3.out hg3 hV3 (grown_of_below (below_drewN (Below.refl _ _) 1) (some g))) hg3 hV3 hk3.gr) hg3 (Nat.le_trans hV3 hk3.gr.size) (grown_of_below ((Below.refl _ _).alloc (Nat.le_refl _) _) (some g))) hg3 (Nat.le_trans (Nat.le_trans hV3 hk3.gr.size) ((Below.refl _ _).alloc (Nat.le_refl _) _).size)).mono ?_; rintro e4 w4 ⟨rfl, ⟨cs4, ho4, hs4, hz4⟩, hb4, hk4⟩))
              have HS4 : Hid (Sx (fun i : Nat => cs4[i]?) g s m lo w q2 w4) := Lib.hid ⟨HAX.out _ _ ho4 (hk3.same.trans hs4) hz4, by omega, Below.trans (Below.alloc (gr_below (below_drewN HS3.out.1.bl 1) hlw hk3.gr hg) (Nat.le_trans hlw (Nat.le_trans HS3.out.1.bl.size hk3.gr.size)) _) hb4, hlw, hg⟩
              clear hs4 hb4 hk4 hk3 ho3 hc3 KQ
              generalize (fun i : Nat => cs4[i]?) = B4 at HS4
              clear ho4 hz4 HAX HK HR HSC HP5 NP5 NPL HT3 HS3 HO

              have c35 := HS4.out.ax.cell
              by_cases hx : cpOf s q2 = -1
              focus
                have HQ2 := Lib.hid (cp_end hqs2 hx)
                rw [hx] at c35
                clear hx
                go_wp2_with fail
                rw [Exit.noGoto_ret]
                go_ret

                exact HS4.out.url 37 (.inl rfl) (.inl HQ2.out)
              focus
                have tx : (cpOf s q2 == -1) = false := beq_eq_false_iff_ne.2 hx
                clear hx
                go_wp2_with fail
                clear c35 tx HB HM
                go_loopw [174] (fun _ wr => ∃ (q : Nat), Hid (Sx B4 g s m lo w q wr)) (fun _ wr => s.size + 1 - lenAt g wr)
                case atStart => exact ⟨q2, HS4⟩
                case round =>
                  clear HS4
                  obtain ⟨r, HS⟩ := hrel
                  obtain ⟨wp, rfl⟩ : ∃ wp : World, wp = wr := ⟨_, rfl⟩
                  have c35 := HS.out.ax.cell
                  have hrs := HS.out.ax.hq
                  have hmr := HS.out.mq
                  have hp3 : 3 ≤ wp.heap.size := Nat.le_trans hlo (Nat.le_trans hlw HS.out.bl.size)
                  have HM := Lib.hid (len_at HS.out.ax)
                  by_cases r41 : cpOf s r = 41
                  focus
                    obtain ⟨l1, b1, k1⟩ := cp_asc r41 (by omega) (by omega)
                    rw [r41] at c35
                    have HB1 : Hid (bt s r = 41) := Lib.hid b1
                    clear b1 r41
                    go_wp2_with fail
                    refine (stepA g s _ r _ HS.out.ax (HS.out.tabs HT.out hlo) hp3 hs (by omega) (by omega)).mono ?_
                    rintro e w2 ⟨rfl, h2, f2⟩
                    rw [k1] at h2
                    have HS2 := Lib.hid (HS.out.step h2 f2 (by omega))
                    clear h2 f2 HS c35 k1
                    go_wp2_with fail
                    rw [Exit.noGoto_ret]
                    go_ret
                    exact HS2.out.url 3 (.inr rfl) (.inr ⟨by omega, by simpa using HB1.out⟩)
                  by_cases rx : cpOf s r = -1
                  focus
                    have HQ2 := Lib.hid (cp_end hrs rx)
                    rw [rx] at c35
                    clear rx r41
                    go_wp2_with fail
                    refine (stepA g s _ r _ HS.out.ax (HS.out.tabs HT.out hlo) hp3 hs (by omega) (by omega)).mono ?_
                    rintro e w2 ⟨rfl, h2, f2⟩
                    rw [(cp_out (s := s) (q := r) (by have := HQ2.out; omega)).2, Nat.add_zero] at h2
                    have HS2 := Lib.hid (HS.out.step h2 f2 (Nat.le_refl _))
                    clear h2 f2 HS c35
                    go_wp2_with fail
                    rw [Exit.noGoto_ret]
                    go_ret
                    exact HS2.out.url 3 (.inr rfl) (.inl HQ2.out)
                  obtain ⟨l1, k1⟩ := cp_more rx
                  have hw1 := (cp_rng s r hrs).2.2
                  by_cases r92 : cpOf s r = 92
                  focus
                    obtain ⟨_, b1, _⟩ := cp_asc r92 (by omega) (by omega)
                    rw [r92] at c35
                    have HB1 : Hid (bt s r = 92) := Lib.hid b1
                    clear b1 r41 rx r92
                    go_wp2_with fail
                    refine (valid61 g s _ r _ HS.out.ax (HS.out.tabs HT.out hlo) hp3 hs).mono ?_
                    rintro e w2 ⟨⟨b, rfl⟩, hb2⟩
                    have hz2 := hb2.size
                    have HS2 := Lib.hid (HS.out.below hb2)
                    clear hb2 HS c35
                    cases b
                    focus
                      go_wp2_with fail
                      refine (stepA g s _ r _ HS2.out.ax (HS2.out.tabs HT.out hlo) (Nat.le_trans hp3 hz2) hs (by omega) (by omega)).mono ?_
                      rintro e w3 ⟨rfl, h3, f3⟩
                      have HM3 := Lib.hid (len_at h3)
                      have HS3 := Lib.hid (HS2.out.step h3 f3 (Nat.le_add_right _ _))
                      clear h3 f3 HS2
                      go_wp2_with fail
                      go_roundw
                      case rel => exact ⟨_, HS3⟩
                      case measure => rw [HM3.out, HM.out]; omega
                    focus
                      go_wp2_with fail
                      refine (escape g s _ r _ HS2.out.ax (HS2.out.tabs HT.out hlo) (Nat.le_trans hlo hg) (Nat.le_trans hp3 hz2) hs (by omega) (by omega) l1 HB1.out).mono ?_
                      rintro e w3 ⟨rfl, h3, f3⟩
                      have hd := stepD_le l1
                      have hz3 := f3.size
                      have HS3 := Lib.hid (HS2.out.step h3 f3 (Nat.le_of_lt hd.1))
                      clear h3 f3 HS2
                      generalize (stepD s r).1 = r2 at *
                      generalize (stepD s r).2 = rv at *
                      have hw2 := (cp_rng s r2 hd.2).2.2
                      go_wp2_with fail
                      refine (stepA g s _ r2 _ HS3.out.ax (HS3.out.tabs HT.out hlo) (Nat.le_trans hp3 (Nat.le_trans hz2 hz3)) hs (by omega) (by omega)).mono ?_
                      rintro e w4 ⟨rfl, h4, f4⟩
                      have HM4 := Lib.hid (len_at h4)
                      have HS4 := Lib.hid (HS3.out.step h4 f4 (Nat.le_add_right _ _))
                      clear h4 f4 HS3
                      go_wp2_with fail
                      go_roundw
                      case rel => exact ⟨_, HS4⟩
                      case measure => rw [HM4.out, HM.out]; omega
                  focus
                    have t41 : (cpOf s r == 41) = false := beq_eq_false_iff_ne.2 r41
                    have tx : (cpOf s r == -1) = false := beq_eq_false_iff_ne.2 rx
                    have t92 : (cpOf s r == 92) = false := beq_eq_false_iff_ne.2 r92
                    clear r41 rx r92
                    go_wp2_with fail
                    refine (stepA g s _ r _ HS.out.ax (HS.out.tabs HT.out hlo) hp3 hs (by omega) (by omega)).mono ?_
                    rintro e w3 ⟨rfl, h3, f3⟩
                    have HM3 := Lib.hid (len_at h3)
                    have HS3 := Lib.hid (HS.out.step h3 f3 (Nat.le_add_right _ _))
                    clear h3 f3 HS c35
                    go_wp2_with fail
                    go_roundw
                    case rel => exact ⟨_, HS3⟩
                    case measure => rw [HM3.out, HM.out]; omega

          focus
            have hcs : cpOf s q2 = 32 ∨ cpOf s q2 = 9 ∨ cpOf s q2 = 10 ∨ cpOf s q2 = 13 ∨ cpOf s q2 = 12 := by
              unfold wsB at hws
              simpa [or_assoc] using hws
            obtain ⟨l2, b2, k2⟩ := cp_asc (c := cpOf s q2) rfl (by omega) (by omega)
            have HB2 : Hid (bt s q2 < 128) := Lib.hid (by omega)
            clear b2 hcs hws
            go_wp2_with fail
            refine (stepA g s _ q2 _ HS.out.1.ax (HS.out.1.tabs HT.out hlo) hwi hs (by omega) (by omega)).mono ?_
            rintro e w4 ⟨rfl, h4, f4⟩
            rw [k2] at h4
            have HM4 := Lib.hid (len_at h4)
            have HS4 : Hid ((Sx B g s m lo w (q2 + 1) w4 ∧ Lo g m lo k mu hm ms w.heap.size w w4) ∧ bt s (q2 + 1 - 1) < 128) := Lib.hid ⟨⟨HS.out.1.step h4 f4 (by omega), HS.out.2.step HS.out.1.ax f4⟩, by simpa using HB2.out⟩
            have hmq2 := HS.out.1.mq
            clear h4 f4 HS c35 k2
            go_wp2_with fail
            go_roundw
            case rel => exact ⟨q2 + 1, by omega, HS4⟩
            case measure => rw [HM4.out, HM.out]; omega

    by_cases hqt : cpOf s q = 34 ∨ cpOf s q = 39 ∨ cpOf s q = 40
    focus
      rcases hqt with hc | hc | hc
      focus
        clear hw

        obtain ⟨l1, b1, k1⟩ := cp_asc hc (by omega) (by omega)
        have HB1 : Hid (bt s q < 128) := Lib.hid (by omega)
        rw [hc] at c35
        clear b1 hc h41 hx k1

        have c36 := HS.out.1.ax.cell36
        have c37 := HS.out.1.ax.cell37
        have HO : Hid (∀ o3, o3 ≤ s.size → (∀ p, m ≤ p → p < o3 → 128 ≤ bt s p) → o3 ≤ q) := Lib.hid (by intro o3 h1 h2; have := HB1.out; rcases Nat.lt_or_ge q o3 with h3 | h3; (have := h2 q (by omega) h3; omega); omega)

        go_wp2_with fail
        refine (end44 _ _ (by omega) (by omega) (by omega) (by omega) _).mono ?_
        rintro e w2 ⟨rfl, hb2⟩
        rw [show (m : Int) + 1 + ((q : Int) - ((m : Int) + 1)) = (q : Int) by omega]
        have HS2 : Hid (Sx B g s m lo w q w2 ∧ Lo g m lo k mu hm ms w.heap.size w w2) := Lib.hid ⟨HS.out.1.below hb2, HS.out.2.below hb2⟩
        clear hb2 HS c35 c36 c37
        go_upto_region 32 with fail
        generalize hV : w2.alloc _ = V
        have hb3 : Below w2.heap.size w2 V := by rw [← hV]; exact (Below.refl _ _).alloc (Nat.le_refl _) _
        have HP5 : Hid (Own V w2.heap.size 31 #[.int .i32 q, .int .i32 1]) := Lib.hid (by rw [← hV]; exact Own.new _ _ _)
        have HS3 : Hid (Sx B g s m lo w q V ∧ Lo g m lo k mu hm ms w.heap.size w V) := Lib.hid ⟨HS2.out.1.below hb3, HS2.out.2.below hb3⟩
        obtain ⟨cs, hK, hR, hAX⟩ := Ax.open HS3.out.1.ax HBB.out
        have HK := Lib.hid hK
        have HR := Lib.hid hR
        have HAX := Lib.hid hAX
        have hV3 : 3 ≤ V.heap.size := Nat.le_trans hlo (Nat.le_trans hlw HS3.out.1.bl.size)
        generalize w2.heap.size = p5 at HP5
        have HSC : Hid (∀ (V' : World) (c : Array Value), Own V' g 64 c → Same cs c → Own V' p5 31 #[.int .i32 q, .int .i32 1] → Own V' w.heap.size 29 #[.int .i32 m] → V'.cell? ⟨g, 1, none⟩ = some (.func (.func 78) #[] #[.pointer (some ⟨k, 0, none⟩), .pointer (some ⟨mu, 0, none⟩), .pointer (some ⟨hm, 0, none⟩), .pointer (some ⟨ms, 0, none⟩)]) ∧ V'.cell? ⟨g, 2, none⟩ = some (.func (.func 81) #[] #[.pointer (some ⟨mu, 0, none⟩), .pointer (some ⟨hm, 0, none⟩)]) ∧ V'.cell? ⟨g, 3, none⟩ = some (.func (.func 82) #[] #[.pointer (some ⟨mu, 0, none⟩), .pointer (some ⟨ms, 0, none⟩)]) ∧ V'.cell? ⟨g, 4, none⟩ = some (.func (.func 83) #[] #[.pointer (some ⟨mu, 0, none⟩), .pointer (some ⟨ms, 0, none⟩)]) ∧ V'.cell? ⟨g, 5, none⟩ = some (.int .i8 3) ∧ V'.cell? ⟨g, 6, none⟩ = some (.map none) ∧ V'.cell? ⟨p5, 0, none⟩ = some (.int .i32 q) ∧ V'.cell? ⟨p5, 1, none⟩ = some (.int .i32 1) ∧ V'.cell? ⟨w.heap.size, 0, none⟩ = some (.int .i32 m)) := Lib.hid fun V' c ho hsm h5 hp => ⟨(ho.cell 1).trans ((hsm 1 (by omega)).trans ((HR.out 1 (by omega) (by omega) (by omega) (by omega)).trans HBB.out.b1)), (ho.cell 2).trans ((hsm 2 (by omega)).trans ((HR.out 2 (by omega) (by omega) (by omega) (by omega)).trans HBB.out.b2)), (ho.cell 3).trans ((hsm 3 (by omega)).trans ((HR.out 3 (by omega) (by omega) (by omega) (by omega)).trans HBB.out.b3)), (ho.cell 4).trans ((hsm 4 (by omega)).trans ((HR.out 4 (by omega) (by omega) (by omega) (by omega)).trans HBB.out.b4)), (ho.cell 5).trans ((hsm 5 (by omega)).trans ((HR.out 5 (by omega) (by omega) (by omega) (by omega)).trans HBB.out.b5)), (ho.cell 6).trans ((hsm 6 (by omega)).trans ((HR.out 6 (by omega) (by omega) (by omega) (by omega)).trans HBB.out.b6)), (h5.cell 0).trans rfl, (h5.cell 1).trans rfl, (hp.cell 0).trans rfl⟩
        have NP5 : Hid (p5 ≠ g) := Lib.hid (own_ne HP5.out HK.out.tr.own (by decide))
        have NPL : Hid (w.heap.size ≠ g) := Lib.hid (own_ne HS3.out.2.loc HK.out.tr.own (by decide))
        have KQ : Hid (∀ (V0 V1 : World) (p : Nat) (t : TypeId) (c : Array Value), Own V0 p t c → Own V0 g 64 cs → V0.grownBy V1 (some g) → t ≠ 64 → Own V1 p t c) := Lib.hid fun V0 V1 p t c ho hq hg ht => (hg.block p ho.lt (fun e => own_ne ho hq ht (Option.some.inj e))).trans ho
        clear hb3 hV hK hR hAX HS2
        have HT3 := Lib.hid (HS3.out.1.tabs HT.out hlo)
        have hg3 : 3 ≤ g := Nat.le_trans hlo hg

        go_region_held3 (fun V' => V'.cell? ⟨g, 1, none⟩ = some (.func (.func 78) #[] #[.pointer (some ⟨k, 0, none⟩), .pointer (some ⟨mu, 0, none⟩), .pointer (some ⟨hm, 0, none⟩), .pointer (some ⟨ms, 0, none⟩)]) ∧ V'.cell? ⟨g, 2, none⟩ = some (.func (.func 81) #[] #[.pointer (some ⟨mu, 0, none⟩), .pointer (some ⟨hm, 0, none⟩)]) ∧ V'.cell? ⟨g, 3, none⟩ = some (.func (.func 82) #[] #[.pointer (some ⟨mu, 0, none⟩), .pointer (some ⟨ms, 0, none⟩)]) ∧ V'.cell? ⟨g, 4, none⟩ = some (.func (.func 83) #[] #[.pointer (some ⟨mu, 0, none⟩), .pointer (some ⟨ms, 0, none⟩)]) ∧ V'.cell? ⟨g, 5, none⟩ = some (.int .i8 3) ∧ V'.cell? ⟨g, 6, none⟩ = some (.map none) ∧ V'.cell? ⟨p5, 0, none⟩ = some (.int .i32 q) ∧ V'.cell? ⟨p5, 1, none⟩ = some (.int .i32 1) ∧ V'.cell? ⟨w.heap.size, 0, none⟩ = some (.int .i32 m))
          (first
            | assumption
            | exact HSC.out _ _ ho4 (hk3.same.trans hs4) (hk4 _ _ _ ((KQ.out _ _ _ _ _ HP5.out.drew HK.out.tr.own.drew hk3.gr (by decide)).alloc _) NP5.out (by decide) (by decide) (by decide) (by decide)) (hk4 _ _ _ ((KQ.out _ _ _ _ _ HS3.out.2.loc.drew HK.out.tr.own.drew hk3.gr (by decide)).alloc _) NPL.out (by decide) (by decide) (by decide) (by decide))
            | exact HSC.out _ _ (hk3.tr.own.alloc _) hk3.same ((KQ.out _ _ _ _ _ HP5.out.drew HK.out.tr.own.drew hk3.gr (by decide)).alloc _) ((KQ.out _ _ _ _ _ HS3.out.2.loc.drew HK.out.tr.own.drew hk3.gr (by decide)).alloc _)
            | exact HSC.out _ _ hk3.tr.own hk3.same (KQ.out _ _ _ _ _ HP5.out.drew HK.out.tr.own.drew hk3.gr (by decide)) (KQ.out _ _ _ _ _ HS3.out.2.loc.drew HK.out.tr.own.drew hk3.gr (by decide))
            | exact HSC.out _ _ HK.out.tr.own.drew (Same.refl _) HP5.out.drew HS3.out.2.loc.drew)
          (first
            | (go_at_call 60; refine (dat60 g cs s m 0 0 0 0 false 1 _ _ (HK.out.below (below_drewN (Below.refl _ _) 1)).start (Nat.zero_le _) (by omega) hs (by omega) (by omega) (tabs_gr HT3.out hg3 hV3 (grown_of_below (below_drewN (Below.refl _ _) 1) (some g))) hg3 hV3).mono ?_; rintro e3 w3 ⟨⟨l, rfl⟩, cs3, o3, ln3, ls3, le3, hk3, ho3, hc3⟩)
            | (go_at_call 59; refine (addIDN59 g cs3 s q o3 ln3 ls3 le3 true 1 _ _ _ _ k mu hm ms lo 0 _ [] _ (LogSt.below (LogSt.grown (LogSt.below HS3.out.2.log (below_drewN (Below.refl _ _) 1)) hk3.gr HK.out.tr.own.drew) ((Below.refl _ _).alloc (Nat.le_refl _) _)) (by omega) hg (hk3.start.below ((Below.refl _ _).alloc (Nat.le_refl _) _)).start (HO.out o3 hk3.ho hc3) (by omega) hs (by omega) (by omega) (tabs_gr (tabs_gr (tabs_gr HT3.out hg3 hV3 (grown_of_below (below_drewN (Below.refl _ _) 1) (some g))) hg3 hV3 hk3.gr) hg3 (Nat.le_trans hV3 hk3.gr.size) (grown_of_below ((Below.refl _ _).alloc (Nat.le_refl _) _) (some g))) hg3 (Nat.le_trans (Nat.le_trans hV3 hk3.gr.size) ((Below.refl _ _).alloc (Nat.le_refl _) _).size)).mono ?_; rintro e4 w4 ⟨rfl, ⟨cs4, ho4, hs4, hz4⟩, hb4, hk4⟩))
        have HS4 : Hid (Sx (fun i : Nat => cs4[i]?) g s m lo w q w4) := Lib.hid ⟨HAX.out _ _ ho4 (hk3.same.trans hs4) hz4, by omega, Below.trans (Below.alloc (gr_below (below_drewN HS3.out.1.bl 1) hlw hk3.gr hg) (Nat.le_trans hlw (Nat.le_trans HS3.out.1.bl.size hk3.gr.size)) _) hb4, hlw, hg⟩
        clear hs4 hb4 hk4 hk3 ho3 hc3 KQ
        generalize (fun i : Nat => cs4[i]?) = B4 at HS4
        clear ho4 hz4 HAX HK HR HSC HP5 NP5 NPL HT3 HS3 HO

        go_wp2_with fail
        go_loopw [174] (fun _ wr => ∃ (q : Nat), Hid (Sx B4 g s m lo w q wr)) (fun _ wr => s.size + 1 - lenAt g wr)
        case atStart => exact ⟨q, HS4⟩
        case round =>
          clear HS4
          obtain ⟨r, HS⟩ := hrel
          obtain ⟨wp, rfl⟩ : ∃ wp : World, wp = wr := ⟨_, rfl⟩
          have c35 := HS.out.ax.cell
          have hrs := HS.out.ax.hq
          have hmr := HS.out.mq
          have hp3 : 3 ≤ wp.heap.size := Nat.le_trans hlo (Nat.le_trans hlw HS.out.bl.size)
          have HM := Lib.hid (len_at HS.out.ax)
          by_cases r41 : cpOf s r = 41
          focus
            obtain ⟨l1, b1, k1⟩ := cp_asc r41 (by omega) (by omega)
            rw [r41] at c35
            have HB1 : Hid (bt s r = 41) := Lib.hid b1
            clear b1 r41
            go_wp2_with fail
            refine (stepA g s _ r _ HS.out.ax (HS.out.tabs HT.out hlo) hp3 hs (by omega) (by omega)).mono ?_
            rintro e w2 ⟨rfl, h2, f2⟩
            rw [k1] at h2
            have HS2 := Lib.hid (HS.out.step h2 f2 (by omega))
            clear h2 f2 HS c35 k1
            go_wp2_with fail
            rw [Exit.noGoto_ret]
            go_ret
            exact HS2.out.url 3 (.inr rfl) (.inr ⟨by omega, by simpa using HB1.out⟩)
          by_cases rx : cpOf s r = -1
          focus
            have HQ2 := Lib.hid (cp_end hrs rx)
            rw [rx] at c35
            clear rx r41
            go_wp2_with fail
            refine (stepA g s _ r _ HS.out.ax (HS.out.tabs HT.out hlo) hp3 hs (by omega) (by omega)).mono ?_
            rintro e w2 ⟨rfl, h2, f2⟩
            rw [(cp_out (s := s) (q := r) (by have := HQ2.out; omega)).2, Nat.add_zero] at h2
            have HS2 := Lib.hid (HS.out.step h2 f2 (Nat.le_refl _))
            clear h2 f2 HS c35
            go_wp2_with fail
            rw [Exit.noGoto_ret]
            go_ret
            exact HS2.out.url 3 (.inr rfl) (.inl HQ2.out)
          obtain ⟨l1, k1⟩ := cp_more rx
          have hw1 := (cp_rng s r hrs).2.2
          by_cases r92 : cpOf s r = 92
          focus
            obtain ⟨_, b1, _⟩ := cp_asc r92 (by omega) (by omega)
            rw [r92] at c35
            have HB1 : Hid (bt s r = 92) := Lib.hid b1
            clear b1 r41 rx r92
            go_wp2_with fail
            refine (valid61 g s _ r _ HS.out.ax (HS.out.tabs HT.out hlo) hp3 hs).mono ?_
            rintro e w2 ⟨⟨b, rfl⟩, hb2⟩
            have hz2 := hb2.size
            have HS2 := Lib.hid (HS.out.below hb2)
            clear hb2 HS c35
            cases b
            focus
              go_wp2_with fail
              refine (stepA g s _ r _ HS2.out.ax (HS2.out.tabs HT.out hlo) (Nat.le_trans hp3 hz2) hs (by omega) (by omega)).mono ?_
              rintro e w3 ⟨rfl, h3, f3⟩
              have HM3 := Lib.hid (len_at h3)
              have HS3 := Lib.hid (HS2.out.step h3 f3 (Nat.le_add_right _ _))
              clear h3 f3 HS2
              go_wp2_with fail
              go_roundw
              case rel => exact ⟨_, HS3⟩
              case measure => rw [HM3.out, HM.out]; omega
            focus
              go_wp2_with fail
              refine (escape g s _ r _ HS2.out.ax (HS2.out.tabs HT.out hlo) (Nat.le_trans hlo hg) (Nat.le_trans hp3 hz2) hs (by omega) (by omega) l1 HB1.out).mono ?_
              rintro e w3 ⟨rfl, h3, f3⟩
              have hd := stepD_le l1
              have hz3 := f3.size
              have HS3 := Lib.hid (HS2.out.step h3 f3 (Nat.le_of_lt hd.1))
              clear h3 f3 HS2
              generalize (stepD s r).1 = r2 at *
              generalize (stepD s r).2 = rv at *
              have hw2 := (cp_rng s r2 hd.2).2.2
              go_wp2_with fail
              refine (stepA g s _ r2 _ HS3.out.ax (HS3.out.tabs HT.out hlo) (Nat.le_trans hp3 (Nat.le_trans hz2 hz3)) hs (by omega) (by omega)).mono ?_
              rintro e w4 ⟨rfl, h4, f4⟩
              have HM4 := Lib.hid (len_at h4)
              have HS4 := Lib.hid (HS3.out.step h4 f4 (Nat.le_add_right _ _))
              clear h4 f4 HS3
              go_wp2_with fail
              go_roundw
              case rel => exact ⟨_, HS4⟩
              case measure => rw [HM4.out, HM.out]; omega
          focus
            have t41 : (cpOf s r == 41) = false := beq_eq_false_iff_ne.2 r41
            have tx : (cpOf s r == -1) = false := beq_eq_false_iff_ne.2 rx
            have t92 : (cpOf s r == 92) = false := beq_eq_false_iff_ne.2 r92
            clear r41 rx r92
            go_wp2_with fail
            refine (stepA g s _ r _ HS.out.ax (HS.out.tabs HT.out hlo) hp3 hs (by omega) (by omega)).mono ?_
            rintro e w3 ⟨rfl, h3, f3⟩
            have HM3 := Lib.hid (len_at h3)
            have HS3 := Lib.hid (HS.out.step h3 f3 (Nat.le_add_right _ _))
            clear h3 f3 HS c35
            go_wp2_with fail
            go_roundw
            case rel => exact ⟨_, HS3⟩
            case measure => rw [HM3.out, HM.out]; omega
      focus
        clear hw

        obtain ⟨l1, b1, k1⟩ := cp_asc hc (by omega) (by omega)
        have HB1 : Hid (bt s q < 128) := Lib.hid (by omega)
        rw [hc] at c35
        clear b1 hc h41 hx k1

        have c36 := HS.out.1.ax.cell36
        have c37 := HS.out.1.ax.cell37
        have HO : Hid (∀ o3, o3 ≤ s.size → (∀ p, m ≤ p → p < o3 → 128 ≤ bt s p) → o3 ≤ q) := Lib.hid (by intro o3 h1 h2; have := HB1.out; rcases Nat.lt_or_ge q o3 with h3 | h3; (have := h2 q (by omega) h3; omega); omega)

        go_wp2_with fail
        refine (end44 _ _ (by omega) (by omega) (by omega) (by omega) _).mono ?_
        rintro e w2 ⟨rfl, hb2⟩
        rw [show (m : Int) + 1 + ((q : Int) - ((m : Int) + 1)) = (q : Int) by omega]
        have HS2 : Hid (Sx B g s m lo w q w2 ∧ Lo g m lo k mu hm ms w.heap.size w w2) := Lib.hid ⟨HS.out.1.below hb2, HS.out.2.below hb2⟩
        clear hb2 HS c35 c36 c37
        go_upto_region 32 with fail
        generalize hV : w2.alloc _ = V
        have hb3 : Below w2.heap.size w2 V := by rw [← hV]; exact (Below.refl _ _).alloc (Nat.le_refl _) _
        have HP5 : Hid (Own V w2.heap.size 31 #[.int .i32 q, .int .i32 1]) := Lib.hid (by rw [← hV]; exact Own.new _ _ _)
        have HS3 : Hid (Sx B g s m lo w q V ∧ Lo g m lo k mu hm ms w.heap.size w V) := Lib.hid ⟨HS2.out.1.below hb3, HS2.out.2.below hb3⟩
        obtain ⟨cs, hK, hR, hAX⟩ := Ax.open HS3.out.1.ax HBB.out
        have HK := Lib.hid hK
        have HR := Lib.hid hR
        have HAX := Lib.hid hAX
        have hV3 : 3 ≤ V.heap.size := Nat.le_trans hlo (Nat.le_trans hlw HS3.out.1.bl.size)
        generalize w2.heap.size = p5 at HP5
        have HSC : Hid (∀ (V' : World) (c : Array Value), Own V' g 64 c → Same cs c → Own V' p5 31 #[.int .i32 q, .int .i32 1] → Own V' w.heap.size 29 #[.int .i32 m] → V'.cell? ⟨g, 1, none⟩ = some (.func (.func 78) #[] #[.pointer (some ⟨k, 0, none⟩), .pointer (some ⟨mu, 0, none⟩), .pointer (some ⟨hm, 0, none⟩), .pointer (some ⟨ms, 0, none⟩)]) ∧ V'.cell? ⟨g, 2, none⟩ = some (.func (.func 81) #[] #[.pointer (some ⟨mu, 0, none⟩), .pointer (some ⟨hm, 0, none⟩)]) ∧ V'.cell? ⟨g, 3, none⟩ = some (.func (.func 82) #[] #[.pointer (some ⟨mu, 0, none⟩), .pointer (some ⟨ms, 0, none⟩)]) ∧ V'.cell? ⟨g, 4, none⟩ = some (.func (.func 83) #[] #[.pointer (some ⟨mu, 0, none⟩), .pointer (some ⟨ms, 0, none⟩)]) ∧ V'.cell? ⟨g, 5, none⟩ = some (.int .i8 3) ∧ V'.cell? ⟨g, 6, none⟩ = some (.map none) ∧ V'.cell? ⟨p5, 0, none⟩ = some (.int .i32 q) ∧ V'.cell? ⟨p5, 1, none⟩ = some (.int .i32 1) ∧ V'.cell? ⟨w.heap.size, 0, none⟩ = some (.int .i32 m)) := Lib.hid fun V' c ho hsm h5 hp => ⟨(ho.cell 1).trans ((hsm 1 (by omega)).trans ((HR.out 1 (by omega) (by omega) (by omega) (by omega)).trans HBB.out.b1)), (ho.cell 2).trans ((hsm 2 (by omega)).trans ((HR.out 2 (by omega) (by omega) (by omega) (by omega)).trans HBB.out.b2)), (ho.cell 3).trans ((hsm 3 (by omega)).trans ((HR.out 3 (by omega) (by omega) (by omega) (by omega)).trans HBB.out.b3)), (ho.cell 4).trans ((hsm 4 (by omega)).trans ((HR.out 4 (by omega) (by omega) (by omega) (by omega)).trans HBB.out.b4)), (ho.cell 5).trans ((hsm 5 (by omega)).trans ((HR.out 5 (by omega) (by omega) (by omega) (by omega)).trans HBB.out.b5)), (ho.cell 6).trans ((hsm 6 (by omega)).trans ((HR.out 6 (by omega) (by omega) (by omega) (by omega)).trans HBB.out.b6)), (h5.cell 0).trans rfl, (h5.cell 1).trans rfl, (hp.cell 0).trans rfl⟩
        have NP5 : Hid (p5 ≠ g) := Lib.hid (own_ne HP5.out HK.out.tr.own (by decide))
        have NPL : Hid (w.heap.size ≠ g) := Lib.hid (own_ne HS3.out.2.loc HK.out.tr.own (by decide))
        have KQ : Hid (∀ (V0 V1 : World) (p : Nat) (t : TypeId) (c : Array Value), Own V0 p t c → Own V0 g 64 cs → V0.grownBy V1 (some g) → t ≠ 64 → Own V1 p t c) := Lib.hid fun V0 V1 p t c ho hq hg ht => (hg.block p ho.lt (fun e => own_ne ho hq ht (Option.some.inj e))).trans ho
        clear hb3 hV hK hR hAX HS2
        have HT3 := Lib.hid (HS3.out.1.tabs HT.out hlo)
        have hg3 : 3 ≤ g := Nat.le_trans hlo hg

        go_region_held3 (fun V' => V'.cell? ⟨g, 1, none⟩ = some (.func (.func 78) #[] #[.pointer (some ⟨k, 0, none⟩), .pointer (some ⟨mu, 0, none⟩), .pointer (some ⟨hm, 0, none⟩), .pointer (some ⟨ms, 0, none⟩)]) ∧ V'.cell? ⟨g, 2, none⟩ = some (.func (.func 81) #[] #[.pointer (some ⟨mu, 0, none⟩), .pointer (some ⟨hm, 0, none⟩)]) ∧ V'.cell? ⟨g, 3, none⟩ = some (.func (.func 82) #[] #[.pointer (some ⟨mu, 0, none⟩), .pointer (some ⟨ms, 0, none⟩)]) ∧ V'.cell? ⟨g, 4, none⟩ = some (.func (.func 83) #[] #[.pointer (some ⟨mu, 0, none⟩), .pointer (some ⟨ms, 0, none⟩)]) ∧ V'.cell? ⟨g, 5, none⟩ = some (.int .i8 3) ∧ V'.cell? ⟨g, 6, none⟩ = some (.map none) ∧ V'.cell? ⟨p5, 0, none⟩ = some (.int .i32 q) ∧ V'.cell? ⟨p5, 1, none⟩ = some (.int .i32 1) ∧ V'.cell? ⟨w.heap.size, 0, none⟩ = some (.int .i32 m))
          (first
            | assumption
            | exact HSC.out _ _ ho4 (hk3.same.trans hs4) (hk4 _ _ _ ((KQ.out _ _ _ _ _ HP5.out.drew HK.out.tr.own.drew hk3.gr (by decide)).alloc _) NP5.out (by decide) (by decide) (by decide) (by decide)) (hk4 _ _ _ ((KQ.out _ _ _ _ _ HS3.out.2.loc.drew HK.out.tr.own.drew hk3.gr (by decide)).alloc _) NPL.out (by decide) (by decide) (by decide) (by decide))
            | exact HSC.out _ _ (hk3.tr.own.alloc _) hk3.same ((KQ.out _ _ _ _ _ HP5.out.drew HK.out.tr.own.drew hk3.gr (by decide)).alloc _) ((KQ.out _ _ _ _ _ HS3.out.2.loc.drew HK.out.tr.own.drew hk3.gr (by decide)).alloc _)
            | exact HSC.out _ _ hk3.tr.own hk3.same (KQ.out _ _ _ _ _ HP5.out.drew HK.out.tr.own.drew hk3.gr (by decide)) (KQ.out _ _ _ _ _ HS3.out.2.loc.drew HK.out.tr.own.drew hk3.gr (by decide))
            | exact HSC.out _ _ HK.out.tr.own.drew (Same.refl _) HP5.out.drew HS3.out.2.loc.drew)
          (first
            | (go_at_call 60; refine (dat60 g cs s m 0 0 0 0 false 1 _ _ (HK.out.below (below_drewN (Below.refl _ _) 1)).start (Nat.zero_le _) (by omega) hs (by omega) (by omega) (tabs_gr HT3.out hg3 hV3 (grown_of_below (below_drewN (Below.refl _ _) 1) (some g))) hg3 hV3).mono ?_; rintro e3 w3 ⟨⟨l, rfl⟩, cs3, o3, ln3, ls3, le3, hk3, ho3, hc3⟩)
            | (go_at_call 59; refine (addIDN59 g cs3 s q o3 ln3 ls3 le3 true 1 _ _ _ _ k mu hm ms lo 0 _ [] _ (LogSt.below (LogSt.grown (LogSt.below HS3.out.2.log (below_drewN (Below.refl _ _) 1)) hk3.gr HK.out.tr.own.drew) ((Below.refl _ _).alloc (Nat.le_refl _) _)) (by omega) hg (hk3.start.below ((Below.refl _ _).alloc (Nat.le_refl _) _)).start (HO.out o3 hk3.ho hc3) (by omega) hs (by omega) (by omega) (tabs_gr (tabs_gr (tabs_gr HT3.out hg3 hV3 (grown_of_below (below_drewN (Below.refl _ _) 1) (some g))) hg3 hV3 hk3.gr) hg3 (Nat.le_trans hV3 hk3.gr.size) (grown_of_below ((Below.refl _ _).alloc (Nat.le_refl _) _) (some g))) hg3 (Nat.le_trans (Nat.le_trans hV3 hk3.gr.size) ((Below.refl _ _).alloc (Nat.le_refl _) _).size)).mono ?_; rintro e4 w4 ⟨rfl, ⟨cs4, ho4, hs4, hz4⟩, hb4, hk4⟩))
        have HS4 : Hid (Sx (fun i : Nat => cs4[i]?) g s m lo w q w4) := Lib.hid ⟨HAX.out _ _ ho4 (hk3.same.trans hs4) hz4, by omega, Below.trans (Below.alloc (gr_below (below_drewN HS3.out.1.bl 1) hlw hk3.gr hg) (Nat.le_trans hlw (Nat.le_trans HS3.out.1.bl.size hk3.gr.size)) _) hb4, hlw, hg⟩
        clear hs4 hb4 hk4 hk3 ho3 hc3 KQ
        generalize (fun i : Nat => cs4[i]?) = B4 at HS4
        clear ho4 hz4 HAX HK HR HSC HP5 NP5 NPL HT3 HS3 HO

        go_wp2_with fail
        go_loopw [174] (fun _ wr => ∃ (q : Nat), Hid (Sx B4 g s m lo w q wr)) (fun _ wr => s.size + 1 - lenAt g wr)
        case atStart => exact ⟨q, HS4⟩
        case round =>
          clear HS4
          obtain ⟨r, HS⟩ := hrel
          obtain ⟨wp, rfl⟩ : ∃ wp : World, wp = wr := ⟨_, rfl⟩
          have c35 := HS.out.ax.cell
          have hrs := HS.out.ax.hq
          have hmr := HS.out.mq
          have hp3 : 3 ≤ wp.heap.size := Nat.le_trans hlo (Nat.le_trans hlw HS.out.bl.size)
          have HM := Lib.hid (len_at HS.out.ax)
          by_cases r41 : cpOf s r = 41
          focus
            obtain ⟨l1, b1, k1⟩ := cp_asc r41 (by omega) (by omega)
            rw [r41] at c35
            have HB1 : Hid (bt s r = 41) := Lib.hid b1
            clear b1 r41
            go_wp2_with fail
            refine (stepA g s _ r _ HS.out.ax (HS.out.tabs HT.out hlo) hp3 hs (by omega) (by omega)).mono ?_
            rintro e w2 ⟨rfl, h2, f2⟩
            rw [k1] at h2
            have HS2 := Lib.hid (HS.out.step h2 f2 (by omega))
            clear h2 f2 HS c35 k1
            go_wp2_with fail
            rw [Exit.noGoto_ret]
            go_ret
            exact HS2.out.url 3 (.inr rfl) (.inr ⟨by omega, by simpa using HB1.out⟩)
          by_cases rx : cpOf s r = -1
          focus
            have HQ2 := Lib.hid (cp_end hrs rx)
            rw [rx] at c35
            clear rx r41
            go_wp2_with fail
            refine (stepA g s _ r _ HS.out.ax (HS.out.tabs HT.out hlo) hp3 hs (by omega) (by omega)).mono ?_
            rintro e w2 ⟨rfl, h2, f2⟩
            rw [(cp_out (s := s) (q := r) (by have := HQ2.out; omega)).2, Nat.add_zero] at h2
            have HS2 := Lib.hid (HS.out.step h2 f2 (Nat.le_refl _))
            clear h2 f2 HS c35
            go_wp2_with fail
            rw [Exit.noGoto_ret]
            go_ret
            exact HS2.out.url 3 (.inr rfl) (.inl HQ2.out)
          obtain ⟨l1, k1⟩ := cp_more rx
          have hw1 := (cp_rng s r hrs).2.2
          by_cases r92 : cpOf s r = 92
          focus
            obtain ⟨_, b1, _⟩ := cp_asc r92 (by omega) (by omega)
            rw [r92] at c35
            have HB1 : Hid (bt s r = 92) := Lib.hid b1
            clear b1 r41 rx r92
            go_wp2_with fail
            refine (valid61 g s _ r _ HS.out.ax (HS.out.tabs HT.out hlo) hp3 hs).mono ?_
            rintro e w2 ⟨⟨b, rfl⟩, hb2⟩
            have hz2 := hb2.size
            have HS2 := Lib.hid (HS.out.below hb2)
            clear hb2 HS c35
            cases b
            focus
              go_wp2_with fail
              refine (stepA g s _ r _ HS2.out.ax (HS2.out.tabs HT.out hlo) (Nat.le_trans hp3 hz2) hs (by omega) (by omega)).mono ?_
              rintro e w3 ⟨rfl, h3, f3⟩
              have HM3 := Lib.hid (len_at h3)
              have HS3 := Lib.hid (HS2.out.step h3 f3 (Nat.le_add_right _ _))
              clear h3 f3 HS2
              go_wp2_with fail
              go_roundw
              case rel => exact ⟨_, HS3⟩
              case measure => rw [HM3.out, HM.out]; omega
            focus
              go_wp2_with fail
              refine (escape g s _ r _ HS2.out.ax (HS2.out.tabs HT.out hlo) (Nat.le_trans hlo hg) (Nat.le_trans hp3 hz2) hs (by omega) (by omega) l1 HB1.out).mono ?_
              rintro e w3 ⟨rfl, h3, f3⟩
              have hd := stepD_le l1
              have hz3 := f3.size
              have HS3 := Lib.hid (HS2.out.step h3 f3 (Nat.le_of_lt hd.1))
              clear h3 f3 HS2
              generalize (stepD s r).1 = r2 at *
              generalize (stepD s r).2 = rv at *
              have hw2 := (cp_rng s r2 hd.2).2.2
              go_wp2_with fail
              refine (stepA g s _ r2 _ HS3.out.ax (HS3.out.tabs HT.out hlo) (Nat.le_trans hp3 (Nat.le_trans hz2 hz3)) hs (by omega) (by omega)).mono ?_
              rintro e w4 ⟨rfl, h4, f4⟩
              have HM4 := Lib.hid (len_at h4)
              have HS4 := Lib.hid (HS3.out.step h4 f4 (Nat.le_add_right _ _))
              clear h4 f4 HS3
              go_wp2_with fail
              go_roundw
              case rel => exact ⟨_, HS4⟩
              case measure => rw [HM4.out, HM.out]; omega
          focus
            have t41 : (cpOf s r == 41) = false := beq_eq_false_iff_ne.2 r41
            have tx : (cpOf s r == -1) = false := beq_eq_false_iff_ne.2 rx
            have t92 : (cpOf s r == 92) = false := beq_eq_false_iff_ne.2 r92
            clear r41 rx r92
            go_wp2_with fail
            refine (stepA g s _ r _ HS.out.ax (HS.out.tabs HT.out hlo) hp3 hs (by omega) (by omega)).mono ?_
            rintro e w3 ⟨rfl, h3, f3⟩
            have HM3 := Lib.hid (len_at h3)
            have HS3 := Lib.hid (HS.out.step h3 f3 (Nat.le_add_right _ _))
            clear h3 f3 HS c35
            go_wp2_with fail
            go_roundw
            case rel => exact ⟨_, HS3⟩
            case measure => rw [HM3.out, HM.out]; omega
      focus
        clear hw

        obtain ⟨l1, b1, k1⟩ := cp_asc hc (by omega) (by omega)
        have HB1 : Hid (bt s q < 128) := Lib.hid (by omega)
        rw [hc] at c35
        clear b1 hc h41 hx k1

        have c36 := HS.out.1.ax.cell36
        have c37 := HS.out.1.ax.cell37
        have HO : Hid (∀ o3, o3 ≤ s.size → (∀ p, m ≤ p → p < o3 → 128 ≤ bt s p) → o3 ≤ q) := Lib.hid (by intro o3 h1 h2; have := HB1.out; rcases Nat.lt_or_ge q o3 with h3 | h3; (have := h2 q (by omega) h3; omega); omega)

        go_wp2_with fail
        refine (end44 _ _ (by omega) (by omega) (by omega) (by omega) _).mono ?_
        rintro e w2 ⟨rfl, hb2⟩
        rw [show (m : Int) + 1 + ((q : Int) - ((m : Int) + 1)) = (q : Int) by omega]
        have HS2 : Hid (Sx B g s m lo w q w2 ∧ Lo g m lo k mu hm ms w.heap.size w w2) := Lib.hid ⟨HS.out.1.below hb2, HS.out.2.below hb2⟩
        clear hb2 HS c35 c36 c37
        go_upto_region 32 with fail
        generalize hV : w2.alloc _ = V
        have hb3 : Below w2.heap.size w2 V := by rw [← hV]; exact (Below.refl _ _).alloc (Nat.le_refl _) _
        have HP5 : Hid (Own V w2.heap.size 31 #[.int .i32 q, .int .i32 1]) := Lib.hid (by rw [← hV]; exact Own.new _ _ _)
        have HS3 : Hid (Sx B g s m lo w q V ∧ Lo g m lo k mu hm ms w.heap.size w V) := Lib.hid ⟨HS2.out.1.below hb3, HS2.out.2.below hb3⟩
        obtain ⟨cs, hK, hR, hAX⟩ := Ax.open HS3.out.1.ax HBB.out
        have HK := Lib.hid hK
        have HR := Lib.hid hR
        have HAX := Lib.hid hAX
        have hV3 : 3 ≤ V.heap.size := Nat.le_trans hlo (Nat.le_trans hlw HS3.out.1.bl.size)
        generalize w2.heap.size = p5 at HP5
        have HSC : Hid (∀ (V' : World) (c : Array Value), Own V' g 64 c → Same cs c → Own V' p5 31 #[.int .i32 q, .int .i32 1] → Own V' w.heap.size 29 #[.int .i32 m] → V'.cell? ⟨g, 1, none⟩ = some (.func (.func 78) #[] #[.pointer (some ⟨k, 0, none⟩), .pointer (some ⟨mu, 0, none⟩), .pointer (some ⟨hm, 0, none⟩), .pointer (some ⟨ms, 0, none⟩)]) ∧ V'.cell? ⟨g, 2, none⟩ = some (.func (.func 81) #[] #[.pointer (some ⟨mu, 0, none⟩), .pointer (some ⟨hm, 0, none⟩)]) ∧ V'.cell? ⟨g, 3, none⟩ = some (.func (.func 82) #[] #[.pointer (some ⟨mu, 0, none⟩), .pointer (some ⟨ms, 0, none⟩)]) ∧ V'.cell? ⟨g, 4, none⟩ = some (.func (.func 83) #[] #[.pointer (some ⟨mu, 0, none⟩), .pointer (some ⟨ms, 0, none⟩)]) ∧ V'.cell? ⟨g, 5, none⟩ = some (.int .i8 3) ∧ V'.cell? ⟨g, 6, none⟩ = some (.map none) ∧ V'.cell? ⟨p5, 0, none⟩ = some (.int .i32 q) ∧ V'.cell? ⟨p5, 1, none⟩ = some (.int .i32 1) ∧ V'.cell? ⟨w.heap.size, 0, none⟩ = some (.int .i32 m)) := Lib.hid fun V' c ho hsm h5 hp => ⟨(ho.cell 1).trans ((hsm 1 (by omega)).trans ((HR.out 1 (by omega) (by omega) (by omega) (by omega)).trans HBB.out.b1)), (ho.cell 2).trans ((hsm 2 (by omega)).trans ((HR.out 2 (by omega) (by omega) (by omega) (by omega)).trans HBB.out.b2)), (ho.cell 3).trans ((hsm 3 (by omega)).trans ((HR.out 3 (by omega) (by omega) (by omega) (by omega)).trans HBB.out.b3)), (ho.cell 4).trans ((hsm 4 (by omega)).trans ((HR.out 4 (by omega) (by omega) (by omega) (by omega)).trans HBB.out.b4)), (ho.cell 5).trans ((hsm 5 (by omega)).trans ((HR.out 5 (by omega) (by omega) (by omega) (by omega)).trans HBB.out.b5)), (ho.cell 6).trans ((hsm 6 (by omega)).trans ((HR.out 6 (by omega) (by omega) (by omega) (by omega)).trans HBB.out.b6)), (h5.cell 0).trans rfl, (h5.cell 1).trans rfl, (hp.cell 0).trans rfl⟩
        have NP5 : Hid (p5 ≠ g) := Lib.hid (own_ne HP5.out HK.out.tr.own (by decide))
        have NPL : Hid (w.heap.size ≠ g) := Lib.hid (own_ne HS3.out.2.loc HK.out.tr.own (by decide))
        have KQ : Hid (∀ (V0 V1 : World) (p : Nat) (t : TypeId) (c : Array Value), Own V0 p t c → Own V0 g 64 cs → V0.grownBy V1 (some g) → t ≠ 64 → Own V1 p t c) := Lib.hid fun V0 V1 p t c ho hq hg ht => (hg.block p ho.lt (fun e => own_ne ho hq ht (Option.some.inj e))).trans ho
        clear hb3 hV hK hR hAX HS2
        have HT3 := Lib.hid (HS3.out.1.tabs HT.out hlo)
        have hg3 : 3 ≤ g := Nat.le_trans hlo hg

        go_region_held3 (fun V' => V'.cell? ⟨g, 1, none⟩ = some (.func (.func 78) #[] #[.pointer (some ⟨k, 0, none⟩), .pointer (some ⟨mu, 0, none⟩), .pointer (some ⟨hm, 0, none⟩), .pointer (some ⟨ms, 0, none⟩)]) ∧ V'.cell? ⟨g, 2, none⟩ = some (.func (.func 81) #[] #[.pointer (some ⟨mu, 0, none⟩), .pointer (some ⟨hm, 0, none⟩)]) ∧ V'.cell? ⟨g, 3, none⟩ = some (.func (.func 82) #[] #[.pointer (some ⟨mu, 0, none⟩), .pointer (some ⟨ms, 0, none⟩)]) ∧ V'.cell? ⟨g, 4, none⟩ = some (.func (.func 83) #[] #[.pointer (some ⟨mu, 0, none⟩), .pointer (some ⟨ms, 0, none⟩)]) ∧ V'.cell? ⟨g, 5, none⟩ = some (.int .i8 3) ∧ V'.cell? ⟨g, 6, none⟩ = some (.map none) ∧ V'.cell? ⟨p5, 0, none⟩ = some (.int .i32 q) ∧ V'.cell? ⟨p5, 1, none⟩ = some (.int .i32 1) ∧ V'.cell? ⟨w.heap.size, 0, none⟩ = some (.int .i32 m))
          (first
            | assumption
            | exact HSC.out _ _ ho4 (hk3.same.trans hs4) (hk4 _ _ _ ((KQ.out _ _ _ _ _ HP5.out.drew HK.out.tr.own.drew hk3.gr (by decide)).alloc _) NP5.out (by decide) (by decide) (by decide) (by decide)) (hk4 _ _ _ ((KQ.out _ _ _ _ _ HS3.out.2.loc.drew HK.out.tr.own.drew hk3.gr (by decide)).alloc _) NPL.out (by decide) (by decide) (by decide) (by decide))
            | exact HSC.out _ _ (hk3.tr.own.alloc _) hk3.same ((KQ.out _ _ _ _ _ HP5.out.drew HK.out.tr.own.drew hk3.gr (by decide)).alloc _) ((KQ.out _ _ _ _ _ HS3.out.2.loc.drew HK.out.tr.own.drew hk3.gr (by decide)).alloc _)
            | exact HSC.out _ _ hk3.tr.own hk3.same (KQ.out _ _ _ _ _ HP5.out.drew HK.out.tr.own.drew hk3.gr (by decide)) (KQ.out _ _ _ _ _ HS3.out.2.loc.drew HK.out.tr.own.drew hk3.gr (by decide))
            | exact HSC.out _ _ HK.out.tr.own.drew (Same.refl _) HP5.out.drew HS3.out.2.loc.drew)
          (first
            | (go_at_call 60; refine (dat60 g cs s m 0 0 0 0 false 1 _ _ (HK.out.below (below_drewN (Below.refl _ _) 1)).start (Nat.zero_le _) (by omega) hs (by omega) (by omega) (tabs_gr HT3.out hg3 hV3 (grown_of_below (below_drewN (Below.refl _ _) 1) (some g))) hg3 hV3).mono ?_; rintro e3 w3 ⟨⟨l, rfl⟩, cs3, o3, ln3, ls3, le3, hk3, ho3, hc3⟩)
            | (go_at_call 59; refine (addIDN59 g cs3 s q o3 ln3 ls3 le3 true 1 _ _ _ _ k mu hm ms lo 0 _ [] _ (LogSt.below (LogSt.grown (LogSt.below HS3.out.2.log (below_drewN (Below.refl _ _) 1)) hk3.gr HK.out.tr.own.drew) ((Below.refl _ _).alloc (Nat.le_refl _) _)) (by omega) hg (hk3.start.below ((Below.refl _ _).alloc (Nat.le_refl _) _)).start (HO.out o3 hk3.ho hc3) (by omega) hs (by omega) (by omega) (tabs_gr (tabs_gr (tabs_gr HT3.out hg3 hV3 (grown_of_below (below_drewN (Below.refl _ _) 1) (some g))) hg3 hV3 hk3.gr) hg3 (Nat.le_trans hV3 hk3.gr.size) (grown_of_below ((Below.refl _ _).alloc (Nat.le_refl _) _) (some g))) hg3 (Nat.le_trans (Nat.le_trans hV3 hk3.gr.size) ((Below.refl _ _).alloc (Nat.le_refl _) _).size)).mono ?_; rintro e4 w4 ⟨rfl, ⟨cs4, ho4, hs4, hz4⟩, hb4, hk4⟩))
        have HS4 : Hid (Sx (fun i : Nat => cs4[i]?) g s m lo w q w4) := Lib.hid ⟨HAX.out _ _ ho4 (hk3.same.trans hs4) hz4, by omega, Below.trans (Below.alloc (gr_below (below_drewN HS3.out.1.bl 1) hlw hk3.gr hg) (Nat.le_trans hlw (Nat.le_trans HS3.out.1.bl.size hk3.gr.size)) _) hb4, hlw, hg⟩
        clear hs4 hb4 hk4 hk3 ho3 hc3 KQ
        generalize (fun i : Nat => cs4[i]?) = B4 at HS4
        clear ho4 hz4 HAX HK HR HSC HP5 NP5 NPL HT3 HS3 HO

        go_wp2_with fail
        go_loopw [174] (fun _ wr => ∃ (q : Nat), Hid (Sx B4 g s m lo w q wr)) (fun _ wr => s.size + 1 - lenAt g wr)
        case atStart => exact ⟨q, HS4⟩
        case round =>
          clear HS4
          obtain ⟨r, HS⟩ := hrel
          obtain ⟨wp, rfl⟩ : ∃ wp : World, wp = wr := ⟨_, rfl⟩
          have c35 := HS.out.ax.cell
          have hrs := HS.out.ax.hq
          have hmr := HS.out.mq
          have hp3 : 3 ≤ wp.heap.size := Nat.le_trans hlo (Nat.le_trans hlw HS.out.bl.size)
          have HM := Lib.hid (len_at HS.out.ax)
          by_cases r41 : cpOf s r = 41
          focus
            obtain ⟨l1, b1, k1⟩ := cp_asc r41 (by omega) (by omega)
            rw [r41] at c35
            have HB1 : Hid (bt s r = 41) := Lib.hid b1
            clear b1 r41
            go_wp2_with fail
            refine (stepA g s _ r _ HS.out.ax (HS.out.tabs HT.out hlo) hp3 hs (by omega) (by omega)).mono ?_
            rintro e w2 ⟨rfl, h2, f2⟩
            rw [k1] at h2
            have HS2 := Lib.hid (HS.out.step h2 f2 (by omega))
            clear h2 f2 HS c35 k1
            go_wp2_with fail
            rw [Exit.noGoto_ret]
            go_ret
            exact HS2.out.url 3 (.inr rfl) (.inr ⟨by omega, by simpa using HB1.out⟩)
          by_cases rx : cpOf s r = -1
          focus
            have HQ2 := Lib.hid (cp_end hrs rx)
            rw [rx] at c35
            clear rx r41
            go_wp2_with fail
            refine (stepA g s _ r _ HS.out.ax (HS.out.tabs HT.out hlo) hp3 hs (by omega) (by omega)).mono ?_
            rintro e w2 ⟨rfl, h2, f2⟩
            rw [(cp_out (s := s) (q := r) (by have := HQ2.out; omega)).2, Nat.add_zero] at h2
            have HS2 := Lib.hid (HS.out.step h2 f2 (Nat.le_refl _))
            clear h2 f2 HS c35
            go_wp2_with fail
            rw [Exit.noGoto_ret]
            go_ret
            exact HS2.out.url 3 (.inr rfl) (.inl HQ2.out)
          obtain ⟨l1, k1⟩ := cp_more rx
          have hw1 := (cp_rng s r hrs).2.2
          by_cases r92 : cpOf s r = 92
          focus
            obtain ⟨_, b1, _⟩ := cp_asc r92 (by omega) (by omega)
            rw [r92] at c35
            have HB1 : Hid (bt s r = 92) := Lib.hid b1
            clear b1 r41 rx r92
            go_wp2_with fail
            refine (valid61 g s _ r _ HS.out.ax (HS.out.tabs HT.out hlo) hp3 hs).mono ?_
            rintro e w2 ⟨⟨b, rfl⟩, hb2⟩
            have hz2 := hb2.size
            have HS2 := Lib.hid (HS.out.below hb2)
            clear hb2 HS c35
            cases b
            focus
              go_wp2_with fail
              refine (stepA g s _ r _ HS2.out.ax (HS2.out.tabs HT.out hlo) (Nat.le_trans hp3 hz2) hs (by omega) (by omega)).mono ?_
              rintro e w3 ⟨rfl, h3, f3⟩
              have HM3 := Lib.hid (len_at h3)
              have HS3 := Lib.hid (HS2.out.step h3 f3 (Nat.le_add_right _ _))
              clear h3 f3 HS2
              go_wp2_with fail
              go_roundw
              case rel => exact ⟨_, HS3⟩
              case measure => rw [HM3.out, HM.out]; omega
            focus
              go_wp2_with fail
              refine (escape g s _ r _ HS2.out.ax (HS2.out.tabs HT.out hlo) (Nat.le_trans hlo hg) (Nat.le_trans hp3 hz2) hs (by omega) (by omega) l1 HB1.out).mono ?_
              rintro e w3 ⟨rfl, h3, f3⟩
              have hd := stepD_le l1
              have hz3 := f3.size
              have HS3 := Lib.hid (HS2.out.step h3 f3 (Nat.le_of_lt hd.1))
              clear h3 f3 HS2
              generalize (stepD s r).1 = r2 at *
              generalize (stepD s r).2 = rv at *
              have hw2 := (cp_rng s r2 hd.2).2.2
              go_wp2_with fail
              refine (stepA g s _ r2 _ HS3.out.ax (HS3.out.tabs HT.out hlo) (Nat.le_trans hp3 (Nat.le_trans hz2 hz3)) hs (by omega) (by omega)).mono ?_
              rintro e w4 ⟨rfl, h4, f4⟩
              have HM4 := Lib.hid (len_at h4)
              have HS4 := Lib.hid (HS3.out.step h4 f4 (Nat.le_add_right _ _))
              clear h4 f4 HS3
              go_wp2_with fail
              go_roundw
              case rel => exact ⟨_, HS4⟩
              case measure => rw [HM4.out, HM.out]; omega
          focus
            have t41 : (cpOf s r == 41) = false := beq_eq_false_iff_ne.2 r41
            have tx : (cpOf s r == -1) = false := beq_eq_false_iff_ne.2 rx
            have t92 : (cpOf s r == 92) = false := beq_eq_false_iff_ne.2 r92
            clear r41 rx r92
            go_wp2_with fail
            refine (stepA g s _ r _ HS.out.ax (HS.out.tabs HT.out hlo) hp3 hs (by omega) (by omega)).mono ?_
            rintro e w3 ⟨rfl, h3, f3⟩
            have HM3 := Lib.hid (len_at h3)
            have HS3 := Lib.hid (HS.out.step h3 f3 (Nat.le_add_right _ _))
            clear h3 f3 HS c35
            go_wp2_with fail
            go_roundw
            case rel => exact ⟨_, HS3⟩
            case measure => rw [HM3.out, HM.out]; omega

    by_cases h92 : cpOf s q = 92
    focus
      have hc := h92
      clear h92 hw hqt
      obtain ⟨l1, b1, k1⟩ := cp_asc hc (by omega) (by omega)
      have HB1 : Hid (bt s q = 92) := Lib.hid b1
      have HM := Lib.hid (len_at HS.out.1.ax)
      rw [hc] at c35
      clear b1 hc h41 hx k1
      go_wp2_with fail
      refine (valid61 g s _ q _ HS.out.1.ax (HS.out.1.tabs HT.out hlo) hw3 hs).mono ?_
      rintro e w5 ⟨⟨b, rfl⟩, hb5⟩
      have hz5 := hb5.size
      have HS5 : Hid (Sx B g s m lo w q w5 ∧ Lo g m lo k mu hm ms w.heap.size w w5) := Lib.hid ⟨HS.out.1.below hb5, HS.out.2.below hb5⟩
      clear hb5 HS c35
      cases b
      focus
        have HS := HS5
        have c35 := HS5.out.1.ax.cell
        clear HS5
        have c36 := HS.out.1.ax.cell36
        have c37 := HS.out.1.ax.cell37


        go_wp2_with fail
        refine (end44 _ _ (by omega) (by omega) (by omega) (by omega) _).mono ?_
        rintro e w2 ⟨rfl, hb2⟩
        rw [show (m : Int) + 1 + ((q : Int) - ((m : Int) + 1)) = (q : Int) by omega]
        have HS2 : Hid (Sx B g s m lo w q w2 ∧ Lo g m lo k mu hm ms w.heap.size w w2) := Lib.hid ⟨HS.out.1.below hb2, HS.out.2.below hb2⟩
        clear hb2 HS c35 c36 c37
        go_upto_region 36 with fail
        generalize hV : w2.alloc _ = V
        have hb3 : Below w2.heap.size w2 V := by rw [← hV]; exact (Below.refl _ _).alloc (Nat.le_refl _) _
        have HP5 : Hid (Own V w2.heap.size 31 #[.int .i32 q, .int .i32 1]) := Lib.hid (by rw [← hV]; exact Own.new _ _ _)
        have HS3 : Hid (Sx B g s m lo w q V ∧ Lo g m lo k mu hm ms w.heap.size w V) := Lib.hid ⟨HS2.out.1.below hb3, HS2.out.2.below hb3⟩
        obtain ⟨cs, hK, hR, hAX⟩ := Ax.open HS3.out.1.ax HBB.out
        have HK := Lib.hid hK
        have HR := Lib.hid hR
        have HAX := Lib.hid hAX
        have hV3 : 3 ≤ V.heap.size := Nat.le_trans hlo (Nat.le_trans hlw HS3.out.1.bl.size)
        generalize w2.heap.size = p5 at HP5
        have HSC : Hid (∀ (V' : World) (c : Array Value), Own V' g 64 c → Same cs c → Own V' p5 31 #[.int .i32 q, .int .i32 1] → Own V' w.heap.size 29 #[.int .i32 m] → V'.cell? ⟨g, 1, none⟩ = some (.func (.func 78) #[] #[.pointer (some ⟨k, 0, none⟩), .pointer (some ⟨mu, 0, none⟩), .pointer (some ⟨hm, 0, none⟩), .pointer (some ⟨ms, 0, none⟩)]) ∧ V'.cell? ⟨g, 2, none⟩ = some (.func (.func 81) #[] #[.pointer (some ⟨mu, 0, none⟩), .pointer (some ⟨hm, 0, none⟩)]) ∧ V'.cell? ⟨g, 3, none⟩ = some (.func (.func 82) #[] #[.pointer (some ⟨mu, 0, none⟩), .pointer (some ⟨ms, 0, none⟩)]) ∧ V'.cell? ⟨g, 4, none⟩ = some (.func (.func 83) #[] #[.pointer (some ⟨mu, 0, none⟩), .pointer (some ⟨ms, 0, none⟩)]) ∧ V'.cell? ⟨g, 5, none⟩ = some (.int .i8 3) ∧ V'.cell? ⟨g, 6, none⟩ = some (.map none) ∧ V'.cell? ⟨p5, 0, none⟩ = some (.int .i32 q) ∧ V'.cell? ⟨p5, 1, none⟩ = some (.int .i32 1) ∧ V'.cell? ⟨w.heap.size, 0, none⟩ = some (.int .i32 m)) := Lib.hid fun V' c ho hsm h5 hp => ⟨(ho.cell 1).trans ((hsm 1 (by omega)).trans ((HR.out 1 (by omega) (by omega) (by omega) (by omega)).trans HBB.out.b1)), (ho.cell 2).trans ((hsm 2 (by omega)).trans ((HR.out 2 (by omega) (by omega) (by omega) (by omega)).trans HBB.out.b2)), (ho.cell 3).trans ((hsm 3 (by omega)).trans ((HR.out 3 (by omega) (by omega) (by omega) (by omega)).trans HBB.out.b3)), (ho.cell 4).trans ((hsm 4 (by omega)).trans ((HR.out 4 (by omega) (by omega) (by omega) (by omega)).trans HBB.out.b4)), (ho.cell 5).trans ((hsm 5 (by omega)).trans ((HR.out 5 (by omega) (by omega) (by omega) (by omega)).trans HBB.out.b5)), (ho.cell 6).trans ((hsm 6 (by omega)).trans ((HR.out 6 (by omega) (by omega) (by omega) (by omega)).trans HBB.out.b6)), (h5.cell 0).trans rfl, (h5.cell 1).trans rfl, (hp.cell 0).trans rfl⟩
        have NP5 : Hid (p5 ≠ g) := Lib.hid (own_ne HP5.out HK.out.tr.own (by decide))
        have NPL : Hid (w.heap.size ≠ g) := Lib.hid (own_ne HS3.out.2.loc HK.out.tr.own (by decide))
        have KQ : Hid (∀ (V0 V1 : World) (p : Nat) (t : TypeId) (c : Array Value), Own V0 p t c → Own V0 g 64 cs → V0.grownBy V1 (some g) → t ≠ 64 → Own V1 p t c) := Lib.hid fun V0 V1 p t c ho hq hg ht => (hg.block p ho.lt (fun e => own_ne ho hq ht (Option.some.inj e))).trans ho
        clear hb3 hV hK hR hAX HS2
        have HT3 := Lib.hid (HS3.out.1.tabs HT.out hlo)
        have hg3 : 3 ≤ g := Nat.le_trans hlo hg

        go_region_held3 (fun V' => V'.cell? ⟨g, 1, none⟩ = some (.func (.func 78) #[] #[.pointer (some ⟨k, 0, none⟩), .pointer (some ⟨mu, 0, none⟩), .pointer (some ⟨hm, 0, none⟩), .pointer (some ⟨ms, 0, none⟩)]) ∧ V'.cell? ⟨g, 2, none⟩ = some (.func (.func 81) #[] #[.pointer (some ⟨mu, 0, none⟩), .pointer (some ⟨hm, 0, none⟩)]) ∧ V'.cell? ⟨g, 3, none⟩ = some (.func (.func 82) #[] #[.pointer (some ⟨mu, 0, none⟩), .pointer (some ⟨ms, 0, none⟩)]) ∧ V'.cell? ⟨g, 4, none⟩ = some (.func (.func 83) #[] #[.pointer (some ⟨mu, 0, none⟩), .pointer (some ⟨ms, 0, none⟩)]) ∧ V'.cell? ⟨g, 5, none⟩ = some (.int .i8 3) ∧ V'.cell? ⟨g, 6, none⟩ = some (.map none) ∧ V'.cell? ⟨p5, 0, none⟩ = some (.int .i32 q) ∧ V'.cell? ⟨p5, 1, none⟩ = some (.int .i32 1) ∧ V'.cell? ⟨w.heap.size, 0, none⟩ = some (.int .i32 m))
          (first
            | assumption
            | exact HSC.out _ _ ho4 hs4 (hk4 _ _ _ HP5.out.drew NP5.out (by decide) (by decide) (by decide) (by decide)) (hk4 _ _ _ HS3.out.2.loc.drew NPL.out (by decide) (by decide) (by decide) (by decide))
            | exact HSC.out _ _ HK.out.tr.own.drew (Same.refl _) HP5.out.drew HS3.out.2.loc.drew)
          (first
            | (go_at_call 62; refine (addID62 g cs s q 0 0 0 0 false 1 _ k mu hm ms lo 0 _ [] _ (LogSt.below HS3.out.2.log (below_drewN (Below.refl _ _) 1)) (by omega) hg (HK.out.below (below_drewN (Below.refl _ _) 1)).start (Nat.zero_le _) (by omega) hs (by omega) (by omega) (tabs_gr HT3.out hg3 hV3 (grown_of_below (below_drewN (Below.refl _ _) 1) (some g))) hg3 hV3).mono ?_; rintro e4 w4 ⟨rfl, ⟨cs4, ho4, hs4, hz4⟩, hb4, hk4⟩))
        have HS4 : Hid (Sx (fun i : Nat => cs4[i]?) g s m lo w q w4) := Lib.hid ⟨HAX.out _ _ ho4 hs4 hz4, by omega, (below_drewN HS3.out.1.bl 1).trans hb4, hlw, hg⟩
        clear hs4 hb4 hk4 KQ
        generalize (fun i : Nat => cs4[i]?) = B4 at HS4
        clear ho4 hz4 HAX HK HR HSC HP5 NP5 NPL HT3 HS3

        go_wp2_with fail
        go_loopw [174] (fun _ wr => ∃ (q : Nat), Hid (Sx B4 g s m lo w q wr)) (fun _ wr => s.size + 1 - lenAt g wr)
        case atStart => exact ⟨q, HS4⟩
        case round =>
          clear HS4
          obtain ⟨r, HS⟩ := hrel
          obtain ⟨wp, rfl⟩ : ∃ wp : World, wp = wr := ⟨_, rfl⟩
          have c35 := HS.out.ax.cell
          have hrs := HS.out.ax.hq
          have hmr := HS.out.mq
          have hp3 : 3 ≤ wp.heap.size := Nat.le_trans hlo (Nat.le_trans hlw HS.out.bl.size)
          have HM := Lib.hid (len_at HS.out.ax)
          by_cases r41 : cpOf s r = 41
          focus
            obtain ⟨l1, b1, k1⟩ := cp_asc r41 (by omega) (by omega)
            rw [r41] at c35
            have HB1 : Hid (bt s r = 41) := Lib.hid b1
            clear b1 r41
            go_wp2_with fail
            refine (stepA g s _ r _ HS.out.ax (HS.out.tabs HT.out hlo) hp3 hs (by omega) (by omega)).mono ?_
            rintro e w2 ⟨rfl, h2, f2⟩
            rw [k1] at h2
            have HS2 := Lib.hid (HS.out.step h2 f2 (by omega))
            clear h2 f2 HS c35 k1
            go_wp2_with fail
            rw [Exit.noGoto_ret]
            go_ret
            exact HS2.out.url 3 (.inr rfl) (.inr ⟨by omega, by simpa using HB1.out⟩)
          by_cases rx : cpOf s r = -1
          focus
            have HQ2 := Lib.hid (cp_end hrs rx)
            rw [rx] at c35
            clear rx r41
            go_wp2_with fail
            refine (stepA g s _ r _ HS.out.ax (HS.out.tabs HT.out hlo) hp3 hs (by omega) (by omega)).mono ?_
            rintro e w2 ⟨rfl, h2, f2⟩
            rw [(cp_out (s := s) (q := r) (by have := HQ2.out; omega)).2, Nat.add_zero] at h2
            have HS2 := Lib.hid (HS.out.step h2 f2 (Nat.le_refl _))
            clear h2 f2 HS c35
            go_wp2_with fail
            rw [Exit.noGoto_ret]
            go_ret
            exact HS2.out.url 3 (.inr rfl) (.inl HQ2.out)
          obtain ⟨l1, k1⟩ := cp_more rx
          have hw1 := (cp_rng s r hrs).2.2
          by_cases r92 : cpOf s r = 92
          focus
            obtain ⟨_, b1, _⟩ := cp_asc r92 (by omega) (by omega)
            rw [r92] at c35
            have HB1 : Hid (bt s r = 92) := Lib.hid b1
            clear b1 r41 rx r92
            go_wp2_with fail
            refine (valid61 g s _ r _ HS.out.ax (HS.out.tabs HT.out hlo) hp3 hs).mono ?_
            rintro e w2 ⟨⟨b, rfl⟩, hb2⟩
            have hz2 := hb2.size
            have HS2 := Lib.hid (HS.out.below hb2)
            clear hb2 HS c35
            cases b
            focus
              go_wp2_with fail
              refine (stepA g s _ r _ HS2.out.ax (HS2.out.tabs HT.out hlo) (Nat.le_trans hp3 hz2) hs (by omega) (by omega)).mono ?_
              rintro e w3 ⟨rfl, h3, f3⟩
              have HM3 := Lib.hid (len_at h3)
              have HS3 := Lib.hid (HS2.out.step h3 f3 (Nat.le_add_right _ _))
              clear h3 f3 HS2
              go_wp2_with fail
              go_roundw
              case rel => exact ⟨_, HS3⟩
              case measure => rw [HM3.out, HM.out]; omega
            focus
              go_wp2_with fail
              refine (escape g s _ r _ HS2.out.ax (HS2.out.tabs HT.out hlo) (Nat.le_trans hlo hg) (Nat.le_trans hp3 hz2) hs (by omega) (by omega) l1 HB1.out).mono ?_
              rintro e w3 ⟨rfl, h3, f3⟩
              have hd := stepD_le l1
              have hz3 := f3.size
              have HS3 := Lib.hid (HS2.out.step h3 f3 (Nat.le_of_lt hd.1))
              clear h3 f3 HS2
              generalize (stepD s r).1 = r2 at *
              generalize (stepD s r).2 = rv at *
              have hw2 := (cp_rng s r2 hd.2).2.2
              go_wp2_with fail
              refine (stepA g s _ r2 _ HS3.out.ax (HS3.out.tabs HT.out hlo) (Nat.le_trans hp3 (Nat.le_trans hz2 hz3)) hs (by omega) (by omega)).mono ?_
              rintro e w4 ⟨rfl, h4, f4⟩
              have HM4 := Lib.hid (len_at h4)
              have HS4 := Lib.hid (HS3.out.step h4 f4 (Nat.le_add_right _ _))
              clear h4 f4 HS3
              go_wp2_with fail
              go_roundw
              case rel => exact ⟨_, HS4⟩
              case measure => rw [HM4.out, HM.out]; omega
          focus
            have t41 : (cpOf s r == 41) = false := beq_eq_false_iff_ne.2 r41
            have tx : (cpOf s r == -1) = false := beq_eq_false_iff_ne.2 rx
            have t92 : (cpOf s r == 92) = false := beq_eq_false_iff_ne.2 r92
            clear r41 rx r92
            go_wp2_with fail
            refine (stepA g s _ r _ HS.out.ax (HS.out.tabs HT.out hlo) hp3 hs (by omega) (by omega)).mono ?_
            rintro e w3 ⟨rfl, h3, f3⟩
            have HM3 := Lib.hid (len_at h3)
            have HS3 := Lib.hid (HS.out.step h3 f3 (Nat.le_add_right _ _))
            clear h3 f3 HS c35
            go_wp2_with fail
            go_roundw
            case rel => exact ⟨_, HS3⟩
            case measure => rw [HM3.out, HM.out]; omega

      focus
        go_wp2_with fail
        refine (escape g s _ q _ HS5.out.1.ax (HS5.out.1.tabs HT.out hlo) (Nat.le_trans hlo hg) (Nat.le_trans hw3 hz5) hs (by omega) (by omega) l1 HB1.out).mono ?_
        rintro e w3 ⟨rfl, h3, f3⟩
        have hd := stepD_le l1
        have HM3 := Lib.hid (len_at h3)
        have HS3 : Hid (Sx B g s m lo w (stepD s q).1 w3 ∧ Lo g m lo k mu hm ms w.heap.size w w3) := Lib.hid ⟨HS5.out.1.step h3 f3 (Nat.le_of_lt hd.1), HS5.out.2.step HS5.out.1.ax f3⟩
        clear h3 f3 HS5
        generalize (stepD s q).1 = r2 at *
        generalize (stepD s q).2 = rv at *
        go_wp2_with fail
        go_roundw
        case rel => exact ⟨_, HS3⟩
        case measure => rw [HM3.out, HM.out]; omega

    focus
      obtain ⟨l1, k1⟩ := cp_more hx
      have hw1 := (cp_rng s q hqs1).2.2
      have HM := Lib.hid (len_at HS.out.1.ax)
      have t41 : (cpOf s q == 41) = false := beq_eq_false_iff_ne.2 (by omega)
      have tm1 : (cpOf s q == -1) = false := beq_eq_false_iff_ne.2 (by omega)
      have t32 : (cpOf s q == 32) = false := beq_eq_false_iff_ne.2 (by omega)
      have t9 : (cpOf s q == 9) = false := beq_eq_false_iff_ne.2 (by omega)
      have t10 : (cpOf s q == 10) = false := beq_eq_false_iff_ne.2 (by omega)
      have t13 : (cpOf s q == 13) = false := beq_eq_false_iff_ne.2 (by omega)
      have t12 : (cpOf s q == 12) = false := beq_eq_false_iff_ne.2 (by omega)
      have t34 : (cpOf s q == 34) = false := beq_eq_false_iff_ne.2 (by omega)
      have t39 : (cpOf s q == 39) = false := beq_eq_false_iff_ne.2 (by omega)
      have t40 : (cpOf s q == 40) = false := beq_eq_false_iff_ne.2 (by omega)
      have t92 : (cpOf s q == 92) = false := beq_eq_false_iff_ne.2 (by omega)
      clear hw hqt h92 h41 hx
      go_wp2_with fail
      refine (np63 (cpOf s q) _).mono ?_
      rintro e w5 ⟨⟨b, rfl⟩, rfl⟩
      clear t41 tm1 t32 t9 t10 t13 t12 t34 t39 t40 t92
      cases b
      focus
        go_wp2_with fail
        refine (stepA g s _ q _ HS.out.1.ax (HS.out.1.tabs HT.out hlo) hw3 hs (by omega) (by omega)).mono ?_
        rintro e w3 ⟨rfl, h3, f3⟩
        have HM3 := Lib.hid (len_at h3)
        have HS3 : Hid (Sx B g s m lo w (q + wdOf s q) w3 ∧ Lo g m lo k mu hm ms w.heap.size w w3) := Lib.hid ⟨HS.out.1.step h3 f3 (Nat.le_add_right _ _), HS.out.2.step HS.out.1.ax f3⟩
        clear h3 f3 HS c35
        go_wp2_with fail
        go_roundw
        case rel => exact ⟨_, HS3⟩
        case measure => rw [HM3.out, HM.out]; omega
      focus
        have c36 := HS.out.1.ax.cell36
        have c37 := HS.out.1.ax.cell37


        go_wp2_with fail
        refine (end44 _ _ (by omega) (by omega) (by omega) (by omega) _).mono ?_
        rintro e w2 ⟨rfl, hb2⟩
        rw [show (m : Int) + 1 + ((q : Int) - ((m : Int) + 1)) = (q : Int) by omega]
        have HS2 : Hid (Sx B g s m lo w q w2 ∧ Lo g m lo k mu hm ms w.heap.size w w2) := Lib.hid ⟨HS.out.1.below hb2, HS.out.2.below hb2⟩
        clear hb2 HS c35 c36 c37
        go_upto_region 4 with fail
        generalize hV : w2.alloc _ = V
        have hb3 : Below w2.heap.size w2 V := by rw [← hV]; exact (Below.refl _ _).alloc (Nat.le_refl _) _
        have HP5 : Hid (Own V w2.heap.size 31 #[.int .i32 q, .int .i32 1]) := Lib.hid (by rw [← hV]; exact Own.new _ _ _)
        have HS3 : Hid (Sx B g s m lo w q V ∧ Lo g m lo k mu hm ms w.heap.size w V) := Lib.hid ⟨HS2.out.1.below hb3, HS2.out.2.below hb3⟩
        obtain ⟨cs, hK, hR, hAX⟩ := Ax.open HS3.out.1.ax HBB.out
        have HK := Lib.hid hK
        have HR := Lib.hid hR
        have HAX := Lib.hid hAX
        have hV3 : 3 ≤ V.heap.size := Nat.le_trans hlo (Nat.le_trans hlw HS3.out.1.bl.size)
        generalize w2.heap.size = p5 at HP5
        have HSC : Hid (∀ (V' : World) (c : Array Value), Own V' g 64 c → Same cs c → Own V' p5 31 #[.int .i32 q, .int .i32 1] → Own V' w.heap.size 29 #[.int .i32 m] → V'.cell? ⟨g, 1, none⟩ = some (.func (.func 78) #[] #[.pointer (some ⟨k, 0, none⟩), .pointer (some ⟨mu, 0, none⟩), .pointer (some ⟨hm, 0, none⟩), .pointer (some ⟨ms, 0, none⟩)]) ∧ V'.cell? ⟨g, 2, none⟩ = some (.func (.func 81) #[] #[.pointer (some ⟨mu, 0, none⟩), .pointer (some ⟨hm, 0, none⟩)]) ∧ V'.cell? ⟨g, 3, none⟩ = some (.func (.func 82) #[] #[.pointer (some ⟨mu, 0, none⟩), .pointer (some ⟨ms, 0, none⟩)]) ∧ V'.cell? ⟨g, 4, none⟩ = some (.func (.func 83) #[] #[.pointer (some ⟨mu, 0, none⟩), .pointer (some ⟨ms, 0, none⟩)]) ∧ V'.cell? ⟨g, 5, none⟩ = some (.int .i8 3) ∧ V'.cell? ⟨g, 6, none⟩ = some (.map none) ∧ V'.cell? ⟨p5, 0, none⟩ = some (.int .i32 q) ∧ V'.cell? ⟨p5, 1, none⟩ = some (.int .i32 1) ∧ V'.cell? ⟨w.heap.size, 0, none⟩ = some (.int .i32 m)) := Lib.hid fun V' c ho hsm h5 hp => ⟨(ho.cell 1).trans ((hsm 1 (by omega)).trans ((HR.out 1 (by omega) (by omega) (by omega) (by omega)).trans HBB.out.b1)), (ho.cell 2).trans ((hsm 2 (by omega)).trans ((HR.out 2 (by omega) (by omega) (by omega) (by omega)).trans HBB.out.b2)), (ho.cell 3).trans ((hsm 3 (by omega)).trans ((HR.out 3 (by omega) (by omega) (by omega) (by omega)).trans HBB.out.b3)), (ho.cell 4).trans ((hsm 4 (by omega)).trans ((HR.out 4 (by omega) (by omega) (by omega) (by omega)).trans HBB.out.b4)), (ho.cell 5).trans ((hsm 5 (by omega)).trans ((HR.out 5 (by omega) (by omega) (by omega) (by omega)).trans HBB.out.b5)), (ho.cell 6).trans ((hsm 6 (by omega)).trans ((HR.out 6 (by omega) (by omega) (by omega) (by omega)).trans HBB.out.b6)), (h5.cell 0).trans rfl, (h5.cell 1).trans rfl, (hp.cell 0).trans rfl⟩
        have NP5 : Hid (p5 ≠ g) := Lib.hid (own_ne HP5.out HK.out.tr.own (by decide))
        have NPL : Hid (w.heap.size ≠ g) := Lib.hid (own_ne HS3.out.2.loc HK.out.tr.own (by decide))
        have KQ : Hid (∀ (V0 V1 : World) (p : Nat) (t : TypeId) (c : Array Value), Own V0 p t c → Own V0 g 64 cs → V0.grownBy V1 (some g) → t ≠ 64 → Own V1 p t c) := Lib.hid fun V0 V1 p t c ho hq hg ht => (hg.block p ho.lt (fun e => own_ne ho hq ht (Option.some.inj e))).trans ho
        clear hb3 hV hK hR hAX HS2
        have HT3 := Lib.hid (HS3.out.1.tabs HT.out hlo)
        have hg3 : 3 ≤ g := Nat.le_trans hlo hg

        go_region_held3 (fun V' => V'.cell? ⟨g, 1, none⟩ = some (.func (.func 78) #[] #[.pointer (some ⟨k, 0, none⟩), .pointer (some ⟨mu, 0, none⟩), .pointer (some ⟨hm, 0, none⟩), .pointer (some ⟨ms, 0, none⟩)]) ∧ V'.cell? ⟨g, 2, none⟩ = some (.func (.func 81) #[] #[.pointer (some ⟨mu, 0, none⟩), .pointer (some ⟨hm, 0, none⟩)]) ∧ V'.cell? ⟨g, 3, none⟩ = some (.func (.func 82) #[] #[.pointer (some ⟨mu, 0, none⟩), .pointer (some ⟨ms, 0, none⟩)]) ∧ V'.cell? ⟨g, 4, none⟩ = some (.func (.func 83) #[] #[.pointer (some ⟨mu, 0, none⟩), .pointer (some ⟨ms, 0, none⟩)]) ∧ V'.cell? ⟨g, 5, none⟩ = some (.int .i8 3) ∧ V'.cell? ⟨g, 6, none⟩ = some (.map none) ∧ V'.cell? ⟨p5, 0, none⟩ = some (.int .i32 q) ∧ V'.cell? ⟨p5, 1, none⟩ = some (.int .i32 1) ∧ V'.cell? ⟨w.heap.size, 0, none⟩ = some (.int .i32 m))
          (first
            | assumption
            | exact HSC.out _ _ ho4 hs4 (hk4 _ _ _ HP5.out.drew NP5.out (by decide) (by decide) (by decide) (by decide)) (hk4 _ _ _ HS3.out.2.loc.drew NPL.out (by decide) (by decide) (by decide) (by decide))
            | exact HSC.out _ _ HK.out.tr.own.drew (Same.refl _) HP5.out.drew HS3.out.2.loc.drew)
          (first
            | (go_at_call 62; refine (addID62 g cs s q 0 0 0 0 false 1 _ k mu hm ms lo 0 _ [] _ (LogSt.below HS3.out.2.log (below_drewN (Below.refl _ _) 1)) (by omega) hg (HK.out.below (below_drewN (Below.refl _ _) 1)).start (Nat.zero_le _) (by omega) hs (by omega) (by omega) (tabs_gr HT3.out hg3 hV3 (grown_of_below (below_drewN (Below.refl _ _) 1) (some g))) hg3 hV3).mono ?_; rintro e4 w4 ⟨rfl, ⟨cs4, ho4, hs4, hz4⟩, hb4, hk4⟩))
        have HS4 : Hid (Sx (fun i : Nat => cs4[i]?) g s m lo w q w4) := Lib.hid ⟨HAX.out _ _ ho4 hs4 hz4, by omega, (below_drewN HS3.out.1.bl 1).trans hb4, hlw, hg⟩
        clear hs4 hb4 hk4 KQ
        generalize (fun i : Nat => cs4[i]?) = B4 at HS4
        clear ho4 hz4 HAX HK HR HSC HP5 NP5 NPL HT3 HS3

        go_wp2_with fail
        go_loopw [174] (fun _ wr => ∃ (q : Nat), Hid (Sx B4 g s m lo w q wr)) (fun _ wr => s.size + 1 - lenAt g wr)
        case atStart => exact ⟨q, HS4⟩
        case round =>
          clear HS4
          obtain ⟨r, HS⟩ := hrel
          obtain ⟨wp, rfl⟩ : ∃ wp : World, wp = wr := ⟨_, rfl⟩
          have c35 := HS.out.ax.cell
          have hrs := HS.out.ax.hq
          have hmr := HS.out.mq
          have hp3 : 3 ≤ wp.heap.size := Nat.le_trans hlo (Nat.le_trans hlw HS.out.bl.size)
          have HM := Lib.hid (len_at HS.out.ax)
          by_cases r41 : cpOf s r = 41
          focus
            obtain ⟨l1, b1, k1⟩ := cp_asc r41 (by omega) (by omega)
            rw [r41] at c35
            have HB1 : Hid (bt s r = 41) := Lib.hid b1
            clear b1 r41
            go_wp2_with fail
            refine (stepA g s _ r _ HS.out.ax (HS.out.tabs HT.out hlo) hp3 hs (by omega) (by omega)).mono ?_
            rintro e w2 ⟨rfl, h2, f2⟩
            rw [k1] at h2
            have HS2 := Lib.hid (HS.out.step h2 f2 (by omega))
            clear h2 f2 HS c35 k1
            go_wp2_with fail
            rw [Exit.noGoto_ret]
            go_ret
            exact HS2.out.url 3 (.inr rfl) (.inr ⟨by omega, by simpa using HB1.out⟩)
          by_cases rx : cpOf s r = -1
          focus
            have HQ2 := Lib.hid (cp_end hrs rx)
            rw [rx] at c35
            clear rx r41
            go_wp2_with fail
            refine (stepA g s _ r _ HS.out.ax (HS.out.tabs HT.out hlo) hp3 hs (by omega) (by omega)).mono ?_
            rintro e w2 ⟨rfl, h2, f2⟩
            rw [(cp_out (s := s) (q := r) (by have := HQ2.out; omega)).2, Nat.add_zero] at h2
            have HS2 := Lib.hid (HS.out.step h2 f2 (Nat.le_refl _))
            clear h2 f2 HS c35
            go_wp2_with fail
            rw [Exit.noGoto_ret]
            go_ret
            exact HS2.out.url 3 (.inr rfl) (.inl HQ2.out)
          obtain ⟨l1, k1⟩ := cp_more rx
          have hw1 := (cp_rng s r hrs).2.2
          by_cases r92 : cpOf s r = 92
          focus
            obtain ⟨_, b1, _⟩ := cp_asc r92 (by omega) (by omega)
            rw [r92] at c35
            have HB1 : Hid (bt s r = 92) := Lib.hid b1
            clear b1 r41 rx r92
            go_wp2_with fail
            refine (valid61 g s _ r _ HS.out.ax (HS.out.tabs HT.out hlo) hp3 hs).mono ?_
            rintro e w2 ⟨⟨b, rfl⟩, hb2⟩
            have hz2 := hb2.size
            have HS2 := Lib.hid (HS.out.below hb2)
            clear hb2 HS c35
            cases b
            focus
              go_wp2_with fail
              refine (stepA g s _ r _ HS2.out.ax (HS2.out.tabs HT.out hlo) (Nat.le_trans hp3 hz2) hs (by omega) (by omega)).mono ?_
              rintro e w3 ⟨rfl, h3, f3⟩
              have HM3 := Lib.hid (len_at h3)
              have HS3 := Lib.hid (HS2.out.step h3 f3 (Nat.le_add_right _ _))
              clear h3 f3 HS2
              go_wp2_with fail
              go_roundw
              case rel => exact ⟨_, HS3⟩
              case measure => rw [HM3.out, HM.out]; omega
            focus
              go_wp2_with fail
              refine (escape g s _ r _ HS2.out.ax (HS2.out.tabs HT.out hlo) (Nat.le_trans hlo hg) (Nat.le_trans hp3 hz2) hs (by omega) (by omega) l1 HB1.out).mono ?_
              rintro e w3 ⟨rfl, h3, f3⟩
              have hd := stepD_le l1
              have hz3 := f3.size
              have HS3 := Lib.hid (HS2.out.step h3 f3 (Nat.le_of_lt hd.1))
              clear h3 f3 HS2
              generalize (stepD s r).1 = r2 at *
              generalize (stepD s r).2 = rv at *
              have hw2 := (cp_rng s r2 hd.2).2.2
              go_wp2_with fail
              refine (stepA g s _ r2 _ HS3.out.ax (HS3.out.tabs HT.out hlo) (Nat.le_trans hp3 (Nat.le_trans hz2 hz3)) hs (by omega) (by omega)).mono ?_
              rintro e w4 ⟨rfl, h4, f4⟩
              have HM4 := Lib.hid (len_at h4)
              have HS4 := Lib.hid (HS3.out.step h4 f4 (Nat.le_add_right _ _))
              clear h4 f4 HS3
              go_wp2_with fail
              go_roundw
              case rel => exact ⟨_, HS4⟩
              case measure => rw [HM4.out, HM.out]; omega
          focus
            have t41 : (cpOf s r == 41) = false := beq_eq_false_iff_ne.2 r41
            have tx : (cpOf s r == -1) = false := beq_eq_false_iff_ne.2 rx
            have t92 : (cpOf s r == 92) = false := beq_eq_false_iff_ne.2 r92
            clear r41 rx r92
            go_wp2_with fail
            refine (stepA g s _ r _ HS.out.ax (HS.out.tabs HT.out hlo) hp3 hs (by omega) (by omega)).mono ?_
            rintro e w3 ⟨rfl, h3, f3⟩
            have HM3 := Lib.hid (len_at h3)
            have HS3 := Lib.hid (HS.out.step h3 f3 (Nat.le_add_right _ _))
            clear h3 f3 HS c35
            go_wp2_with fail
            go_roundw
            case rel => exact ⟨_, HS3⟩
            case measure => rw [HM3.out, HM.out]; omega
end Go.Proofs.YtcljenkgbbbfpaaDoor.Tp
