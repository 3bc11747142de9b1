/-
  Proved: next at minus and less-than, with or without a comment ahead. Conditions: those that each theorem names as its hypotheses, and no others.
-/
import Derived.Test.YtcljenkgbbbfpaaDoorZl
import Derived.Deep.DeepCutAuto
import Derived.BigQuiet
namespace Go.Proofs.YtcljenkgbbbfpaaDoor.Zp
open Go.RowKit Go.PlainAid Str Mem De Lu Dw Cu Rws Za Zb Zc Zd Ze Zf Zg Zh Zk Zl
set_option linter.unusedVariables false
set_option linter.unusedSimpArgs false
theorem lit_cdc (x : ByteArray) : (x.toList == [45, 62]) = decide (x = ⟨#[45, 62]⟩) := by
  rw [← toList_beq, show (ByteArray.mk #[45, 62]).toList = [45, 62] by rw [ByteArray.toList_eq]]
theorem lit_cdo (x : ByteArray) : (x.toList == [33, 45, 45]) = decide (x = ⟨#[33, 45, 45]⟩) := by
  rw [← toList_beq, show (ByteArray.mk #[33, 45, 45]).toList = [33, 45, 45] by rw [ByteArray.toList_eq]]
theorem cdc_ext {s : ByteArray} {p : Nat} (h : p + 2 ≤ s.size) : decide (s.extract p (p + 2) = ⟨#[45, 62]⟩) = cdc s p := by
  unfold cdc
  rw [decide_eq_true h, Bool.true_and, Bool.eq_iff_iff, decide_eq_true_iff, Bool.and_eq_true, beq_iff_eq, beq_iff_eq]
  have e0 : bt (s.extract p (p + 2)) 0 = bt s p := bt_extract s p (p + 2) 0 (by omega)
  have e1 := bt_extract s p (p + 2) 1 (by omega)
  constructor
  · intro e
    rw [e] at e0 e1
    exact ⟨e0.symm, e1.symm⟩
  · rintro ⟨a, b⟩
    have es : (s.extract p (p + 2)).size = 2 := by rw [size_extract]; omega
    refine bt_ext es fun i hi => ?_
    have hi' : i = 0 ∨ i = 1 := by omega
    rcases hi' with rfl | rfl
    · rw [e0, a]; rfl
    · rw [e1, b]; rfl
theorem cdo_ext {s : ByteArray} {p : Nat} (h : p + 3 ≤ s.size) : decide (s.extract p (p + 3) = ⟨#[33, 45, 45]⟩) = cdo s p := by
  unfold cdo
  rw [decide_eq_true h, Bool.true_and, Bool.eq_iff_iff, decide_eq_true_iff, Bool.and_eq_true, Bool.and_eq_true, beq_iff_eq, beq_iff_eq, beq_iff_eq]
  have e0 : bt (s.extract p (p + 3)) 0 = bt s p := bt_extract s p (p + 3) 0 (by omega)
  have e1 := bt_extract s p (p + 3) 1 (by omega)
  have e2 := bt_extract s p (p + 3) 2 (by omega)
  constructor
  · intro e
    rw [e] at e0 e1 e2
    exact ⟨e0.symm, e1.symm, e2.symm⟩
  · rintro ⟨a, b, c⟩
    have es : (s.extract p (p + 3)).size = 3 := by rw [size_extract]; omega
    refine bt_ext es fun i hi => ?_
    have hi' : i = 0 ∨ i = 1 ∨ i = 2 := by omega
    rcases hi' with rfl | rfl | rfl
    · rw [e0, a]; rfl
    · rw [e1, b]; rfl
    · rw [e2, c]; rfl
theorem cdc_wd {s : ByteArray} {p : Nat} (h : cdc s p = true) : p + 2 ≤ s.size ∧ wdOf s p = 1 ∧ wdOf s (p + 1) = 1 := by
  unfold cdc at h
  rw [Bool.and_eq_true, Bool.and_eq_true, beq_iff_eq, beq_iff_eq] at h
  obtain ⟨a, b, c⟩ := h
  have a := of_decide_eq_true a
  exact ⟨a, (cp_of (by omega) (by omega)).2, (cp_of (by omega) (by omega)).2⟩
theorem cdo_wd {s : ByteArray} {p : Nat} (h : cdo s p = true) : p + 3 ≤ s.size ∧ wdOf s p = 1 ∧ wdOf s (p + 1) = 1 ∧ wdOf s (p + 2) = 1 := by
  unfold cdo at h
  rw [Bool.and_eq_true, Bool.and_eq_true, Bool.and_eq_true, beq_iff_eq, beq_iff_eq, beq_iff_eq] at h
  obtain ⟨a, b, c, d⟩ := h
  have a := of_decide_eq_true a
  exact ⟨a, (cp_of (by omega) (by omega)).2, (cp_of (by omega) (by omega)).2, (cp_of (by omega) (by omega)).2⟩
set_option maxRecDepth 100000 in
set_option maxHeartbeats 8000000 in
theorem nx45 (g : Nat) (s : ByteArray) (q : Nat) (w wx : World) (hP : Pc g s q w wx) (hcp : cpOf s q = 45) :
    Calls Tryd.prog 51 #[.pointer (some ⟨g, 0, none⟩)] wx (Nxt g s q (mns s q) w) := by
  obtain ⟨hbef, hq, hs, hT, hw, hg, hnb, hnu, hns⟩ := hP
  have HNB := Lib.hid hnb
  have HNU := Lib.hid hnu
  have HNS := Lib.hid hns
  have HT := Lib.hid hT
  have tq0 : (0 : Int) ≤ (q : Int) := by omega
  have tq1 : (q : Int) ≤ 2000000 := by omega
  have HCP := Lib.hid hcp
  clear hT hnb hnu hns hcp
  rcases hbef with ⟨hf, u, r0, r1, ts, un, kd, fl, hts, ha⟩ | ⟨hf, u0, x0, x1, n, un, kd, fl, ha, hc, hqn, h47, h42⟩
  · go_enter Tryd.func51, Tryd.ntmps51
    refine wp_block (wp_loop_rounds 1 ?_)
    rw [rounds_succ]
    refine wp_block ?_
    have hcl := ha.cl
    have c36 := hcl.c36
    have c37 := hcl.c37
    have fz := hcl.fz
    have HA := Lib.hid ha
    have HF := Lib.hid hf
    have i0 : (0 : Int) ≤ (ts : Int) := by omega
    have i1 : (ts : Int) ≤ 100000000 := by omega
    have i2 : (0 : Int) ≤ (q : Int) - (ts : Int) := by omega
    have i3 : (q : Int) - (ts : Int) ≤ 100000000 := by omega
    have i4 : (ts : Int) + ((q : Int) - (ts : Int)) = (q : Int) := by omega
    have HI4 := Lib.hid i4
    clear ha hf hcl i4 hts
    go_wp2_with fail
    refine (end44 (ts : Int) ((q : Int) - (ts : Int)) i0 i1 i2 i3 _).mono ?_
    rintro e w1 ⟨rfl, hb1⟩
    rw [HI4.out]
    have HA1 := Lib.hid (HA.out.below hb1)
    have HF1 := Lib.hid (HF.out.bel hb1)
    clear c36 c37 fz i0 i1 i2 i3 HA HF hb1 HI4
    have hcl := HA1.out.cl
    have c36 := hcl.c36
    have c37 := hcl.c37
    have c38 := hcl.c38
    have c39 := hcl.c39
    have c40 := hcl.c40
    have fz := hcl.fz
    clear hcl
    go_upto_region 1 with fail
    have hA2 := At.tok HA1.out
    have hF2 := ((((HF1.out.setc 36 (.int .i32 (q : Int))).setc 37 (.int .i32 0)).setc 38 (.int .u16 0)).setc 39 (.int .u8 0)).setc 40 (.int .u8 0)
    clear c36 c37 c38 c39 c40 fz HA1 HF1
    generalize World.setCell _ _ _ = W at hA2 hF2 ⊢
    have HW : Hid (Wh g u r0 r1 s q 0 0 0 w q W) := Lib.hid ⟨hA2, hF2, hq, tabs_fr HT.out hg hw hF2, Nat.le_trans hw hF2.size⟩
    have hcl := hA2.cl
    have c35 := hcl.c35
    have c39 := hcl.c39
    have c40 := hcl.c40
    have fz := hcl.fz
    clear hcl hA2 hF2 HT
    rw [HCP.out] at c35
    go_wp2_with fail
    refine (num70 g u r0 r1 s q q 0 0 0 _ HW.out.at_ hq hs).mono ?_
    rintro e w9 ⟨rfl, rfl⟩
    cases hn : wsn s q
    rotate_left
    focus
      have HU := Lib.hid (show mns s q = nmt s q by unfold mns; rw [if_pos hn])
      clear hn
      go_wp2_with fail
      clear c35 c39 c40 fz
      refine (num71 g u r0 r1 s q 0 0 _ HW.out.at_ hq HNB.out HW.out.tb hg HW.out.hw hs).mono ?_
      rintro e w2 ⟨he, h2, f2⟩
      obtain ⟨E, K, U, hR⟩ : ∃ E K U, num s q = (E, K, U) := by cases num s q with | mk a b => cases b with | mk b c => exact ⟨a, b, c, rfl⟩
      rw [hR] at he h2
      have HR := Lib.hid (show nmt s q = (E, U, K, 0) by unfold nmt; rw [hR])
      clear hR
      dsimp only at he h2
      subst he
      have H2 := Lib.hid h2
      have HF2 := Lib.hid (Fr.trans HW.out.fr f2)
      have hcl := h2.cl
      have c39 := hcl.c39
      have fz := hcl.fz
      clear h2 hcl HW f2
      go_wp2_with fail
      go_end0
      unfold Nxt
      rw [HU.out, HR.out]
      exact ⟨rfl, u, r0, r1, At.kind H2.out _, HF2.out.setc 39 _⟩
    have HN0 := Lib.hid hn
    clear hn
    go_upto_region 90 with fail
    have hcl := HW.out.at_.cl
    have c10 := hcl.c10
    have c33 := hcl.c33
    have HLE := Lib.hid (cp_rng s q hq).2.2
    obtain ⟨p, hp⟩ : ∃ p, q + wdOf s q = p := ⟨_, rfl⟩
    rw [hp] at c33 HLE
    have HPD := Lib.hid hp
    have i0 : (0 : Int) ≤ (p : Int) := by omega
    have i9 : (p : Int) ≤ 2000000 := by have := HLE.out; omega
    clear hp hcl c35 c39 c40 fz
    by_cases a : p + 2 ≤ s.size
    rotate_left
    focus
      have b : cdc s p = false := by unfold cdc; rw [decide_eq_false a]; rfl
      have e1 : decide ((p : Int) + 2 ≤ (s.size : Int)) = false := decide_eq_false (by omega)
      have HU : Hid (mns s q = if wsi s q = true then idt s q else (q + wdOf s q, 0, 22, 0)) := Lib.hid (by unfold mns; rw [HN0.out, HPD.out, b, if_neg (by decide), if_neg (by decide)])
      clear a b
      go_quiet (fail)
      have HW := Lib.hid (HW.out.drewN hg nq)
      generalize World.drewN _ _ = W at HW ⊢
      have hcl := HW.out.at_.cl
      have c39 := hcl.c39
      have fz := hcl.fz
      clear hcl
      go_wp2_with fail
      refine (ident68 g u r0 r1 s q q 0 0 0 _ HW.out.at_ hq HNB.out HW.out.tb HW.out.hw hs).mono ?_
      rintro e w5 ⟨rfl, hb5⟩
      have HW5 := Lib.hid (HW.out.bel hb5)
      clear HW hb5
      have HW := HW5
      clear HW5 c39 fz
      cases hi : wsi s q
      · rw [hi, if_neg (by decide)] at HU
        clear hi
        go_wp2_with fail
        refine (HW.out.step hg hs tq0 tq1).mono ?_
        rintro e w2 ⟨rfl, h2⟩
        have H2 := Lib.hid h2
        have hcl := h2.at_.cl
        have c39 := hcl.c39
        have fz := hcl.fz
        clear h2 hcl HW
        go_wp2_with fail
        go_end0
        rw [HU.out]
        exact ⟨rfl, u, r0, r1, At.kind H2.out.at_ 22, H2.out.fr.setc 39 _⟩
      · rw [hi, if_pos rfl] at HU
        clear hi
        go_wp2_with fail
        refine (like72 g u r0 r1 s q 0 0 0 _ HW.out.at_ hq HNB.out HNU.out HW.out.tb hg HW.out.hw hs).mono ?_
        rintro e w2 ⟨he, h2, f2⟩
        obtain ⟨E, K, hR⟩ : ∃ E K, idl s q = (E, K) := by cases idl s q with | mk a b => exact ⟨a, b, rfl⟩
        rw [hR] at he h2
        have HR := Lib.hid (show idt s q = (E, 0, K, 0) by unfold idt; rw [hR])
        clear hR
        dsimp only at he h2
        subst he
        have H2 := Lib.hid h2
        have HF2 := Lib.hid (Fr.trans HW.out.fr f2)
        have hcl := h2.cl
        have c39 := hcl.c39
        have fz := hcl.fz
        clear h2 hcl HW f2
        go_wp2_with fail
        go_end0
        unfold Nxt
        rw [HU.out, HR.out]
        exact ⟨rfl, u, r0, r1, At.kind H2.out _, HF2.out.setc 39 _⟩
    cases b : cdc s p
    focus
      have e1 : decide ((p : Int) + 2 ≤ (s.size : Int)) = true := decide_eq_true (by omega)
      have i1 : (p : Int) ≤ (p : Int) + 2 := by omega
      have i2 : (p : Int) + 2 ≤ (s.size : Int) := by omega
      have i3 : (0 : Int) ≤ (p : Int) + 2 := by omega
      have e2 : ((s.extract p (p + 2)).toList == [45, 62]) = false := (lit_cdc _).trans (by rw [cdc_ext a, b])
      have HU : Hid (mns s q = if wsi s q = true then idt s q else (q + wdOf s q, 0, 22, 0)) := Lib.hid (by unfold mns; rw [HN0.out, HPD.out, b, if_neg (by decide), if_neg (by decide)])
      clear a b
      go_quiet (fail)
      have HW := Lib.hid (HW.out.drewN hg nq)
      generalize World.drewN _ _ = W at HW ⊢
      have hcl := HW.out.at_.cl
      have c39 := hcl.c39
      have fz := hcl.fz
      clear hcl
      go_wp2_with fail
      refine (ident68 g u r0 r1 s q q 0 0 0 _ HW.out.at_ hq HNB.out HW.out.tb HW.out.hw hs).mono ?_
      rintro e w5 ⟨rfl, hb5⟩
      have HW5 := Lib.hid (HW.out.bel hb5)
      clear HW hb5
      have HW := HW5
      clear HW5 c39 fz
      cases hi : wsi s q
      · rw [hi, if_neg (by decide)] at HU
        clear hi
        go_wp2_with fail
        refine (HW.out.step hg hs tq0 tq1).mono ?_
        rintro e w2 ⟨rfl, h2⟩
        have H2 := Lib.hid h2
        have hcl := h2.at_.cl
        have c39 := hcl.c39
        have fz := hcl.fz
        clear h2 hcl HW
        go_wp2_with fail
        go_end0
        rw [HU.out]
        exact ⟨rfl, u, r0, r1, At.kind H2.out.at_ 22, H2.out.fr.setc 39 _⟩
      · rw [hi, if_pos rfl] at HU
        clear hi
        go_wp2_with fail
        refine (like72 g u r0 r1 s q 0 0 0 _ HW.out.at_ hq HNB.out HNU.out HW.out.tb hg HW.out.hw hs).mono ?_
        rintro e w2 ⟨he, h2, f2⟩
        obtain ⟨E, K, hR⟩ : ∃ E K, idl s q = (E, K) := by cases idl s q with | mk a b => exact ⟨a, b, rfl⟩
        rw [hR] at he h2
        have HR := Lib.hid (show idt s q = (E, 0, K, 0) by unfold idt; rw [hR])
        clear hR
        dsimp only at he h2
        subst he
        have H2 := Lib.hid h2
        have HF2 := Lib.hid (Fr.trans HW.out.fr f2)
        have hcl := h2.cl
        have c39 := hcl.c39
        have fz := hcl.fz
        clear h2 hcl HW f2
        go_wp2_with fail
        go_end0
        unfold Nxt
        rw [HU.out, HR.out]
        exact ⟨rfl, u, r0, r1, At.kind H2.out _, HF2.out.setc 39 _⟩
    focus
      have e1 : decide ((p : Int) + 2 ≤ (s.size : Int)) = true := decide_eq_true (by omega)
      have i1 : (p : Int) ≤ (p : Int) + 2 := by omega
      have i2 : (p : Int) + 2 ≤ (s.size : Int) := by omega
      have i3 : (0 : Int) ≤ (p : Int) + 2 := by omega
      have e2 : ((s.extract p (p + 2)).toList == [45, 62]) = true := (lit_cdc _).trans (by rw [cdc_ext a, b])
      have HU := Lib.hid (show mns s q = (p + 2, 0, 4, 0) by unfold mns; rw [HN0.out, HPD.out, if_neg (by decide), if_pos b])
      have HWD := Lib.hid (cdc_wd b)
      clear a b
      go_quiet (fail)
      have HW := Lib.hid (HW.out.drewN hg nq)
      generalize World.drewN _ _ = W at HW ⊢
      have hcl := HW.out.at_.cl
      have c39 := hcl.c39
      have fz := hcl.fz
      clear hcl
      go_wp2_with fail
      clear c39 fz
      refine (HW.out.step hg hs tq0 tq1).mono ?_
      rintro e w2 ⟨rfl, h2⟩
      rw [HPD.out] at h2
      have H2 := Lib.hid h2
      clear h2 HW
      go_wp2_with fail
      refine (H2.out.step hg hs tq0 tq1).mono ?_
      rintro e w3 ⟨rfl, h3⟩
      rw [HWD.out.2.1] at h3
      have H3 := Lib.hid h3
      clear h3 H2
      go_wp2_with fail
      refine (H3.out.step hg hs tq0 tq1).mono ?_
      rintro e w4 ⟨rfl, h4⟩
      rw [HWD.out.2.2] at h4
      have H4 := Lib.hid h4
      have hcl := h4.at_.cl
      have c39 := hcl.c39
      have fz := hcl.fz
      clear h4 H3 hcl
      go_wp2_with fail
      go_end0
      rw [HU.out]
      exact ⟨rfl, u, r0, r1, At.kind H4.out.at_ 4, H4.out.fr.setc 39 _⟩
  · go_enter Tryd.func51, Tryd.ntmps51
    refine wp_block (wp_loop_rounds 2 ?_)
    rw [rounds_succ]
    refine wp_block ?_
    have hcl := ha.cl
    have c36 : wx.cell? ⟨g, 36, none⟩ = some (.int .i32 0) := hcl.c36
    have c37 : wx.cell? ⟨g, 37, none⟩ = some (.int .i32 0) := hcl.c37
    have fz := hcl.fz
    have HA := Lib.hid ha
    have HF := Lib.hid hf
    have HC := Lib.hid hc
    have HN := Lib.hid hqn
    have HC0 := Lib.hid (cp_of (s := s) (k := 0) (by have := hc.sz; omega) (by rw [h47]; decide))
    have HC1 := Lib.hid (cp_of (s := s) (k := 1) (by have := hc.sz; omega) (by rw [h42]; decide))
    rw [h47] at HC0
    rw [h42] at HC1
    clear hcl ha hf hc hqn h47 h42
    go_wp2_with fail
    refine (end44 0 0 (by omega) (by omega) (by omega) (by omega) _).mono ?_
    rintro e w1 ⟨rfl, hb1⟩
    rw [Int.add_zero]
    have HA1 := Lib.hid (HA.out.below hb1)
    have HF1 := Lib.hid (HF.out.bel hb1)
    clear c36 c37 fz HA HF hb1
    have hcl := HA1.out.cl
    have c36 := hcl.c36
    have c37 := hcl.c37
    have c38 := hcl.c38
    have c39 := hcl.c39
    have c40 := hcl.c40
    have fz := hcl.fz
    clear hcl
    go_upto_region 1 with fail
    have hA2 := Za.At.tok0 HA1.out
    have hF2 := ((((HF1.out.setc 36 (.int .i32 0)).setc 37 (.int .i32 0)).setc 38 (.int .u16 0)).setc 39 (.int .u8 0)).setc 40 (.int .u8 0)
    clear c36 c37 c38 c39 c40 fz HA1 HF1
    generalize World.setCell _ _ _ = W at hA2 hF2 ⊢
    have HW : Hid (Wh g u0 x0 x1 s 0 0 0 0 w 0 W) := Lib.hid ⟨hA2, hF2, Nat.zero_le _, tabs_fr HT.out hg hw hF2, Nat.le_trans hw hF2.size⟩
    have c35 : W.cell? ⟨g, 35, none⟩ = some (.int .i32 47) := by rw [← HC0.out.1]; exact hA2.cl.c35
    clear hA2 hF2
    go_wp2_with fail
    refine (HW.out.step hg hs (by decide) (by decide)).mono ?_
    rintro e w2 ⟨rfl, h2⟩
    rw [HC0.out.2, Nat.zero_add] at h2
    have H2 := Lib.hid h2
    have c35 : w2.cell? ⟨g, 35, none⟩ = some (.int .i32 42) := by rw [← HC1.out.1]; exact h2.at_.cl.c35
    clear h2 HW
    go_wp2_with fail
    refine (H2.out.step hg hs (by decide) (by decide)).mono ?_
    rintro e w3 ⟨rfl, h3⟩
    rw [HC1.out.2] at h3
    have H3 : Hid (Wh g u0 x0 x1 s 0 0 0 0 w 2 w3) := Lib.hid h3
    have c36 : w3.cell? ⟨g, 36, none⟩ = some (.int .i32 0) := h3.at_.cl.c36
    have c37 : w3.cell? ⟨g, 37, none⟩ = some (.int .i32 2) := h3.at_.cl.c37
    clear h3 H2 c35
    go_wp2_with fail
    refine (com64 g u0 x0 x1 s n 0 0 0 _ H3.out.at_ HC.out H3.out.tb hg H3.out.hw hs).mono ?_
    rintro e wi ⟨rfl, u, r0, r1, ha4, hf4⟩
    obtain ⟨ts, hts0⟩ : ∃ t : Nat, t = 0 := ⟨_, rfl⟩
    have HA : Hid (At g u r0 r1 s q (ts : Int) 0 0 0 wi) := Lib.hid (by rw [hts0, HN.out]; exact ha4)
    have HF := Lib.hid (Fr.trans H3.out.fr hf4)
    have hts : ts ≤ q := by omega
    clear ha4 hf4 c36 c37 H3 HC HN HC0 HC1 hts0
    go_wp2_with fail
    rw [rounds_succ]
    refine wp_block ?_
    have ha := HA.out
    have hf := HF.out
    clear HA HF
    have hcl := ha.cl
    have c36 := hcl.c36
    have c37 := hcl.c37
    have fz := hcl.fz
    have HA := Lib.hid ha
    have HF := Lib.hid hf
    have i0 : (0 : Int) ≤ (ts : Int) := by omega
    have i1 : (ts : Int) ≤ 100000000 := by omega
    have i2 : (0 : Int) ≤ (q : Int) - (ts : Int) := by omega
    have i3 : (q : Int) - (ts : Int) ≤ 100000000 := by omega
    have i4 : (ts : Int) + ((q : Int) - (ts : Int)) = (q : Int) := by omega
    have HI4 := Lib.hid i4
    clear ha hf hcl i4 hts
    go_wp2_with fail
    refine (end44 (ts : Int) ((q : Int) - (ts : Int)) i0 i1 i2 i3 _).mono ?_
    rintro e w1 ⟨rfl, hb1⟩
    rw [HI4.out]
    have HA1 := Lib.hid (HA.out.below hb1)
    have HF1 := Lib.hid (HF.out.bel hb1)
    clear c36 c37 fz i0 i1 i2 i3 HA HF hb1 HI4
    have hcl := HA1.out.cl
    have c36 := hcl.c36
    have c37 := hcl.c37
    have c38 := hcl.c38
    have c39 := hcl.c39
    have c40 := hcl.c40
    have fz := hcl.fz
    clear hcl
    go_upto_region 1 with fail
    have hA2 := At.tok HA1.out
    have hF2 := ((((HF1.out.setc 36 (.int .i32 (q : Int))).setc 37 (.int .i32 0)).setc 38 (.int .u16 0)).setc 39 (.int .u8 0)).setc 40 (.int .u8 0)
    clear c36 c37 c38 c39 c40 fz HA1 HF1
    generalize World.setCell _ _ _ = W at hA2 hF2 ⊢
    have HW : Hid (Wh g u r0 r1 s q 0 0 0 w q W) := Lib.hid ⟨hA2, hF2, hq, tabs_fr HT.out hg hw hF2, Nat.le_trans hw hF2.size⟩
    have hcl := hA2.cl
    have c35 := hcl.c35
    have c39 := hcl.c39
    have c40 := hcl.c40
    have fz := hcl.fz
    clear hcl hA2 hF2 HT
    rw [HCP.out] at c35
    go_wp2_with fail
    refine (num70 g u r0 r1 s q q 0 0 0 _ HW.out.at_ hq hs).mono ?_
    rintro e w9 ⟨rfl, rfl⟩
    cases hn : wsn s q
    rotate_left
    focus
      have HU := Lib.hid (show mns s q = nmt s q by unfold mns; rw [if_pos hn])
      clear hn
      go_wp2_with fail
      clear c35 c39 c40 fz
      refine (num71 g u r0 r1 s q 0 0 _ HW.out.at_ hq HNB.out HW.out.tb hg HW.out.hw hs).mono ?_
      rintro e w2 ⟨he, h2, f2⟩
      obtain ⟨E, K, U, hR⟩ : ∃ E K U, num s q = (E, K, U) := by cases num s q with | mk a b => cases b with | mk b c => exact ⟨a, b, c, rfl⟩
      rw [hR] at he h2
      have HR := Lib.hid (show nmt s q = (E, U, K, 0) by unfold nmt; rw [hR])
      clear hR
      dsimp only at he h2
      subst he
      have H2 := Lib.hid h2
      have HF2 := Lib.hid (Fr.trans HW.out.fr f2)
      have hcl := h2.cl
      have c39 := hcl.c39
      have fz := hcl.fz
      clear h2 hcl HW f2
      go_wp2_with fail
      go_end0
      unfold Nxt
      rw [HU.out, HR.out]
      exact ⟨rfl, u, r0, r1, At.kind H2.out _, HF2.out.setc 39 _⟩
    have HN0 := Lib.hid hn
    clear hn
    go_upto_region 90 with fail
    have hcl := HW.out.at_.cl
    have c10 := hcl.c10
    have c33 := hcl.c33
    have HLE := Lib.hid (cp_rng s q hq).2.2
    obtain ⟨p, hp⟩ : ∃ p, q + wdOf s q = p := ⟨_, rfl⟩
    rw [hp] at c33 HLE
    have HPD := Lib.hid hp
    have i0 : (0 : Int) ≤ (p : Int) := by omega
    have i9 : (p : Int) ≤ 2000000 := by have := HLE.out; omega
    clear hp hcl c35 c39 c40 fz
    by_cases a : p + 2 ≤ s.size
    rotate_left
    focus
      have b : cdc s p = false := by unfold cdc; rw [decide_eq_false a]; rfl
      have e1 : decide ((p : Int) + 2 ≤ (s.size : Int)) = false := decide_eq_false (by omega)
      have HU : Hid (mns s q = if wsi s q = true then idt s q else (q + wdOf s q, 0, 22, 0)) := Lib.hid (by unfold mns; rw [HN0.out, HPD.out, b, if_neg (by decide), if_neg (by decide)])
      clear a b
      go_quiet (fail)
      have HW := Lib.hid (HW.out.drewN hg nq)
      generalize World.drewN _ _ = W at HW ⊢
      have hcl := HW.out.at_.cl
      have c39 := hcl.c39
      have fz := hcl.fz
      clear hcl
      go_wp2_with fail
      refine (ident68 g u r0 r1 s q q 0 0 0 _ HW.out.at_ hq HNB.out HW.out.tb HW.out.hw hs).mono ?_
      rintro e w5 ⟨rfl, hb5⟩
      have HW5 := Lib.hid (HW.out.bel hb5)
      clear HW hb5
      have HW := HW5
      clear HW5 c39 fz
      cases hi : wsi s q
      · rw [hi, if_neg (by decide)] at HU
        clear hi
        go_wp2_with fail
        refine (HW.out.step hg hs tq0 tq1).mono ?_
        rintro e w2 ⟨rfl, h2⟩
        have H2 := Lib.hid h2
        have hcl := h2.at_.cl
        have c39 := hcl.c39
        have fz := hcl.fz
        clear h2 hcl HW
        go_wp2_with fail
        go_end0
        rw [HU.out]
        exact ⟨rfl, u, r0, r1, At.kind H2.out.at_ 22, H2.out.fr.setc 39 _⟩
      · rw [hi, if_pos rfl] at HU
        clear hi
        go_wp2_with fail
        refine (like72 g u r0 r1 s q 0 0 0 _ HW.out.at_ hq HNB.out HNU.out HW.out.tb hg HW.out.hw hs).mono ?_
        rintro e w2 ⟨he, h2, f2⟩
        obtain ⟨E, K, hR⟩ : ∃ E K, idl s q = (E, K) := by cases idl s q with | mk a b => exact ⟨a, b, rfl⟩
        rw [hR] at he h2
        have HR := Lib.hid (show idt s q = (E, 0, K, 0) by unfold idt; rw [hR])
        clear hR
        dsimp only at he h2
        subst he
        have H2 := Lib.hid h2
        have HF2 := Lib.hid (Fr.trans HW.out.fr f2)
        have hcl := h2.cl
        have c39 := hcl.c39
        have fz := hcl.fz
        clear h2 hcl HW f2
        go_wp2_with fail
        go_end0
        unfold Nxt
        rw [HU.out, HR.out]
        exact ⟨rfl, u, r0, r1, At.kind H2.out _, HF2.out.setc 39 _⟩
    cases b : cdc s p
    focus
      have e1 : decide ((p : Int) + 2 ≤ (s.size : Int)) = true := decide_eq_true (by omega)
      have i1 : (p : Int) ≤ (p : Int) + 2 := by omega
      have i2 : (p : Int) + 2 ≤ (s.size : Int) := by omega
      have i3 : (0 : Int) ≤ (p : Int) + 2 := by omega
      have e2 : ((s.extract p (p + 2)).toList == [45, 62]) = false := (lit_cdc _).trans (by rw [cdc_ext a, b])
      have HU : Hid (mns s q = if wsi s q = true then idt s q else (q + wdOf s q, 0, 22, 0)) := Lib.hid (by unfold mns; rw [HN0.out, HPD.out, b, if_neg (by decide), if_neg (by decide)])
      clear a b
      go_quiet (fail)
      have HW := Lib.hid (HW.out.drewN hg nq)
      generalize World.drewN _ _ = W at HW ⊢
      have hcl := HW.out.at_.cl
      have c39 := hcl.c39
      have fz := hcl.fz
      clear hcl
      go_wp2_with fail
      refine (ident68 g u r0 r1 s q q 0 0 0 _ HW.out.at_ hq HNB.out HW.out.tb HW.out.hw hs).mono ?_
      rintro e w5 ⟨rfl, hb5⟩
      have HW5 := Lib.hid (HW.out.bel hb5)
      clear HW hb5
      have HW := HW5
      clear HW5 c39 fz
      cases hi : wsi s q
      · rw [hi, if_neg (by decide)] at HU
        clear hi
        go_wp2_with fail
        refine (HW.out.step hg hs tq0 tq1).mono ?_
        rintro e w2 ⟨rfl, h2⟩
        have H2 := Lib.hid h2
        have hcl := h2.at_.cl
        have c39 := hcl.c39
        have fz := hcl.fz
        clear h2 hcl HW
        go_wp2_with fail
        go_end0
        rw [HU.out]
        exact ⟨rfl, u, r0, r1, At.kind H2.out.at_ 22, H2.out.fr.setc 39 _⟩
      · rw [hi, if_pos rfl] at HU
        clear hi
        go_wp2_with fail
        refine (like72 g u r0 r1 s q 0 0 0 _ HW.out.at_ hq HNB.out HNU.out HW.out.tb hg HW.out.hw hs).mono ?_
        rintro e w2 ⟨he, h2, f2⟩
        obtain ⟨E, K, hR⟩ : ∃ E K, idl s q = (E, K) := by cases idl s q with | mk a b => exact ⟨a, b, rfl⟩
        rw [hR] at he h2
        have HR := Lib.hid (show idt s q = (E, 0, K, 0) by unfold idt; rw [hR])
        clear hR
        dsimp only at he h2
        subst he
        have H2 := Lib.hid h2
        have HF2 := Lib.hid (Fr.trans HW.out.fr f2)
        have hcl := h2.cl
        have c39 := hcl.c39
        have fz := hcl.fz
        clear h2 hcl HW f2
        go_wp2_with fail
        go_end0
        unfold Nxt
        rw [HU.out, HR.out]
        exact ⟨rfl, u, r0, r1, At.kind H2.out _, HF2.out.setc 39 _⟩
    focus
      have e1 : decide ((p : Int) + 2 ≤ (s.size : Int)) = true := decide_eq_true (by omega)
      have i1 : (p : Int) ≤ (p : Int) + 2 := by omega
      have i2 : (p : Int) + 2 ≤ (s.size : Int) := by omega
      have i3 : (0 : Int) ≤ (p : Int) + 2 := by omega
      have e2 : ((s.extract p (p + 2)).toList == [45, 62]) = true := (lit_cdc _).trans (by rw [cdc_ext a, b])
      have HU := Lib.hid (show mns s q = (p + 2, 0, 4, 0) by unfold mns; rw [HN0.out, HPD.out, if_neg (by decide), if_pos b])
      have HWD := Lib.hid (cdc_wd b)
      clear a b
      go_quiet (fail)
      have HW := Lib.hid (HW.out.drewN hg nq)
      generalize World.drewN _ _ = W at HW ⊢
      have hcl := HW.out.at_.cl
      have c39 := hcl.c39
      have fz := hcl.fz
      clear hcl
      go_wp2_with fail
      clear c39 fz
      refine (HW.out.step hg hs tq0 tq1).mono ?_
      rintro e w2 ⟨rfl, h2⟩
      rw [HPD.out] at h2
      have H2 := Lib.hid h2
      clear h2 HW
      go_wp2_with fail
      refine (H2.out.step hg hs tq0 tq1).mono ?_
      rintro e w3 ⟨rfl, h3⟩
      rw [HWD.out.2.1] at h3
      have H3 := Lib.hid h3
      clear h3 H2
      go_wp2_with fail
      refine (H3.out.step hg hs tq0 tq1).mono ?_
      rintro e w4 ⟨rfl, h4⟩
      rw [HWD.out.2.2] at h4
      have H4 := Lib.hid h4
      have hcl := h4.at_.cl
      have c39 := hcl.c39
      have fz := hcl.fz
      clear h4 H3 hcl
      go_wp2_with fail
      go_end0
      rw [HU.out]
      exact ⟨rfl, u, r0, r1, At.kind H4.out.at_ 4, H4.out.fr.setc 39 _⟩
set_option maxRecDepth 100000 in
set_option maxHeartbeats 8000000 in
theorem nx60 (g : Nat) (s : ByteArray) (q : Nat) (w wx : World) (hP : Pc g s q w wx) (hcp : cpOf s q = 60) :
    Calls Tryd.prog 51 #[.pointer (some ⟨g, 0, none⟩)] wx (Nxt g s q (les s q) w) := by
  obtain ⟨hbef, hq, hs, hT, hw, hg, hnb, hnu, hns⟩ := hP
  have HNB := Lib.hid hnb
  have HNU := Lib.hid hnu
  have HNS := Lib.hid hns
  have HT := Lib.hid hT
  have tq0 : (0 : Int) ≤ (q : Int) := by omega
  have tq1 : (q : Int) ≤ 2000000 := by omega
  have HCP := Lib.hid hcp
  clear hT hnb hnu hns hcp
  rcases hbef with ⟨hf, u, r0, r1, ts, un, kd, fl, hts, ha⟩ | ⟨hf, u0, x0, x1, n, un, kd, fl, ha, hc, hqn, h47, h42⟩
  · go_enter Tryd.func51, Tryd.ntmps51
    refine wp_block (wp_loop_rounds 1 ?_)
    rw [rounds_succ]
    refine wp_block ?_
    have hcl := ha.cl
    have c36 := hcl.c36
    have c37 := hcl.c37
    have fz := hcl.fz
    have HA := Lib.hid ha
    have HF := Lib.hid hf
    have i0 : (0 : Int) ≤ (ts : Int) := by omega
    have i1 : (ts : Int) ≤ 100000000 := by omega
    have i2 : (0 : Int) ≤ (q : Int) - (ts : Int) := by omega
    have i3 : (q : Int) - (ts : Int) ≤ 100000000 := by omega
    have i4 : (ts : Int) + ((q : Int) - (ts : Int)) = (q : Int) := by omega
    have HI4 := Lib.hid i4
    clear ha hf hcl i4 hts
    go_wp2_with fail
    refine (end44 (ts : Int) ((q : Int) - (ts : Int)) i0 i1 i2 i3 _).mono ?_
    rintro e w1 ⟨rfl, hb1⟩
    rw [HI4.out]
    have HA1 := Lib.hid (HA.out.below hb1)
    have HF1 := Lib.hid (HF.out.bel hb1)
    clear c36 c37 fz i0 i1 i2 i3 HA HF hb1 HI4
    have hcl := HA1.out.cl
    have c36 := hcl.c36
    have c37 := hcl.c37
    have c38 := hcl.c38
    have c39 := hcl.c39
    have c40 := hcl.c40
    have fz := hcl.fz
    clear hcl
    go_upto_region 1 with fail
    have hA2 := At.tok HA1.out
    have hF2 := ((((HF1.out.setc 36 (.int .i32 (q : Int))).setc 37 (.int .i32 0)).setc 38 (.int .u16 0)).setc 39 (.int .u8 0)).setc 40 (.int .u8 0)
    clear c36 c37 c38 c39 c40 fz HA1 HF1
    generalize World.setCell _ _ _ = W at hA2 hF2 ⊢
    have HW : Hid (Wh g u r0 r1 s q 0 0 0 w q W) := Lib.hid ⟨hA2, hF2, hq, tabs_fr HT.out hg hw hF2, Nat.le_trans hw hF2.size⟩
    have hcl := hA2.cl
    have c35 := hcl.c35
    have c39 := hcl.c39
    have c40 := hcl.c40
    have fz := hcl.fz
    clear hcl hA2 hF2 HT
    rw [HCP.out] at c35
    go_upto_region 100 with fail
    have hcl := HW.out.at_.cl
    have c10 := hcl.c10
    have c33 := hcl.c33
    have HLE := Lib.hid (cp_rng s q hq).2.2
    obtain ⟨p, hp⟩ : ∃ p, q + wdOf s q = p := ⟨_, rfl⟩
    rw [hp] at c33 HLE
    have HPD := Lib.hid hp
    have i0 : (0 : Int) ≤ (p : Int) := by omega
    have i9 : (p : Int) ≤ 2000000 := by have := HLE.out; omega
    clear hp hcl c35 c39 c40 fz
    by_cases a : p + 3 ≤ s.size
    rotate_left
    focus
      have b : cdo s p = false := by unfold cdo; rw [decide_eq_false a]; rfl
      have e1 : decide ((p : Int) + 3 ≤ (s.size : Int)) = false := decide_eq_false (by omega)
      have HU : Hid (les s q = (q + wdOf s q, 0, 21, 0)) := Lib.hid (by unfold les; rw [HPD.out, b, if_neg (by decide)])
      clear a b
      go_quiet (fail)
      have HW := Lib.hid (HW.out.drewN hg nq)
      generalize World.drewN _ _ = W at HW ⊢
      have hcl := HW.out.at_.cl
      have c39 := hcl.c39
      have fz := hcl.fz
      clear hcl
      go_wp2_with fail
      clear c39 fz
      refine (HW.out.step hg hs tq0 tq1).mono ?_
      rintro e w2 ⟨rfl, h2⟩
      have H2 := Lib.hid h2
      have hcl := h2.at_.cl
      have c39 := hcl.c39
      have fz := hcl.fz
      clear h2 hcl HW
      go_wp2_with fail
      go_end0
      rw [HU.out]
      exact ⟨rfl, u, r0, r1, At.kind H2.out.at_ 21, H2.out.fr.setc 39 _⟩
    cases b : cdo s p
    focus
      have e1 : decide ((p : Int) + 3 ≤ (s.size : Int)) = true := decide_eq_true (by omega)
      have i1 : (p : Int) ≤ (p : Int) + 3 := by omega
      have i2 : (p : Int) + 3 ≤ (s.size : Int) := by omega
      have i3 : (0 : Int) ≤ (p : Int) + 3 := by omega
      have e2 : ((s.extract p (p + 3)).toList == [33, 45, 45]) = false := (lit_cdo _).trans (by rw [cdo_ext a, b])
      have HU : Hid (les s q = (q + wdOf s q, 0, 21, 0)) := Lib.hid (by unfold les; rw [HPD.out, b, if_neg (by decide)])
      clear a b
      go_quiet (fail)
      have HW := Lib.hid (HW.out.drewN hg nq)
      generalize World.drewN _ _ = W at HW ⊢
      have hcl := HW.out.at_.cl
      have c39 := hcl.c39
      have fz := hcl.fz
      clear hcl
      go_wp2_with fail
      clear c39 fz
      refine (HW.out.step hg hs tq0 tq1).mono ?_
      rintro e w2 ⟨rfl, h2⟩
      have H2 := Lib.hid h2
      have hcl := h2.at_.cl
      have c39 := hcl.c39
      have fz := hcl.fz
      clear h2 hcl HW
      go_wp2_with fail
      go_end0
      rw [HU.out]
      exact ⟨rfl, u, r0, r1, At.kind H2.out.at_ 21, H2.out.fr.setc 39 _⟩
    focus
      have e1 : decide ((p : Int) + 3 ≤ (s.size : Int)) = true := decide_eq_true (by omega)
      have i1 : (p : Int) ≤ (p : Int) + 3 := by omega
      have i2 : (p : Int) + 3 ≤ (s.size : Int) := by omega
      have i3 : (0 : Int) ≤ (p : Int) + 3 := by omega
      have e2 : ((s.extract p (p + 3)).toList == [33, 45, 45]) = true := (lit_cdo _).trans (by rw [cdo_ext a, b])
      have HU := Lib.hid (show les s q = (p + 3, 0, 5, 0) by unfold les; rw [HPD.out, if_pos b])
      have HWD := Lib.hid (cdo_wd b)
      clear a b
      go_quiet (fail)
      have HW := Lib.hid (HW.out.drewN hg nq)
      generalize World.drewN _ _ = W at HW ⊢
      have hcl := HW.out.at_.cl
      have c39 := hcl.c39
      have fz := hcl.fz
      clear hcl
      go_wp2_with fail
      clear c39 fz
      refine (HW.out.step hg hs tq0 tq1).mono ?_
      rintro e w2 ⟨rfl, h2⟩
      rw [HPD.out] at h2
      have H2 := Lib.hid h2
      clear h2 HW
      go_wp2_with fail
      refine (H2.out.step hg hs tq0 tq1).mono ?_
      rintro e w3 ⟨rfl, h3⟩
      rw [HWD.out.2.1] at h3
      have H3 := Lib.hid h3
      clear h3 H2
      go_wp2_with fail
      refine (H3.out.step hg hs tq0 tq1).mono ?_
      rintro e w4 ⟨rfl, h4⟩
      rw [HWD.out.2.2.1] at h4
      have H4 := Lib.hid h4
      clear h4 H3
      go_wp2_with fail
      refine (H4.out.step hg hs tq0 tq1).mono ?_
      rintro e w5 ⟨rfl, h5⟩
      rw [HWD.out.2.2.2] at h5
      have H5 := Lib.hid h5
      have hcl := h5.at_.cl
      have c39 := hcl.c39
      have fz := hcl.fz
      clear h5 H4 hcl
      go_wp2_with fail
      go_end0
      rw [HU.out]
      exact ⟨rfl, u, r0, r1, At.kind H5.out.at_ 5, H5.out.fr.setc 39 _⟩
  · go_enter Tryd.func51, Tryd.ntmps51
    refine wp_block (wp_loop_rounds 2 ?_)
    rw [rounds_succ]
    refine wp_block ?_
    have hcl := ha.cl
    have c36 : wx.cell? ⟨g, 36, none⟩ = some (.int .i32 0) := hcl.c36
    have c37 : wx.cell? ⟨g, 37, none⟩ = some (.int .i32 0) := hcl.c37
    have fz := hcl.fz
    have HA := Lib.hid ha
    have HF := Lib.hid hf
    have HC := Lib.hid hc
    have HN := Lib.hid hqn
    have HC0 := Lib.hid (cp_of (s := s) (k := 0) (by have := hc.sz; omega) (by rw [h47]; decide))
    have HC1 := Lib.hid (cp_of (s := s) (k := 1) (by have := hc.sz; omega) (by rw [h42]; decide))
    rw [h47] at HC0
    rw [h42] at HC1
    clear hcl ha hf hc hqn h47 h42
    go_wp2_with fail
    refine (end44 0 0 (by omega) (by omega) (by omega) (by omega) _).mono ?_
    rintro e w1 ⟨rfl, hb1⟩
    rw [Int.add_zero]
    have HA1 := Lib.hid (HA.out.below hb1)
    have HF1 := Lib.hid (HF.out.bel hb1)
    clear c36 c37 fz HA HF hb1
    have hcl := HA1.out.cl
    have c36 := hcl.c36
    have c37 := hcl.c37
    have c38 := hcl.c38
    have c39 := hcl.c39
    have c40 := hcl.c40
    have fz := hcl.fz
    clear hcl
    go_upto_region 1 with fail
    have hA2 := Za.At.tok0 HA1.out
    have hF2 := ((((HF1.out.setc 36 (.int .i32 0)).setc 37 (.int .i32 0)).setc 38 (.int .u16 0)).setc 39 (.int .u8 0)).setc 40 (.int .u8 0)
    clear c36 c37 c38 c39 c40 fz HA1 HF1
    generalize World.setCell _ _ _ = W at hA2 hF2 ⊢
    have HW : Hid (Wh g u0 x0 x1 s 0 0 0 0 w 0 W) := Lib.hid ⟨hA2, hF2, Nat.zero_le _, tabs_fr HT.out hg hw hF2, Nat.le_trans hw hF2.size⟩
    have c35 : W.cell? ⟨g, 35, none⟩ = some (.int .i32 47) := by rw [← HC0.out.1]; exact hA2.cl.c35
    clear hA2 hF2
    go_wp2_with fail
    refine (HW.out.step hg hs (by decide) (by decide)).mono ?_
    rintro e w2 ⟨rfl, h2⟩
    rw [HC0.out.2, Nat.zero_add] at h2
    have H2 := Lib.hid h2
    have c35 : w2.cell? ⟨g, 35, none⟩ = some (.int .i32 42) := by rw [← HC1.out.1]; exact h2.at_.cl.c35
    clear h2 HW
    go_wp2_with fail
    refine (H2.out.step hg hs (by decide) (by decide)).mono ?_
    rintro e w3 ⟨rfl, h3⟩
    rw [HC1.out.2] at h3
    have H3 : Hid (Wh g u0 x0 x1 s 0 0 0 0 w 2 w3) := Lib.hid h3
    have c36 : w3.cell? ⟨g, 36, none⟩ = some (.int .i32 0) := h3.at_.cl.c36
    have c37 : w3.cell? ⟨g, 37, none⟩ = some (.int .i32 2) := h3.at_.cl.c37
    clear h3 H2 c35
    go_wp2_with fail
    refine (com64 g u0 x0 x1 s n 0 0 0 _ H3.out.at_ HC.out H3.out.tb hg H3.out.hw hs).mono ?_
    rintro e wi ⟨rfl, u, r0, r1, ha4, hf4⟩
    obtain ⟨ts, hts0⟩ : ∃ t : Nat, t = 0 := ⟨_, rfl⟩
    have HA : Hid (At g u r0 r1 s q (ts : Int) 0 0 0 wi) := Lib.hid (by rw [hts0, HN.out]; exact ha4)
    have HF := Lib.hid (Fr.trans H3.out.fr hf4)
    have hts : ts ≤ q := by omega
    clear ha4 hf4 c36 c37 H3 HC HN HC0 HC1 hts0
    go_wp2_with fail
    rw [rounds_succ]
    refine wp_block ?_
    have ha := HA.out
    have hf := HF.out
    clear HA HF
    have hcl := ha.cl
    have c36 := hcl.c36
    have c37 := hcl.c37
    have fz := hcl.fz
    have HA := Lib.hid ha
    have HF := Lib.hid hf
    have i0 : (0 : Int) ≤ (ts : Int) := by omega
    have i1 : (ts : Int) ≤ 100000000 := by omega
    have i2 : (0 : Int) ≤ (q : Int) - (ts : Int) := by omega
    have i3 : (q : Int) - (ts : Int) ≤ 100000000 := by omega
    have i4 : (ts : Int) + ((q : Int) - (ts : Int)) = (q : Int) := by omega
    have HI4 := Lib.hid i4
    clear ha hf hcl i4 hts
    go_wp2_with fail
    refine (end44 (ts : Int) ((q : Int) - (ts : Int)) i0 i1 i2 i3 _).mono ?_
    rintro e w1 ⟨rfl, hb1⟩
    rw [HI4.out]
    have HA1 := Lib.hid (HA.out.below hb1)
    have HF1 := Lib.hid (HF.out.bel hb1)
    clear c36 c37 fz i0 i1 i2 i3 HA HF hb1 HI4
    have hcl := HA1.out.cl
    have c36 := hcl.c36
    have c37 := hcl.c37
    have c38 := hcl.c38
    have c39 := hcl.c39
    have c40 := hcl.c40
    have fz := hcl.fz
    clear hcl
    go_upto_region 1 with fail
    have hA2 := At.tok HA1.out
    have hF2 := ((((HF1.out.setc 36 (.int .i32 (q : Int))).setc 37 (.int .i32 0)).setc 38 (.int .u16 0)).setc 39 (.int .u8 0)).setc 40 (.int .u8 0)
    clear c36 c37 c38 c39 c40 fz HA1 HF1
    generalize World.setCell _ _ _ = W at hA2 hF2 ⊢
    have HW : Hid (Wh g u r0 r1 s q 0 0 0 w q W) := Lib.hid ⟨hA2, hF2, hq, tabs_fr HT.out hg hw hF2, Nat.le_trans hw hF2.size⟩
    have hcl := hA2.cl
    have c35 := hcl.c35
    have c39 := hcl.c39
    have c40 := hcl.c40
    have fz := hcl.fz
    clear hcl hA2 hF2 HT
    rw [HCP.out] at c35
    go_upto_region 100 with fail
    have hcl := HW.out.at_.cl
    have c10 := hcl.c10
    have c33 := hcl.c33
    have HLE := Lib.hid (cp_rng s q hq).2.2
    obtain ⟨p, hp⟩ : ∃ p, q + wdOf s q = p := ⟨_, rfl⟩
    rw [hp] at c33 HLE
    have HPD := Lib.hid hp
    have i0 : (0 : Int) ≤ (p : Int) := by omega
    have i9 : (p : Int) ≤ 2000000 := by have := HLE.out; omega
    clear hp hcl c35 c39 c40 fz
    by_cases a : p + 3 ≤ s.size
    rotate_left
    focus
      have b : cdo s p = false := by unfold cdo; rw [decide_eq_false a]; rfl
      have e1 : decide ((p : Int) + 3 ≤ (s.size : Int)) = false := decide_eq_false (by omega)
      have HU : Hid (les s q = (q + wdOf s q, 0, 21, 0)) := Lib.hid (by unfold les; rw [HPD.out, b, if_neg (by decide)])
      clear a b
      go_quiet (fail)
      have HW := Lib.hid (HW.out.drewN hg nq)
      generalize World.drewN _ _ = W at HW ⊢
      have hcl := HW.out.at_.cl
      have c39 := hcl.c39
      have fz := hcl.fz
      clear hcl
      go_wp2_with fail
      clear c39 fz
      refine (HW.out.step hg hs tq0 tq1).mono ?_
      rintro e w2 ⟨rfl, h2⟩
      have H2 := Lib.hid h2
      have hcl := h2.at_.cl
      have c39 := hcl.c39
      have fz := hcl.fz
      clear h2 hcl HW
      go_wp2_with fail
      go_end0
      rw [HU.out]
      exact ⟨rfl, u, r0, r1, At.kind H2.out.at_ 21, H2.out.fr.setc 39 _⟩
    cases b : cdo s p
    focus
      have e1 : decide ((p : Int) + 3 ≤ (s.size : Int)) = true := decide_eq_true (by omega)
      have i1 : (p : Int) ≤ (p : Int) + 3 := by omega
      have i2 : (p : Int) + 3 ≤ (s.size : Int) := by omega
      have i3 : (0 : Int) ≤ (p : Int) + 3 := by omega
      have e2 : ((s.extract p (p + 3)).toList == [33, 45, 45]) = false := (lit_cdo _).trans (by rw [cdo_ext a, b])
      have HU : Hid (les s q = (q + wdOf s q, 0, 21, 0)) := Lib.hid (by unfold les; rw [HPD.out, b, if_neg (by decide)])
      clear a b
      go_quiet (fail)
      have HW := Lib.hid (HW.out.drewN hg nq)
      generalize World.drewN _ _ = W at HW ⊢
      have hcl := HW.out.at_.cl
      have c39 := hcl.c39
      have fz := hcl.fz
      clear hcl
      go_wp2_with fail
      clear c39 fz
      refine (HW.out.step hg hs tq0 tq1).mono ?_
      rintro e w2 ⟨rfl, h2⟩
      have H2 := Lib.hid h2
      have hcl := h2.at_.cl
      have c39 := hcl.c39
      have fz := hcl.fz
      clear h2 hcl HW
      go_wp2_with fail
      go_end0
      rw [HU.out]
      exact ⟨rfl, u, r0, r1, At.kind H2.out.at_ 21, H2.out.fr.setc 39 _⟩
    focus
      have e1 : decide ((p : Int) + 3 ≤ (s.size : Int)) = true := decide_eq_true (by omega)
      have i1 : (p : Int) ≤ (p : Int) + 3 := by omega
      have i2 : (p : Int) + 3 ≤ (s.size : Int) := by omega
      have i3 : (0 : Int) ≤ (p : Int) + 3 := by omega
      have e2 : ((s.extract p (p + 3)).toList == [33, 45, 45]) = true := (lit_cdo _).trans (by rw [cdo_ext a, b])
      have HU := Lib.hid (show les s q = (p + 3, 0, 5, 0) by unfold les; rw [HPD.out, if_pos b])
      have HWD := Lib.hid (cdo_wd b)
      clear a b
      go_quiet (fail)
      have HW := Lib.hid (HW.out.drewN hg nq)
      generalize World.drewN _ _ = W at HW ⊢
      have hcl := HW.out.at_.cl
      have c39 := hcl.c39
      have fz := hcl.fz
      clear hcl
      go_wp2_with fail
      clear c39 fz
      refine (HW.out.step hg hs tq0 tq1).mono ?_
      rintro e w2 ⟨rfl, h2⟩
      rw [HPD.out] at h2
      have H2 := Lib.hid h2
      clear h2 HW
      go_wp2_with fail
      refine (H2.out.step hg hs tq0 tq1).mono ?_
      rintro e w3 ⟨rfl, h3⟩
      rw [HWD.out.2.1] at h3
      have H3 := Lib.hid h3
      clear h3 H2
      go_wp2_with fail
      refine (H3.out.step hg hs tq0 tq1).mono ?_
      rintro e w4 ⟨rfl, h4⟩
      rw [HWD.out.2.2.1] at h4
      have H4 := Lib.hid h4
      clear h4 H3
      go_wp2_with fail
      refine (H4.out.step hg hs tq0 tq1).mono ?_
      rintro e w5 ⟨rfl, h5⟩
      rw [HWD.out.2.2.2] at h5
      have H5 := Lib.hid h5
      have hcl := h5.at_.cl
      have c39 := hcl.c39
      have fz := hcl.fz
      clear h5 H4 hcl
      go_wp2_with fail
      go_end0
      rw [HU.out]
      exact ⟨rfl, u, r0, r1, At.kind H5.out.at_ 5, H5.out.fr.setc 39 _⟩
end Go.Proofs.YtcljenkgbbbfpaaDoor.Zp
