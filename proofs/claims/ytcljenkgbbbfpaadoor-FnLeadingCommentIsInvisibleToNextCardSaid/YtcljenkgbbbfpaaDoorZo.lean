/-
  Proved: next at white space, number sign and commercial at, with or without a comment ahead. Conditions: those that each theorem names as its
  hypotheses, and no others.
-/
import Derived.Test.YtcljenkgbbbfpaaDoorZl
import Derived.Deep.DeepCutAuto
import Derived.BigQuiet
namespace Go.Proofs.YtcljenkgbbbfpaaDoor.Zo
open Go.RowKit Go.PlainAid Str Mem De Lu Dw Cu Rws Za Zb Zc Zd Ze Zf Zg Zh Zk Zl
set_option linter.unusedVariables false
set_option linter.unusedSimpArgs false
theorem ws_of {c : Int} (h : wsB c = true) : c = 32 ∨ c = 9 ∨ c = 10 ∨ c = 13 ∨ c = 12 := by
  unfold wsB at h
  simp at h
  omega
set_option maxRecDepth 100000 in
set_option maxHeartbeats 8000000 in
theorem nxW (g : Nat) (s : ByteArray) (q : Nat) (w wx : World) (hP : Pc g s q w wx) (hcp : wsB (cpOf s q) = true) :
    Calls Tryd.prog 51 #[.pointer (some ⟨g, 0, none⟩)] wx (Nxt g s q (wse s (q + wdOf s q), 0, 38, 0) w) := by
  obtain ⟨hbef, hq, hs, hT, hw, hg, hnb, hnu, hns⟩ := hP
  have HNB := Lib.hid hnb
  have HNU := Lib.hid hnu
  have HNS := Lib.hid hns
  have HT := Lib.hid hT
  have tq0 : (0 : Int) ≤ (q : Int) := by omega
  have tq1 : (q : Int) ≤ 2000000 := by omega
  have HCP := Lib.hid hcp
  clear hT hnb hnu hns hcp
  rcases hbef with ⟨hf, u, r0, r1, ts, un, kd, fl, hts, ha⟩ | ⟨hf, u0, x0, x1, n, un, kd, fl, ha, hc, hqn, h47, h42⟩
  · go_enter Tryd.func51, Tryd.ntmps51
    refine wp_block (wp_loop_rounds 1 ?_)
    rw [rounds_succ]
    refine wp_block ?_
    have hcl := ha.cl
    have c36 := hcl.c36
    have c37 := hcl.c37
    have fz := hcl.fz
    have HA := Lib.hid ha
    have HF := Lib.hid hf
    have i0 : (0 : Int) ≤ (ts : Int) := by omega
    have i1 : (ts : Int) ≤ 100000000 := by omega
    have i2 : (0 : Int) ≤ (q : Int) - (ts : Int) := by omega
    have i3 : (q : Int) - (ts : Int) ≤ 100000000 := by omega
    have i4 : (ts : Int) + ((q : Int) - (ts : Int)) = (q : Int) := by omega
    have HI4 := Lib.hid i4
    clear ha hf hcl i4 hts
    go_wp2_with fail
    refine (end44 (ts : Int) ((q : Int) - (ts : Int)) i0 i1 i2 i3 _).mono ?_
    rintro e w1 ⟨rfl, hb1⟩
    rw [HI4.out]
    have HA1 := Lib.hid (HA.out.below hb1)
    have HF1 := Lib.hid (HF.out.bel hb1)
    clear c36 c37 fz i0 i1 i2 i3 HA HF hb1 HI4
    have hcl := HA1.out.cl
    have c36 := hcl.c36
    have c37 := hcl.c37
    have c38 := hcl.c38
    have c39 := hcl.c39
    have c40 := hcl.c40
    have fz := hcl.fz
    clear hcl
    go_upto_region 1 with fail
    have hA2 := At.tok HA1.out
    have hF2 := ((((HF1.out.setc 36 (.int .i32 (q : Int))).setc 37 (.int .i32 0)).setc 38 (.int .u16 0)).setc 39 (.int .u8 0)).setc 40 (.int .u8 0)
    clear c36 c37 c38 c39 c40 fz HA1 HF1
    generalize World.setCell _ _ _ = W at hA2 hF2 ⊢
    have HW : Hid (Wh g u r0 r1 s q 0 0 0 w q W) := Lib.hid ⟨hA2, hF2, hq, tabs_fr HT.out hg hw hF2, Nat.le_trans hw hF2.size⟩
    have hcl := hA2.cl
    have c35 := hcl.c35
    have c39 := hcl.c39
    have c40 := hcl.c40
    have fz := hcl.fz
    clear hcl hA2 hF2 HT
    have HWS : cpOf s q = 32 ∨ cpOf s q = 9 ∨ cpOf s q = 10 ∨ cpOf s q = 13 ∨ cpOf s q = 12 := by
      exact ws_of HCP.out
    clear HCP
    rcases HWS with a | a | a | a | a
    all_goals
      rw [a] at c35
      clear a
      go_wp2_with fail
      clear c35 c39 c40 fz
      refine (HW.out.step hg hs tq0 tq1).mono ?_
      rintro e w2 ⟨rfl, h2⟩
      have H2 := Lib.hid h2
      have hcl := h2.at_.cl
      have c39 := hcl.c39
      have fz := hcl.fz
      clear h2 hcl HW
      clear c39 fz
      go_wp2_with fail
      have HLE := Lib.hid (cp_rng s q hq).2.2
      go_loopw [] (fun wr => ∃ k : Nat, Hid (wse s k = wse s (q + wdOf s q) ∧ q + wdOf s q ≤ k ∧ Wh g u r0 r1 s q 0 0 0 w k wr)) (fun wr => s.size - tlOf g wr)
      case atStart => exact ⟨q + wdOf s q, Lib.hid ⟨rfl, Nat.le_refl _, H2.out⟩⟩
      case round =>
        clear H2
        obtain ⟨k, HK⟩ := hrel
        obtain ⟨wj, rfl⟩ : ∃ x : World, x = wr := ⟨_, rfl⟩
        have HE := Lib.hid HK.out.1
        have HQK := Lib.hid HK.out.2.1
        have HJ := Lib.hid HK.out.2.2
        have HM := Lib.hid (tl_at HJ.out.at_)
        have hcl := HJ.out.at_.cl
        have c35 := hcl.c35
        have c39 := hcl.c39
        have c33 := hcl.c33
        have c10 := hcl.c10
        have fz := hcl.fz
        clear hcl HK
        cases hws : wsB (cpOf s k)
        · have HWS := Lib.hid hws
          clear hws
          have t47 : (cpOf s k == 47) = false := beq_eq_false_iff_ne.2 (fun e => HNS.out k (by have := HQK.out; omega) (bt_of e (by decide) (by decide)).2.1)
          go_wp2_with fail
          refine (isWs (cpOf s k) _).mono ?_
          rintro e w9 ⟨rfl, rfl⟩
          rw [HWS.out]
          go_wp2_with fail
          go_quiet (fail)
          have hcl := (HJ.out.drewN hg nq).at_.cl
          have c39 := hcl.c39
          have fz := hcl.fz
          clear hcl c35 c33 c10
          go_wp2_with fail
          go_end0
          have e := wse_stop (s := s) HWS.out
          rw [HE.out] at e
          rw [e]
          exact ⟨rfl, u, r0, r1, At.kind (HJ.out.drewN hg nq).at_ 38, (HJ.out.drewN hg nq).fr.setc 39 _⟩
        · have HWS := Lib.hid hws
          clear hws
          go_wp2_with fail
          refine (isWs (cpOf s k) _).mono ?_
          rintro e w9 ⟨rfl, rfl⟩
          rw [HWS.out]
          clear c35 c39 c33 c10 fz
          go_wp2_with fail
          refine (HJ.out.step hg hs tq0 tq1).mono ?_
          rintro e w3 ⟨rfl, h3⟩
          have H3 := Lib.hid h3
          clear h3
          go_wp2_with fail
          go_roundw
          case rel => exact ⟨k + wdOf s k, Lib.hid ⟨by rw [← HE.out]; exact (wse_step HJ.out.le HWS.out).symm, by have := HQK.out; omega, H3.out⟩⟩
          case measure => rw [HM.out, tl_at H3.out.at_]; have := wsb_lt HWS.out; have := wd_pos this; have := HQK.out; have := (cp_rng s k HJ.out.le).2.2; omega
  · go_enter Tryd.func51, Tryd.ntmps51
    refine wp_block (wp_loop_rounds 2 ?_)
    rw [rounds_succ]
    refine wp_block ?_
    have hcl := ha.cl
    have c36 : wx.cell? ⟨g, 36, none⟩ = some (.int .i32 0) := hcl.c36
    have c37 : wx.cell? ⟨g, 37, none⟩ = some (.int .i32 0) := hcl.c37
    have fz := hcl.fz
    have HA := Lib.hid ha
    have HF := Lib.hid hf
    have HC := Lib.hid hc
    have HN := Lib.hid hqn
    have HC0 := Lib.hid (cp_of (s := s) (k := 0) (by have := hc.sz; omega) (by rw [h47]; decide))
    have HC1 := Lib.hid (cp_of (s := s) (k := 1) (by have := hc.sz; omega) (by rw [h42]; decide))
    rw [h47] at HC0
    rw [h42] at HC1
    clear hcl ha hf hc hqn h47 h42
    go_wp2_with fail
    refine (end44 0 0 (by omega) (by omega) (by omega) (by omega) _).mono ?_
    rintro e w1 ⟨rfl, hb1⟩
    rw [Int.add_zero]
    have HA1 := Lib.hid (HA.out.below hb1)
    have HF1 := Lib.hid (HF.out.bel hb1)
    clear c36 c37 fz HA HF hb1
    have hcl := HA1.out.cl
    have c36 := hcl.c36
    have c37 := hcl.c37
    have c38 := hcl.c38
    have c39 := hcl.c39
    have c40 := hcl.c40
    have fz := hcl.fz
    clear hcl
    go_upto_region 1 with fail
    have hA2 := Za.At.tok0 HA1.out
    have hF2 := ((((HF1.out.setc 36 (.int .i32 0)).setc 37 (.int .i32 0)).setc 38 (.int .u16 0)).setc 39 (.int .u8 0)).setc 40 (.int .u8 0)
    clear c36 c37 c38 c39 c40 fz HA1 HF1
    generalize World.setCell _ _ _ = W at hA2 hF2 ⊢
    have HW : Hid (Wh g u0 x0 x1 s 0 0 0 0 w 0 W) := Lib.hid ⟨hA2, hF2, Nat.zero_le _, tabs_fr HT.out hg hw hF2, Nat.le_trans hw hF2.size⟩
    have c35 : W.cell? ⟨g, 35, none⟩ = some (.int .i32 47) := by rw [← HC0.out.1]; exact hA2.cl.c35
    clear hA2 hF2
    go_wp2_with fail
    refine (HW.out.step hg hs (by decide) (by decide)).mono ?_
    rintro e w2 ⟨rfl, h2⟩
    rw [HC0.out.2, Nat.zero_add] at h2
    have H2 := Lib.hid h2
    have c35 : w2.cell? ⟨g, 35, none⟩ = some (.int .i32 42) := by rw [← HC1.out.1]; exact h2.at_.cl.c35
    clear h2 HW
    go_wp2_with fail
    refine (H2.out.step hg hs (by decide) (by decide)).mono ?_
    rintro e w3 ⟨rfl, h3⟩
    rw [HC1.out.2] at h3
    have H3 : Hid (Wh g u0 x0 x1 s 0 0 0 0 w 2 w3) := Lib.hid h3
    have c36 : w3.cell? ⟨g, 36, none⟩ = some (.int .i32 0) := h3.at_.cl.c36
    have c37 : w3.cell? ⟨g, 37, none⟩ = some (.int .i32 2) := h3.at_.cl.c37
    clear h3 H2 c35
    go_wp2_with fail
    refine (com64 g u0 x0 x1 s n 0 0 0 _ H3.out.at_ HC.out H3.out.tb hg H3.out.hw hs).mono ?_
    rintro e wi ⟨rfl, u, r0, r1, ha4, hf4⟩
    obtain ⟨ts, hts0⟩ : ∃ t : Nat, t = 0 := ⟨_, rfl⟩
    have HA : Hid (At g u r0 r1 s q (ts : Int) 0 0 0 wi) := Lib.hid (by rw [hts0, HN.out]; exact ha4)
    have HF := Lib.hid (Fr.trans H3.out.fr hf4)
    have hts : ts ≤ q := by omega
    clear ha4 hf4 c36 c37 H3 HC HN HC0 HC1 hts0
    go_wp2_with fail
    rw [rounds_succ]
    refine wp_block ?_
    have ha := HA.out
    have hf := HF.out
    clear HA HF
    have hcl := ha.cl
    have c36 := hcl.c36
    have c37 := hcl.c37
    have fz := hcl.fz
    have HA := Lib.hid ha
    have HF := Lib.hid hf
    have i0 : (0 : Int) ≤ (ts : Int) := by omega
    have i1 : (ts : Int) ≤ 100000000 := by omega
    have i2 : (0 : Int) ≤ (q : Int) - (ts : Int) := by omega
    have i3 : (q : Int) - (ts : Int) ≤ 100000000 := by omega
    have i4 : (ts : Int) + ((q : Int) - (ts : Int)) = (q : Int) := by omega
    have HI4 := Lib.hid i4
    clear ha hf hcl i4 hts
    go_wp2_with fail
    refine (end44 (ts : Int) ((q : Int) - (ts : Int)) i0 i1 i2 i3 _).mono ?_
    rintro e w1 ⟨rfl, hb1⟩
    rw [HI4.out]
    have HA1 := Lib.hid (HA.out.below hb1)
    have HF1 := Lib.hid (HF.out.bel hb1)
    clear c36 c37 fz i0 i1 i2 i3 HA HF hb1 HI4
    have hcl := HA1.out.cl
    have c36 := hcl.c36
    have c37 := hcl.c37
    have c38 := hcl.c38
    have c39 := hcl.c39
    have c40 := hcl.c40
    have fz := hcl.fz
    clear hcl
    go_upto_region 1 with fail
    have hA2 := At.tok HA1.out
    have hF2 := ((((HF1.out.setc 36 (.int .i32 (q : Int))).setc 37 (.int .i32 0)).setc 38 (.int .u16 0)).setc 39 (.int .u8 0)).setc 40 (.int .u8 0)
    clear c36 c37 c38 c39 c40 fz HA1 HF1
    generalize World.setCell _ _ _ = W at hA2 hF2 ⊢
    have HW : Hid (Wh g u r0 r1 s q 0 0 0 w q W) := Lib.hid ⟨hA2, hF2, hq, tabs_fr HT.out hg hw hF2, Nat.le_trans hw hF2.size⟩
    have hcl := hA2.cl
    have c35 := hcl.c35
    have c39 := hcl.c39
    have c40 := hcl.c40
    have fz := hcl.fz
    clear hcl hA2 hF2 HT
    have HWS : cpOf s q = 32 ∨ cpOf s q = 9 ∨ cpOf s q = 10 ∨ cpOf s q = 13 ∨ cpOf s q = 12 := by
      exact ws_of HCP.out
    clear HCP
    rcases HWS with a | a | a | a | a
    all_goals
      rw [a] at c35
      clear a
      go_wp2_with fail
      clear c35 c39 c40 fz
      refine (HW.out.step hg hs tq0 tq1).mono ?_
      rintro e w2 ⟨rfl, h2⟩
      have H2 := Lib.hid h2
      have hcl := h2.at_.cl
      have c39 := hcl.c39
      have fz := hcl.fz
      clear h2 hcl HW
      clear c39 fz
      go_wp2_with fail
      have HLE := Lib.hid (cp_rng s q hq).2.2
      go_loopw [] (fun wr => ∃ k : Nat, Hid (wse s k = wse s (q + wdOf s q) ∧ q + wdOf s q ≤ k ∧ Wh g u r0 r1 s q 0 0 0 w k wr)) (fun wr => s.size - tlOf g wr)
      case atStart => exact ⟨q + wdOf s q, Lib.hid ⟨rfl, Nat.le_refl _, H2.out⟩⟩
      case round =>
        clear H2
        obtain ⟨k, HK⟩ := hrel
        obtain ⟨wj, rfl⟩ : ∃ x : World, x = wr := ⟨_, rfl⟩
        have HE := Lib.hid HK.out.1
        have HQK := Lib.hid HK.out.2.1
        have HJ := Lib.hid HK.out.2.2
        have HM := Lib.hid (tl_at HJ.out.at_)
        have hcl := HJ.out.at_.cl
        have c35 := hcl.c35
        have c39 := hcl.c39
        have c33 := hcl.c33
        have c10 := hcl.c10
        have fz := hcl.fz
        clear hcl HK
        cases hws : wsB (cpOf s k)
        · have HWS := Lib.hid hws
          clear hws
          have t47 : (cpOf s k == 47) = false := beq_eq_false_iff_ne.2 (fun e => HNS.out k (by have := HQK.out; omega) (bt_of e (by decide) (by decide)).2.1)
          go_wp2_with fail
          refine (isWs (cpOf s k) _).mono ?_
          rintro e w9 ⟨rfl, rfl⟩
          rw [HWS.out]
          go_wp2_with fail
          go_quiet (fail)
          have hcl := (HJ.out.drewN hg nq).at_.cl
          have c39 := hcl.c39
          have fz := hcl.fz
          clear hcl c35 c33 c10
          go_wp2_with fail
          go_end0
          have e := wse_stop (s := s) HWS.out
          rw [HE.out] at e
          rw [e]
          exact ⟨rfl, u, r0, r1, At.kind (HJ.out.drewN hg nq).at_ 38, (HJ.out.drewN hg nq).fr.setc 39 _⟩
        · have HWS := Lib.hid hws
          clear hws
          go_wp2_with fail
          refine (isWs (cpOf s k) _).mono ?_
          rintro e w9 ⟨rfl, rfl⟩
          rw [HWS.out]
          clear c35 c39 c33 c10 fz
          go_wp2_with fail
          refine (HJ.out.step hg hs tq0 tq1).mono ?_
          rintro e w3 ⟨rfl, h3⟩
          have H3 := Lib.hid h3
          clear h3
          go_wp2_with fail
          go_roundw
          case rel => exact ⟨k + wdOf s k, Lib.hid ⟨by rw [← HE.out]; exact (wse_step HJ.out.le HWS.out).symm, by have := HQK.out; omega, H3.out⟩⟩
          case measure => rw [HM.out, tl_at H3.out.at_]; have := wsb_lt HWS.out; have := wd_pos this; have := HQK.out; have := (cp_rng s k HJ.out.le).2.2; omega
set_option maxRecDepth 100000 in
set_option maxHeartbeats 8000000 in
theorem nx35 (g : Nat) (s : ByteArray) (q : Nat) (w wx : World) (hP : Pc g s q w wx) (hcp : cpOf s q = 35) :
    Calls Tryd.prog 51 #[.pointer (some ⟨g, 0, none⟩)] wx (Nxt g s q (hsh s (q + wdOf s q)) w) := by
  obtain ⟨hbef, hq, hs, hT, hw, hg, hnb, hnu, hns⟩ := hP
  have HNB := Lib.hid hnb
  have HNU := Lib.hid hnu
  have HNS := Lib.hid hns
  have HT := Lib.hid hT
  have tq0 : (0 : Int) ≤ (q : Int) := by omega
  have tq1 : (q : Int) ≤ 2000000 := by omega
  have HCP := Lib.hid hcp
  clear hT hnb hnu hns hcp
  rcases hbef with ⟨hf, u, r0, r1, ts, un, kd, fl, hts, ha⟩ | ⟨hf, u0, x0, x1, n, un, kd, fl, ha, hc, hqn, h47, h42⟩
  · go_enter Tryd.func51, Tryd.ntmps51
    refine wp_block (wp_loop_rounds 1 ?_)
    rw [rounds_succ]
    refine wp_block ?_
    have hcl := ha.cl
    have c36 := hcl.c36
    have c37 := hcl.c37
    have fz := hcl.fz
    have HA := Lib.hid ha
    have HF := Lib.hid hf
    have i0 : (0 : Int) ≤ (ts : Int) := by omega
    have i1 : (ts : Int) ≤ 100000000 := by omega
    have i2 : (0 : Int) ≤ (q : Int) - (ts : Int) := by omega
    have i3 : (q : Int) - (ts : Int) ≤ 100000000 := by omega
    have i4 : (ts : Int) + ((q : Int) - (ts : Int)) = (q : Int) := by omega
    have HI4 := Lib.hid i4
    clear ha hf hcl i4 hts
    go_wp2_with fail
    refine (end44 (ts : Int) ((q : Int) - (ts : Int)) i0 i1 i2 i3 _).mono ?_
    rintro e w1 ⟨rfl, hb1⟩
    rw [HI4.out]
    have HA1 := Lib.hid (HA.out.below hb1)
    have HF1 := Lib.hid (HF.out.bel hb1)
    clear c36 c37 fz i0 i1 i2 i3 HA HF hb1 HI4
    have hcl := HA1.out.cl
    have c36 := hcl.c36
    have c37 := hcl.c37
    have c38 := hcl.c38
    have c39 := hcl.c39
    have c40 := hcl.c40
    have fz := hcl.fz
    clear hcl
    go_upto_region 1 with fail
    have hA2 := At.tok HA1.out
    have hF2 := ((((HF1.out.setc 36 (.int .i32 (q : Int))).setc 37 (.int .i32 0)).setc 38 (.int .u16 0)).setc 39 (.int .u8 0)).setc 40 (.int .u8 0)
    clear c36 c37 c38 c39 c40 fz HA1 HF1
    generalize World.setCell _ _ _ = W at hA2 hF2 ⊢
    have HW : Hid (Wh g u r0 r1 s q 0 0 0 w q W) := Lib.hid ⟨hA2, hF2, hq, tabs_fr HT.out hg hw hF2, Nat.le_trans hw hF2.size⟩
    have hcl := hA2.cl
    have c35 := hcl.c35
    have c39 := hcl.c39
    have c40 := hcl.c40
    have fz := hcl.fz
    clear hcl hA2 hF2 HT
    rw [HCP.out] at c35
    go_wp2_with fail
    clear c35 c39 c40 fz
    refine (HW.out.step hg hs tq0 tq1).mono ?_
    rintro e w2 ⟨rfl, h2⟩
    have H2 := Lib.hid h2
    have hcl := h2.at_.cl
    have c39 := hcl.c39
    have fz := hcl.fz
    clear h2 hcl HW
    clear c39 fz
    have hcl := H2.out.at_.cl
    have HLE := Lib.hid (cp_rng s q hq).2.2
    obtain ⟨p, hp⟩ : ∃ p, p = q + wdOf s q := ⟨_, rfl⟩
    rw [← hp] at H2 HLE
    have HQP : Hid (q ≤ p) := Lib.hid (by omega)
    have HPQ := Lib.hid hp
    clear hp hcl
    have hcl := H2.out.at_.cl
    have c35 := hcl.c35
    have c39 := hcl.c39
    have c40 := hcl.c40
    have fz := hcl.fz
    clear hcl
    cases hn : ncB (cpOf s p)
    · have HU := Lib.hid (show hsh s p = (p, 0, 11, 0) by unfold hsh; rw [hn]; rfl)
      have HNC := Lib.hid hn
      clear hn
      go_wp2_with (first | (go_at_call 67; refine (cont67 (cpOf s p) _).mono ?_; rintro e w9 ⟨rfl, rfl⟩; rw [HNC.out]) | (go_at_call 61; refine (esc61 g (cpOf s p) _ c35 (cp_nob HNB.out HQP.out)).mono ?_; rintro e w9 ⟨rfl, rfl⟩))
      go_end0
      rw [← HPQ.out, HU.out]
      exact ⟨rfl, u, r0, r1, At.kind H2.out.at_ 11, H2.out.fr.setc 39 _⟩
    · have HU := Lib.hid (show hsh s p = (ne s p, 0, 28, if wsi s p = true then 1 else 0) by unfold hsh; rw [if_pos hn])
      have HNC := Lib.hid hn
      clear hn
      go_wp2_with (first | (go_at_call 67; refine (cont67 (cpOf s p) _).mono ?_; rintro e w9 ⟨rfl, rfl⟩; rw [HNC.out]))
      have H3 := Lib.hid (H2.out.kind hg 28)
      clear c35 c39 c40 fz H2
      generalize World.setCell _ _ _ = W3 at H3 ⊢
      refine (ident68 g u r0 r1 s p q 0 28 0 _ H3.out.at_ HLE.out (NoB.mono HNB.out HQP.out) H3.out.tb H3.out.hw hs).mono ?_
      rintro e w5 ⟨rfl, hb5⟩
      have H5 := Lib.hid (H3.out.bel hb5)
      have hcl := H5.out.at_.cl
      have c40 := hcl.c40
      have fz := hcl.fz
      clear hcl hb5 H3
      cases hi : wsi s p
      · rw [hi, if_neg (by decide)] at HU
        clear hi
        go_wp2_with fail
        refine (name69 g u r0 r1 s q p 0 28 0 _ H5.out.at_ HLE.out HQP.out (NoB.mono HNB.out HQP.out) H5.out.tb hg H5.out.hw hs).mono ?_
        rintro e w6 ⟨rfl, ha6, hf6⟩
        have HA6 := Lib.hid ha6
        have HF6 := Lib.hid (Fr.trans H5.out.fr hf6)
        clear ha6 hf6
        go_wp2_with fail
        go_end0
        rw [← HPQ.out, HU.out]
        exact ⟨rfl, u, r0, r1, HA6.out, HF6.out⟩
      · rw [hi, if_pos rfl] at HU
        clear hi
        have bor : bits .or .u8 0 1 = 1 := by decide
        go_wp2_with fail
        have H6 := Lib.hid (H5.out.flag hg 1)
        clear c40 fz H5
        generalize World.setCell _ _ _ = W6 at H6 ⊢
        refine (name69 g u r0 r1 s q p 0 28 1 _ H6.out.at_ HLE.out HQP.out (NoB.mono HNB.out HQP.out) H6.out.tb hg H6.out.hw hs).mono ?_
        rintro e w6 ⟨rfl, ha6, hf6⟩
        have HA6 := Lib.hid ha6
        have HF6 := Lib.hid (Fr.trans H6.out.fr hf6)
        clear ha6 hf6
        go_wp2_with fail
        go_end0
        rw [← HPQ.out, HU.out]
        exact ⟨rfl, u, r0, r1, HA6.out, HF6.out⟩
  · go_enter Tryd.func51, Tryd.ntmps51
    refine wp_block (wp_loop_rounds 2 ?_)
    rw [rounds_succ]
    refine wp_block ?_
    have hcl := ha.cl
    have c36 : wx.cell? ⟨g, 36, none⟩ = some (.int .i32 0) := hcl.c36
    have c37 : wx.cell? ⟨g, 37, none⟩ = some (.int .i32 0) := hcl.c37
    have fz := hcl.fz
    have HA := Lib.hid ha
    have HF := Lib.hid hf
    have HC := Lib.hid hc
    have HN := Lib.hid hqn
    have HC0 := Lib.hid (cp_of (s := s) (k := 0) (by have := hc.sz; omega) (by rw [h47]; decide))
    have HC1 := Lib.hid (cp_of (s := s) (k := 1) (by have := hc.sz; omega) (by rw [h42]; decide))
    rw [h47] at HC0
    rw [h42] at HC1
    clear hcl ha hf hc hqn h47 h42
    go_wp2_with fail
    refine (end44 0 0 (by omega) (by omega) (by omega) (by omega) _).mono ?_
    rintro e w1 ⟨rfl, hb1⟩
    rw [Int.add_zero]
    have HA1 := Lib.hid (HA.out.below hb1)
    have HF1 := Lib.hid (HF.out.bel hb1)
    clear c36 c37 fz HA HF hb1
    have hcl := HA1.out.cl
    have c36 := hcl.c36
    have c37 := hcl.c37
    have c38 := hcl.c38
    have c39 := hcl.c39
    have c40 := hcl.c40
    have fz := hcl.fz
    clear hcl
    go_upto_region 1 with fail
    have hA2 := Za.At.tok0 HA1.out
    have hF2 := ((((HF1.out.setc 36 (.int .i32 0)).setc 37 (.int .i32 0)).setc 38 (.int .u16 0)).setc 39 (.int .u8 0)).setc 40 (.int .u8 0)
    clear c36 c37 c38 c39 c40 fz HA1 HF1
    generalize World.setCell _ _ _ = W at hA2 hF2 ⊢
    have HW : Hid (Wh g u0 x0 x1 s 0 0 0 0 w 0 W) := Lib.hid ⟨hA2, hF2, Nat.zero_le _, tabs_fr HT.out hg hw hF2, Nat.le_trans hw hF2.size⟩
    have c35 : W.cell? ⟨g, 35, none⟩ = some (.int .i32 47) := by rw [← HC0.out.1]; exact hA2.cl.c35
    clear hA2 hF2
    go_wp2_with fail
    refine (HW.out.step hg hs (by decide) (by decide)).mono ?_
    rintro e w2 ⟨rfl, h2⟩
    rw [HC0.out.2, Nat.zero_add] at h2
    have H2 := Lib.hid h2
    have c35 : w2.cell? ⟨g, 35, none⟩ = some (.int .i32 42) := by rw [← HC1.out.1]; exact h2.at_.cl.c35
    clear h2 HW
    go_wp2_with fail
    refine (H2.out.step hg hs (by decide) (by decide)).mono ?_
    rintro e w3 ⟨rfl, h3⟩
    rw [HC1.out.2] at h3
    have H3 : Hid (Wh g u0 x0 x1 s 0 0 0 0 w 2 w3) := Lib.hid h3
    have c36 : w3.cell? ⟨g, 36, none⟩ = some (.int .i32 0) := h3.at_.cl.c36
    have c37 : w3.cell? ⟨g, 37, none⟩ = some (.int .i32 2) := h3.at_.cl.c37
    clear h3 H2 c35
    go_wp2_with fail
    refine (com64 g u0 x0 x1 s n 0 0 0 _ H3.out.at_ HC.out H3.out.tb hg H3.out.hw hs).mono ?_
    rintro e wi ⟨rfl, u, r0, r1, ha4, hf4⟩
    obtain ⟨ts, hts0⟩ : ∃ t : Nat, t = 0 := ⟨_, rfl⟩
    have HA : Hid (At g u r0 r1 s q (ts : Int) 0 0 0 wi) := Lib.hid (by rw [hts0, HN.out]; exact ha4)
    have HF := Lib.hid (Fr.trans H3.out.fr hf4)
    have hts : ts ≤ q := by omega
    clear ha4 hf4 c36 c37 H3 HC HN HC0 HC1 hts0
    go_wp2_with fail
    rw [rounds_succ]
    refine wp_block ?_
    have ha := HA.out
    have hf := HF.out
    clear HA HF
    have hcl := ha.cl
    have c36 := hcl.c36
    have c37 := hcl.c37
    have fz := hcl.fz
    have HA := Lib.hid ha
    have HF := Lib.hid hf
    have i0 : (0 : Int) ≤ (ts : Int) := by omega
    have i1 : (ts : Int) ≤ 100000000 := by omega
    have i2 : (0 : Int) ≤ (q : Int) - (ts : Int) := by omega
    have i3 : (q : Int) - (ts : Int) ≤ 100000000 := by omega
    have i4 : (ts : Int) + ((q : Int) - (ts : Int)) = (q : Int) := by omega
    have HI4 := Lib.hid i4
    clear ha hf hcl i4 hts
    go_wp2_with fail
    refine (end44 (ts : Int) ((q : Int) - (ts : Int)) i0 i1 i2 i3 _).mono ?_
    rintro e w1 ⟨rfl, hb1⟩
    rw [HI4.out]
    have HA1 := Lib.hid (HA.out.below hb1)
    have HF1 := Lib.hid (HF.out.bel hb1)
    clear c36 c37 fz i0 i1 i2 i3 HA HF hb1 HI4
    have hcl := HA1.out.cl
    have c36 := hcl.c36
    have c37 := hcl.c37
    have c38 := hcl.c38
    have c39 := hcl.c39
    have c40 := hcl.c40
    have fz := hcl.fz
    clear hcl
    go_upto_region 1 with fail
    have hA2 := At.tok HA1.out
    have hF2 := ((((HF1.out.setc 36 (.int .i32 (q : Int))).setc 37 (.int .i32 0)).setc 38 (.int .u16 0)).setc 39 (.int .u8 0)).setc 40 (.int .u8 0)
    clear c36 c37 c38 c39 c40 fz HA1 HF1
    generalize World.setCell _ _ _ = W at hA2 hF2 ⊢
    have HW : Hid (Wh g u r0 r1 s q 0 0 0 w q W) := Lib.hid ⟨hA2, hF2, hq, tabs_fr HT.out hg hw hF2, Nat.le_trans hw hF2.size⟩
    have hcl := hA2.cl
    have c35 := hcl.c35
    have c39 := hcl.c39
    have c40 := hcl.c40
    have fz := hcl.fz
    clear hcl hA2 hF2 HT
    rw [HCP.out] at c35
    go_wp2_with fail
    clear c35 c39 c40 fz
    refine (HW.out.step hg hs tq0 tq1).mono ?_
    rintro e w2 ⟨rfl, h2⟩
    have H2 := Lib.hid h2
    have hcl := h2.at_.cl
    have c39 := hcl.c39
    have fz := hcl.fz
    clear h2 hcl HW
    clear c39 fz
    have hcl := H2.out.at_.cl
    have HLE := Lib.hid (cp_rng s q hq).2.2
    obtain ⟨p, hp⟩ : ∃ p, p = q + wdOf s q := ⟨_, rfl⟩
    rw [← hp] at H2 HLE
    have HQP : Hid (q ≤ p) := Lib.hid (by omega)
    have HPQ := Lib.hid hp
    clear hp hcl
    have hcl := H2.out.at_.cl
    have c35 := hcl.c35
    have c39 := hcl.c39
    have c40 := hcl.c40
    have fz := hcl.fz
    clear hcl
    cases hn : ncB (cpOf s p)
    · have HU := Lib.hid (show hsh s p = (p, 0, 11, 0) by unfold hsh; rw [hn]; rfl)
      have HNC := Lib.hid hn
      clear hn
      go_wp2_with (first | (go_at_call 67; refine (cont67 (cpOf s p) _).mono ?_; rintro e w9 ⟨rfl, rfl⟩; rw [HNC.out]) | (go_at_call 61; refine (esc61 g (cpOf s p) _ c35 (cp_nob HNB.out HQP.out)).mono ?_; rintro e w9 ⟨rfl, rfl⟩))
      go_end0
      rw [← HPQ.out, HU.out]
      exact ⟨rfl, u, r0, r1, At.kind H2.out.at_ 11, H2.out.fr.setc 39 _⟩
    · have HU := Lib.hid (show hsh s p = (ne s p, 0, 28, if wsi s p = true then 1 else 0) by unfold hsh; rw [if_pos hn])
      have HNC := Lib.hid hn
      clear hn
      go_wp2_with (first | (go_at_call 67; refine (cont67 (cpOf s p) _).mono ?_; rintro e w9 ⟨rfl, rfl⟩; rw [HNC.out]))
      have H3 := Lib.hid (H2.out.kind hg 28)
      clear c35 c39 c40 fz H2
      generalize World.setCell _ _ _ = W3 at H3 ⊢
      refine (ident68 g u r0 r1 s p q 0 28 0 _ H3.out.at_ HLE.out (NoB.mono HNB.out HQP.out) H3.out.tb H3.out.hw hs).mono ?_
      rintro e w5 ⟨rfl, hb5⟩
      have H5 := Lib.hid (H3.out.bel hb5)
      have hcl := H5.out.at_.cl
      have c40 := hcl.c40
      have fz := hcl.fz
      clear hcl hb5 H3
      cases hi : wsi s p
      · rw [hi, if_neg (by decide)] at HU
        clear hi
        go_wp2_with fail
        refine (name69 g u r0 r1 s q p 0 28 0 _ H5.out.at_ HLE.out HQP.out (NoB.mono HNB.out HQP.out) H5.out.tb hg H5.out.hw hs).mono ?_
        rintro e w6 ⟨rfl, ha6, hf6⟩
        have HA6 := Lib.hid ha6
        have HF6 := Lib.hid (Fr.trans H5.out.fr hf6)
        clear ha6 hf6
        go_wp2_with fail
        go_end0
        rw [← HPQ.out, HU.out]
        exact ⟨rfl, u, r0, r1, HA6.out, HF6.out⟩
      · rw [hi, if_pos rfl] at HU
        clear hi
        have bor : bits .or .u8 0 1 = 1 := by decide
        go_wp2_with fail
        have H6 := Lib.hid (H5.out.flag hg 1)
        clear c40 fz H5
        generalize World.setCell _ _ _ = W6 at H6 ⊢
        refine (name69 g u r0 r1 s q p 0 28 1 _ H6.out.at_ HLE.out HQP.out (NoB.mono HNB.out HQP.out) H6.out.tb hg H6.out.hw hs).mono ?_
        rintro e w6 ⟨rfl, ha6, hf6⟩
        have HA6 := Lib.hid ha6
        have HF6 := Lib.hid (Fr.trans H6.out.fr hf6)
        clear ha6 hf6
        go_wp2_with fail
        go_end0
        rw [← HPQ.out, HU.out]
        exact ⟨rfl, u, r0, r1, HA6.out, HF6.out⟩
set_option maxRecDepth 100000 in
set_option maxHeartbeats 8000000 in
theorem nx64 (g : Nat) (s : ByteArray) (q : Nat) (w wx : World) (hP : Pc g s q w wx) (hcp : cpOf s q = 64) :
    Calls Tryd.prog 51 #[.pointer (some ⟨g, 0, none⟩)] wx (Nxt g s q (atk s (q + wdOf s q)) w) := by
  obtain ⟨hbef, hq, hs, hT, hw, hg, hnb, hnu, hns⟩ := hP
  have HNB := Lib.hid hnb
  have HNU := Lib.hid hnu
  have HNS := Lib.hid hns
  have HT := Lib.hid hT
  have tq0 : (0 : Int) ≤ (q : Int) := by omega
  have tq1 : (q : Int) ≤ 2000000 := by omega
  have HCP := Lib.hid hcp
  clear hT hnb hnu hns hcp
  rcases hbef with ⟨hf, u, r0, r1, ts, un, kd, fl, hts, ha⟩ | ⟨hf, u0, x0, x1, n, un, kd, fl, ha, hc, hqn, h47, h42⟩
  · go_enter Tryd.func51, Tryd.ntmps51
    refine wp_block (wp_loop_rounds 1 ?_)
    rw [rounds_succ]
    refine wp_block ?_
    have hcl := ha.cl
    have c36 := hcl.c36
    have c37 := hcl.c37
    have fz := hcl.fz
    have HA := Lib.hid ha
    have HF := Lib.hid hf
    have i0 : (0 : Int) ≤ (ts : Int) := by omega
    have i1 : (ts : Int) ≤ 100000000 := by omega
    have i2 : (0 : Int) ≤ (q : Int) - (ts : Int) := by omega
    have i3 : (q : Int) - (ts : Int) ≤ 100000000 := by omega
    have i4 : (ts : Int) + ((q : Int) - (ts : Int)) = (q : Int) := by omega
    have HI4 := Lib.hid i4
    clear ha hf hcl i4 hts
    go_wp2_with fail
    refine (end44 (ts : Int) ((q : Int) - (ts : Int)) i0 i1 i2 i3 _).mono ?_
    rintro e w1 ⟨rfl, hb1⟩
    rw [HI4.out]
    have HA1 := Lib.hid (HA.out.below hb1)
    have HF1 := Lib.hid (HF.out.bel hb1)
    clear c36 c37 fz i0 i1 i2 i3 HA HF hb1 HI4
    have hcl := HA1.out.cl
    have c36 := hcl.c36
    have c37 := hcl.c37
    have c38 := hcl.c38
    have c39 := hcl.c39
    have c40 := hcl.c40
    have fz := hcl.fz
    clear hcl
    go_upto_region 1 with fail
    have hA2 := At.tok HA1.out
    have hF2 := ((((HF1.out.setc 36 (.int .i32 (q : Int))).setc 37 (.int .i32 0)).setc 38 (.int .u16 0)).setc 39 (.int .u8 0)).setc 40 (.int .u8 0)
    clear c36 c37 c38 c39 c40 fz HA1 HF1
    generalize World.setCell _ _ _ = W at hA2 hF2 ⊢
    have HW : Hid (Wh g u r0 r1 s q 0 0 0 w q W) := Lib.hid ⟨hA2, hF2, hq, tabs_fr HT.out hg hw hF2, Nat.le_trans hw hF2.size⟩
    have hcl := hA2.cl
    have c35 := hcl.c35
    have c39 := hcl.c39
    have c40 := hcl.c40
    have fz := hcl.fz
    clear hcl hA2 hF2 HT
    rw [HCP.out] at c35
    go_wp2_with fail
    clear c35 c39 c40 fz
    refine (HW.out.step hg hs tq0 tq1).mono ?_
    rintro e w2 ⟨rfl, h2⟩
    have H2 := Lib.hid h2
    have hcl := h2.at_.cl
    have c39 := hcl.c39
    have fz := hcl.fz
    clear h2 hcl HW
    clear c39 fz
    have HLE := Lib.hid (cp_rng s q hq).2.2
    obtain ⟨p, hp⟩ : ∃ p, p = q + wdOf s q := ⟨_, rfl⟩
    rw [← hp] at H2 HLE
    have HQP : Hid (q ≤ p) := Lib.hid (by omega)
    have HPQ := Lib.hid hp
    clear hp
    go_wp2_with fail
    refine (ident68 g u r0 r1 s p q 0 0 0 _ H2.out.at_ HLE.out (NoB.mono HNB.out HQP.out) H2.out.tb H2.out.hw hs).mono ?_
    rintro e w5 ⟨rfl, hb5⟩
    have H5 := Lib.hid (H2.out.bel hb5)
    have hcl := H5.out.at_.cl
    have c39 := hcl.c39
    have fz := hcl.fz
    clear hcl hb5 H2
    cases hi : wsi s p
    · have HU := Lib.hid (show atk s p = (p, 0, 11, 0) by unfold atk; rw [hi]; rfl)
      clear hi
      go_wp2_with fail
      go_end0
      rw [← HPQ.out, HU.out]
      exact ⟨rfl, u, r0, r1, At.kind H5.out.at_ 11, H5.out.fr.setc 39 _⟩
    · have HU := Lib.hid (show atk s p = (ne s p, 0, 1, 0) by unfold atk; rw [if_pos hi])
      clear hi c39 fz
      go_wp2_with fail
      refine (name69 g u r0 r1 s q p 0 0 0 _ H5.out.at_ HLE.out HQP.out (NoB.mono HNB.out HQP.out) H5.out.tb hg H5.out.hw hs).mono ?_
      rintro e w6 ⟨rfl, ha6, hf6⟩
      have HA6 := Lib.hid ha6
      have HF6 := Lib.hid (Fr.trans H5.out.fr hf6)
      have hcl := ha6.cl
      have c39 := hcl.c39
      have fz := hcl.fz
      clear ha6 hf6 hcl
      go_wp2_with fail
      go_end0
      rw [← HPQ.out, HU.out]
      exact ⟨rfl, u, r0, r1, At.kind HA6.out 1, HF6.out.setc 39 _⟩
  · go_enter Tryd.func51, Tryd.ntmps51
    refine wp_block (wp_loop_rounds 2 ?_)
    rw [rounds_succ]
    refine wp_block ?_
    have hcl := ha.cl
    have c36 : wx.cell? ⟨g, 36, none⟩ = some (.int .i32 0) := hcl.c36
    have c37 : wx.cell? ⟨g, 37, none⟩ = some (.int .i32 0) := hcl.c37
    have fz := hcl.fz
    have HA := Lib.hid ha
    have HF := Lib.hid hf
    have HC := Lib.hid hc
    have HN := Lib.hid hqn
    have HC0 := Lib.hid (cp_of (s := s) (k := 0) (by have := hc.sz; omega) (by rw [h47]; decide))
    have HC1 := Lib.hid (cp_of (s := s) (k := 1) (by have := hc.sz; omega) (by rw [h42]; decide))
    rw [h47] at HC0
    rw [h42] at HC1
    clear hcl ha hf hc hqn h47 h42
    go_wp2_with fail
    refine (end44 0 0 (by omega) (by omega) (by omega) (by omega) _).mono ?_
    rintro e w1 ⟨rfl, hb1⟩
    rw [Int.add_zero]
    have HA1 := Lib.hid (HA.out.below hb1)
    have HF1 := Lib.hid (HF.out.bel hb1)
    clear c36 c37 fz HA HF hb1
    have hcl := HA1.out.cl
    have c36 := hcl.c36
    have c37 := hcl.c37
    have c38 := hcl.c38
    have c39 := hcl.c39
    have c40 := hcl.c40
    have fz := hcl.fz
    clear hcl
    go_upto_region 1 with fail
    have hA2 := Za.At.tok0 HA1.out
    have hF2 := ((((HF1.out.setc 36 (.int .i32 0)).setc 37 (.int .i32 0)).setc 38 (.int .u16 0)).setc 39 (.int .u8 0)).setc 40 (.int .u8 0)
    clear c36 c37 c38 c39 c40 fz HA1 HF1
    generalize World.setCell _ _ _ = W at hA2 hF2 ⊢
    have HW : Hid (Wh g u0 x0 x1 s 0 0 0 0 w 0 W) := Lib.hid ⟨hA2, hF2, Nat.zero_le _, tabs_fr HT.out hg hw hF2, Nat.le_trans hw hF2.size⟩
    have c35 : W.cell? ⟨g, 35, none⟩ = some (.int .i32 47) := by rw [← HC0.out.1]; exact hA2.cl.c35
    clear hA2 hF2
    go_wp2_with fail
    refine (HW.out.step hg hs (by decide) (by decide)).mono ?_
    rintro e w2 ⟨rfl, h2⟩
    rw [HC0.out.2, Nat.zero_add] at h2
    have H2 := Lib.hid h2
    have c35 : w2.cell? ⟨g, 35, none⟩ = some (.int .i32 42) := by rw [← HC1.out.1]; exact h2.at_.cl.c35
    clear h2 HW
    go_wp2_with fail
    refine (H2.out.step hg hs (by decide) (by decide)).mono ?_
    rintro e w3 ⟨rfl, h3⟩
    rw [HC1.out.2] at h3
    have H3 : Hid (Wh g u0 x0 x1 s 0 0 0 0 w 2 w3) := Lib.hid h3
    have c36 : w3.cell? ⟨g, 36, none⟩ = some (.int .i32 0) := h3.at_.cl.c36
    have c37 : w3.cell? ⟨g, 37, none⟩ = some (.int .i32 2) := h3.at_.cl.c37
    clear h3 H2 c35
    go_wp2_with fail
    refine (com64 g u0 x0 x1 s n 0 0 0 _ H3.out.at_ HC.out H3.out.tb hg H3.out.hw hs).mono ?_
    rintro e wi ⟨rfl, u, r0, r1, ha4, hf4⟩
    obtain ⟨ts, hts0⟩ : ∃ t : Nat, t = 0 := ⟨_, rfl⟩
    have HA : Hid (At g u r0 r1 s q (ts : Int) 0 0 0 wi) := Lib.hid (by rw [hts0, HN.out]; exact ha4)
    have HF := Lib.hid (Fr.trans H3.out.fr hf4)
    have hts : ts ≤ q := by omega
    clear ha4 hf4 c36 c37 H3 HC HN HC0 HC1 hts0
    go_wp2_with fail
    rw [rounds_succ]
    refine wp_block ?_
    have ha := HA.out
    have hf := HF.out
    clear HA HF
    have hcl := ha.cl
    have c36 := hcl.c36
    have c37 := hcl.c37
    have fz := hcl.fz
    have HA := Lib.hid ha
    have HF := Lib.hid hf
    have i0 : (0 : Int) ≤ (ts : Int) := by omega
    have i1 : (ts : Int) ≤ 100000000 := by omega
    have i2 : (0 : Int) ≤ (q : Int) - (ts : Int) := by omega
    have i3 : (q : Int) - (ts : Int) ≤ 100000000 := by omega
    have i4 : (ts : Int) + ((q : Int) - (ts : Int)) = (q : Int) := by omega
    have HI4 := Lib.hid i4
    clear ha hf hcl i4 hts
    go_wp2_with fail
    refine (end44 (ts : Int) ((q : Int) - (ts : Int)) i0 i1 i2 i3 _).mono ?_
    rintro e w1 ⟨rfl, hb1⟩
    rw [HI4.out]
    have HA1 := Lib.hid (HA.out.below hb1)
    have HF1 := Lib.hid (HF.out.bel hb1)
    clear c36 c37 fz i0 i1 i2 i3 HA HF hb1 HI4
    have hcl := HA1.out.cl
    have c36 := hcl.c36
    have c37 := hcl.c37
    have c38 := hcl.c38
    have c39 := hcl.c39
    have c40 := hcl.c40
    have fz := hcl.fz
    clear hcl
    go_upto_region 1 with fail
    have hA2 := At.tok HA1.out
    have hF2 := ((((HF1.out.setc 36 (.int .i32 (q : Int))).setc 37 (.int .i32 0)).setc 38 (.int .u16 0)).setc 39 (.int .u8 0)).setc 40 (.int .u8 0)
    clear c36 c37 c38 c39 c40 fz HA1 HF1
    generalize World.setCell _ _ _ = W at hA2 hF2 ⊢
    have HW : Hid (Wh g u r0 r1 s q 0 0 0 w q W) := Lib.hid ⟨hA2, hF2, hq, tabs_fr HT.out hg hw hF2, Nat.le_trans hw hF2.size⟩
    have hcl := hA2.cl
    have c35 := hcl.c35
    have c39 := hcl.c39
    have c40 := hcl.c40
    have fz := hcl.fz
    clear hcl hA2 hF2 HT
    rw [HCP.out] at c35
    go_wp2_with fail
    clear c35 c39 c40 fz
    refine (HW.out.step hg hs tq0 tq1).mono ?_
    rintro e w2 ⟨rfl, h2⟩
    have H2 := Lib.hid h2
    have hcl := h2.at_.cl
    have c39 := hcl.c39
    have fz := hcl.fz
    clear h2 hcl HW
    clear c39 fz
    have HLE := Lib.hid (cp_rng s q hq).2.2
    obtain ⟨p, hp⟩ : ∃ p, p = q + wdOf s q := ⟨_, rfl⟩
    rw [← hp] at H2 HLE
    have HQP : Hid (q ≤ p) := Lib.hid (by omega)
    have HPQ := Lib.hid hp
    clear hp
    go_wp2_with fail
    refine (ident68 g u r0 r1 s p q 0 0 0 _ H2.out.at_ HLE.out (NoB.mono HNB.out HQP.out) H2.out.tb H2.out.hw hs).mono ?_
    rintro e w5 ⟨rfl, hb5⟩
    have H5 := Lib.hid (H2.out.bel hb5)
    have hcl := H5.out.at_.cl
    have c39 := hcl.c39
    have fz := hcl.fz
    clear hcl hb5 H2
    cases hi : wsi s p
    · have HU := Lib.hid (show atk s p = (p, 0, 11, 0) by unfold atk; rw [hi]; rfl)
      clear hi
      go_wp2_with fail
      go_end0
      rw [← HPQ.out, HU.out]
      exact ⟨rfl, u, r0, r1, At.kind H5.out.at_ 11, H5.out.fr.setc 39 _⟩
    · have HU := Lib.hid (show atk s p = (ne s p, 0, 1, 0) by unfold atk; rw [if_pos hi])
      clear hi c39 fz
      go_wp2_with fail
      refine (name69 g u r0 r1 s q p 0 0 0 _ H5.out.at_ HLE.out HQP.out (NoB.mono HNB.out HQP.out) H5.out.tb hg H5.out.hw hs).mono ?_
      rintro e w6 ⟨rfl, ha6, hf6⟩
      have HA6 := Lib.hid ha6
      have HF6 := Lib.hid (Fr.trans H5.out.fr hf6)
      have hcl := ha6.cl
      have c39 := hcl.c39
      have fz := hcl.fz
      clear ha6 hf6 hcl
      go_wp2_with fail
      go_end0
      rw [← HPQ.out, HU.out]
      exact ⟨rfl, u, r0, r1, At.kind HA6.out 1, HF6.out.setc 39 _⟩
end Go.Proofs.YtcljenkgbbbfpaaDoor.Zo
