/-
  Proved: next at single characters of the second and third group, with or without a comment ahead. Conditions: those that each theorem names as its
  hypotheses, and no others.
-/
import Derived.Test.YtcljenkgbbbfpaaDoorZl
import Derived.Deep.DeepCutAuto
import Derived.BigQuiet
namespace Go.Proofs.YtcljenkgbbbfpaaDoor.Zm
open Go.RowKit Go.PlainAid Str Mem De Lu Dw Cu Rws Za Zb Zc Zd Ze Zf Zg Zh Zk Zl
set_option linter.unusedVariables false
set_option linter.unusedSimpArgs false
set_option maxRecDepth 100000 in
set_option maxHeartbeats 8000000 in
theorem nxS2 (g : Nat) (s : ByteArray) (q : Nat) (w wx : World) (hP : Pc g s q w wx) (hcp : cpOf s q = 40 ∨ cpOf s q = 91 ∨ cpOf s q = 123 ∨ cpOf s q = 62 ∨ cpOf s q = 126 ∨ cpOf s q = 38) :
    Calls Tryd.prog 51 #[.pointer (some ⟨g, 0, none⟩)] wx (Nxt g s q (q + wdOf s q, 0, sk (cpOf s q), 0) w) := by
  obtain ⟨hbef, hq, hs, hT, hw, hg, hnb, hnu, hns⟩ := hP
  have HNB := Lib.hid hnb
  have HNU := Lib.hid hnu
  have HNS := Lib.hid hns
  have HT := Lib.hid hT
  have tq0 : (0 : Int) ≤ (q : Int) := by omega
  have tq1 : (q : Int) ≤ 2000000 := by omega
  have HCP := Lib.hid hcp
  clear hT hnb hnu hns hcp
  rcases hbef with ⟨hf, u, r0, r1, ts, un, kd, fl, hts, ha⟩ | ⟨hf, u0, x0, x1, n, un, kd, fl, ha, hc, hqn, h47, h42⟩
  · go_enter Tryd.func51, Tryd.ntmps51
    refine wp_block (wp_loop_rounds 1 ?_)
    rw [rounds_succ]
    refine wp_block ?_
    have hcl := ha.cl
    have c36 := hcl.c36
    have c37 := hcl.c37
    have fz := hcl.fz
    have HA := Lib.hid ha
    have HF := Lib.hid hf
    have i0 : (0 : Int) ≤ (ts : Int) := by omega
    have i1 : (ts : Int) ≤ 100000000 := by omega
    have i2 : (0 : Int) ≤ (q : Int) - (ts : Int) := by omega
    have i3 : (q : Int) - (ts : Int) ≤ 100000000 := by omega
    have i4 : (ts : Int) + ((q : Int) - (ts : Int)) = (q : Int) := by omega
    have HI4 := Lib.hid i4
    clear ha hf hcl i4 hts
    go_wp2_with fail
    refine (end44 (ts : Int) ((q : Int) - (ts : Int)) i0 i1 i2 i3 _).mono ?_
    rintro e w1 ⟨rfl, hb1⟩
    rw [HI4.out]
    have HA1 := Lib.hid (HA.out.below hb1)
    have HF1 := Lib.hid (HF.out.bel hb1)
    clear c36 c37 fz i0 i1 i2 i3 HA HF hb1 HI4
    have hcl := HA1.out.cl
    have c36 := hcl.c36
    have c37 := hcl.c37
    have c38 := hcl.c38
    have c39 := hcl.c39
    have c40 := hcl.c40
    have fz := hcl.fz
    clear hcl
    go_upto_region 1 with fail
    have hA2 := At.tok HA1.out
    have hF2 := ((((HF1.out.setc 36 (.int .i32 (q : Int))).setc 37 (.int .i32 0)).setc 38 (.int .u16 0)).setc 39 (.int .u8 0)).setc 40 (.int .u8 0)
    clear c36 c37 c38 c39 c40 fz HA1 HF1
    generalize World.setCell _ _ _ = W at hA2 hF2 ⊢
    have HW : Hid (Wh g u r0 r1 s q 0 0 0 w q W) := Lib.hid ⟨hA2, hF2, hq, tabs_fr HT.out hg hw hF2, Nat.le_trans hw hF2.size⟩
    have hcl := hA2.cl
    have c35 := hcl.c35
    have c39 := hcl.c39
    have c40 := hcl.c40
    have fz := hcl.fz
    clear hcl hA2 hF2 HT
    rcases HCP.out with e | e | e | e | e | e
    · clear HCP
      rw [e] at c35
      have HK := Lib.hid (show sk (cpOf s q) = 33 by rw [e]; decide)
      clear e
      go_wp2_with fail
      clear c35 c39 c40 fz
      refine (HW.out.step hg hs tq0 tq1).mono ?_
      rintro e w2 ⟨rfl, h2⟩
      have H2 := Lib.hid h2
      have hcl := h2.at_.cl
      have c39 := hcl.c39
      have fz := hcl.fz
      clear h2 hcl HW
      go_wp2_with fail
      go_end0
      rw [HK.out]
      exact ⟨rfl, u, r0, r1, At.kind H2.out.at_ 33, H2.out.fr.setc 39 _⟩
    · clear HCP
      rw [e] at c35
      have HK := Lib.hid (show sk (cpOf s q) = 32 by rw [e]; decide)
      clear e
      go_wp2_with fail
      clear c35 c39 c40 fz
      refine (HW.out.step hg hs tq0 tq1).mono ?_
      rintro e w2 ⟨rfl, h2⟩
      have H2 := Lib.hid h2
      have hcl := h2.at_.cl
      have c39 := hcl.c39
      have fz := hcl.fz
      clear h2 hcl HW
      go_wp2_with fail
      go_end0
      rw [HK.out]
      exact ⟨rfl, u, r0, r1, At.kind H2.out.at_ 32, H2.out.fr.setc 39 _⟩
    · clear HCP
      rw [e] at c35
      have HK := Lib.hid (show sk (cpOf s q) = 31 by rw [e]; decide)
      clear e
      go_wp2_with fail
      clear c35 c39 c40 fz
      refine (HW.out.step hg hs tq0 tq1).mono ?_
      rintro e w2 ⟨rfl, h2⟩
      have H2 := Lib.hid h2
      have hcl := h2.at_.cl
      have c39 := hcl.c39
      have fz := hcl.fz
      clear h2 hcl HW
      go_wp2_with fail
      go_end0
      rw [HK.out]
      exact ⟨rfl, u, r0, r1, At.kind H2.out.at_ 31, H2.out.fr.setc 39 _⟩
    · clear HCP
      rw [e] at c35
      have HK := Lib.hid (show sk (cpOf s q) = 20 by rw [e]; decide)
      clear e
      go_wp2_with fail
      clear c35 c39 c40 fz
      refine (HW.out.step hg hs tq0 tq1).mono ?_
      rintro e w2 ⟨rfl, h2⟩
      have H2 := Lib.hid h2
      have hcl := h2.at_.cl
      have c39 := hcl.c39
      have fz := hcl.fz
      clear h2 hcl HW
      go_wp2_with fail
      go_end0
      rw [HK.out]
      exact ⟨rfl, u, r0, r1, At.kind H2.out.at_ 20, H2.out.fr.setc 39 _⟩
    · clear HCP
      rw [e] at c35
      have HK := Lib.hid (show sk (cpOf s q) = 25 by rw [e]; decide)
      clear e
      go_wp2_with fail
      clear c35 c39 c40 fz
      refine (HW.out.step hg hs tq0 tq1).mono ?_
      rintro e w2 ⟨rfl, h2⟩
      have H2 := Lib.hid h2
      have hcl := h2.at_.cl
      have c39 := hcl.c39
      have fz := hcl.fz
      clear h2 hcl HW
      go_wp2_with fail
      go_end0
      rw [HK.out]
      exact ⟨rfl, u, r0, r1, At.kind H2.out.at_ 25, H2.out.fr.setc 39 _⟩
    · clear HCP
      rw [e] at c35
      have HK := Lib.hid (show sk (cpOf s q) = 12 by rw [e]; decide)
      clear e
      go_wp2_with fail
      clear c35 c39 c40 fz
      refine (HW.out.step hg hs tq0 tq1).mono ?_
      rintro e w2 ⟨rfl, h2⟩
      have H2 := Lib.hid h2
      have hcl := h2.at_.cl
      have c39 := hcl.c39
      have fz := hcl.fz
      clear h2 hcl HW
      go_wp2_with fail
      go_end0
      rw [HK.out]
      exact ⟨rfl, u, r0, r1, At.kind H2.out.at_ 12, H2.out.fr.setc 39 _⟩
  · go_enter Tryd.func51, Tryd.ntmps51
    refine wp_block (wp_loop_rounds 2 ?_)
    rw [rounds_succ]
    refine wp_block ?_
    have hcl := ha.cl
    have c36 : wx.cell? ⟨g, 36, none⟩ = some (.int .i32 0) := hcl.c36
    have c37 : wx.cell? ⟨g, 37, none⟩ = some (.int .i32 0) := hcl.c37
    have fz := hcl.fz
    have HA := Lib.hid ha
    have HF := Lib.hid hf
    have HC := Lib.hid hc
    have HN := Lib.hid hqn
    have HC0 := Lib.hid (cp_of (s := s) (k := 0) (by have := hc.sz; omega) (by rw [h47]; decide))
    have HC1 := Lib.hid (cp_of (s := s) (k := 1) (by have := hc.sz; omega) (by rw [h42]; decide))
    rw [h47] at HC0
    rw [h42] at HC1
    clear hcl ha hf hc hqn h47 h42
    go_wp2_with fail
    refine (end44 0 0 (by omega) (by omega) (by omega) (by omega) _).mono ?_
    rintro e w1 ⟨rfl, hb1⟩
    rw [Int.add_zero]
    have HA1 := Lib.hid (HA.out.below hb1)
    have HF1 := Lib.hid (HF.out.bel hb1)
    clear c36 c37 fz HA HF hb1
    have hcl := HA1.out.cl
    have c36 := hcl.c36
    have c37 := hcl.c37
    have c38 := hcl.c38
    have c39 := hcl.c39
    have c40 := hcl.c40
    have fz := hcl.fz
    clear hcl
    go_upto_region 1 with fail
    have hA2 := Za.At.tok0 HA1.out
    have hF2 := ((((HF1.out.setc 36 (.int .i32 0)).setc 37 (.int .i32 0)).setc 38 (.int .u16 0)).setc 39 (.int .u8 0)).setc 40 (.int .u8 0)
    clear c36 c37 c38 c39 c40 fz HA1 HF1
    generalize World.setCell _ _ _ = W at hA2 hF2 ⊢
    have HW : Hid (Wh g u0 x0 x1 s 0 0 0 0 w 0 W) := Lib.hid ⟨hA2, hF2, Nat.zero_le _, tabs_fr HT.out hg hw hF2, Nat.le_trans hw hF2.size⟩
    have c35 : W.cell? ⟨g, 35, none⟩ = some (.int .i32 47) := by rw [← HC0.out.1]; exact hA2.cl.c35
    clear hA2 hF2
    go_wp2_with fail
    refine (HW.out.step hg hs (by decide) (by decide)).mono ?_
    rintro e w2 ⟨rfl, h2⟩
    rw [HC0.out.2, Nat.zero_add] at h2
    have H2 := Lib.hid h2
    have c35 : w2.cell? ⟨g, 35, none⟩ = some (.int .i32 42) := by rw [← HC1.out.1]; exact h2.at_.cl.c35
    clear h2 HW
    go_wp2_with fail
    refine (H2.out.step hg hs (by decide) (by decide)).mono ?_
    rintro e w3 ⟨rfl, h3⟩
    rw [HC1.out.2] at h3
    have H3 : Hid (Wh g u0 x0 x1 s 0 0 0 0 w 2 w3) := Lib.hid h3
    have c36 : w3.cell? ⟨g, 36, none⟩ = some (.int .i32 0) := h3.at_.cl.c36
    have c37 : w3.cell? ⟨g, 37, none⟩ = some (.int .i32 2) := h3.at_.cl.c37
    clear h3 H2 c35
    go_wp2_with fail
    refine (com64 g u0 x0 x1 s n 0 0 0 _ H3.out.at_ HC.out H3.out.tb hg H3.out.hw hs).mono ?_
    rintro e wi ⟨rfl, u, r0, r1, ha4, hf4⟩
    obtain ⟨ts, hts0⟩ : ∃ t : Nat, t = 0 := ⟨_, rfl⟩
    have HA : Hid (At g u r0 r1 s q (ts : Int) 0 0 0 wi) := Lib.hid (by rw [hts0, HN.out]; exact ha4)
    have HF := Lib.hid (Fr.trans H3.out.fr hf4)
    have hts : ts ≤ q := by omega
    clear ha4 hf4 c36 c37 H3 HC HN HC0 HC1 hts0
    go_wp2_with fail
    rw [rounds_succ]
    refine wp_block ?_
    have ha := HA.out
    have hf := HF.out
    clear HA HF
    have hcl := ha.cl
    have c36 := hcl.c36
    have c37 := hcl.c37
    have fz := hcl.fz
    have HA := Lib.hid ha
    have HF := Lib.hid hf
    have i0 : (0 : Int) ≤ (ts : Int) := by omega
    have i1 : (ts : Int) ≤ 100000000 := by omega
    have i2 : (0 : Int) ≤ (q : Int) - (ts : Int) := by omega
    have i3 : (q : Int) - (ts : Int) ≤ 100000000 := by omega
    have i4 : (ts : Int) + ((q : Int) - (ts : Int)) = (q : Int) := by omega
    have HI4 := Lib.hid i4
    clear ha hf hcl i4 hts
    go_wp2_with fail
    refine (end44 (ts : Int) ((q : Int) - (ts : Int)) i0 i1 i2 i3 _).mono ?_
    rintro e w1 ⟨rfl, hb1⟩
    rw [HI4.out]
    have HA1 := Lib.hid (HA.out.below hb1)
    have HF1 := Lib.hid (HF.out.bel hb1)
    clear c36 c37 fz i0 i1 i2 i3 HA HF hb1 HI4
    have hcl := HA1.out.cl
    have c36 := hcl.c36
    have c37 := hcl.c37
    have c38 := hcl.c38
    have c39 := hcl.c39
    have c40 := hcl.c40
    have fz := hcl.fz
    clear hcl
    go_upto_region 1 with fail
    have hA2 := At.tok HA1.out
    have hF2 := ((((HF1.out.setc 36 (.int .i32 (q : Int))).setc 37 (.int .i32 0)).setc 38 (.int .u16 0)).setc 39 (.int .u8 0)).setc 40 (.int .u8 0)
    clear c36 c37 c38 c39 c40 fz HA1 HF1
    generalize World.setCell _ _ _ = W at hA2 hF2 ⊢
    have HW : Hid (Wh g u r0 r1 s q 0 0 0 w q W) := Lib.hid ⟨hA2, hF2, hq, tabs_fr HT.out hg hw hF2, Nat.le_trans hw hF2.size⟩
    have hcl := hA2.cl
    have c35 := hcl.c35
    have c39 := hcl.c39
    have c40 := hcl.c40
    have fz := hcl.fz
    clear hcl hA2 hF2 HT
    rcases HCP.out with e | e | e | e | e | e
    · clear HCP
      rw [e] at c35
      have HK := Lib.hid (show sk (cpOf s q) = 33 by rw [e]; decide)
      clear e
      go_wp2_with fail
      clear c35 c39 c40 fz
      refine (HW.out.step hg hs tq0 tq1).mono ?_
      rintro e w2 ⟨rfl, h2⟩
      have H2 := Lib.hid h2
      have hcl := h2.at_.cl
      have c39 := hcl.c39
      have fz := hcl.fz
      clear h2 hcl HW
      go_wp2_with fail
      go_end0
      rw [HK.out]
      exact ⟨rfl, u, r0, r1, At.kind H2.out.at_ 33, H2.out.fr.setc 39 _⟩
    · clear HCP
      rw [e] at c35
      have HK := Lib.hid (show sk (cpOf s q) = 32 by rw [e]; decide)
      clear e
      go_wp2_with fail
      clear c35 c39 c40 fz
      refine (HW.out.step hg hs tq0 tq1).mono ?_
      rintro e w2 ⟨rfl, h2⟩
      have H2 := Lib.hid h2
      have hcl := h2.at_.cl
      have c39 := hcl.c39
      have fz := hcl.fz
      clear h2 hcl HW
      go_wp2_with fail
      go_end0
      rw [HK.out]
      exact ⟨rfl, u, r0, r1, At.kind H2.out.at_ 32, H2.out.fr.setc 39 _⟩
    · clear HCP
      rw [e] at c35
      have HK := Lib.hid (show sk (cpOf s q) = 31 by rw [e]; decide)
      clear e
      go_wp2_with fail
      clear c35 c39 c40 fz
      refine (HW.out.step hg hs tq0 tq1).mono ?_
      rintro e w2 ⟨rfl, h2⟩
      have H2 := Lib.hid h2
      have hcl := h2.at_.cl
      have c39 := hcl.c39
      have fz := hcl.fz
      clear h2 hcl HW
      go_wp2_with fail
      go_end0
      rw [HK.out]
      exact ⟨rfl, u, r0, r1, At.kind H2.out.at_ 31, H2.out.fr.setc 39 _⟩
    · clear HCP
      rw [e] at c35
      have HK := Lib.hid (show sk (cpOf s q) = 20 by rw [e]; decide)
      clear e
      go_wp2_with fail
      clear c35 c39 c40 fz
      refine (HW.out.step hg hs tq0 tq1).mono ?_
      rintro e w2 ⟨rfl, h2⟩
      have H2 := Lib.hid h2
      have hcl := h2.at_.cl
      have c39 := hcl.c39
      have fz := hcl.fz
      clear h2 hcl HW
      go_wp2_with fail
      go_end0
      rw [HK.out]
      exact ⟨rfl, u, r0, r1, At.kind H2.out.at_ 20, H2.out.fr.setc 39 _⟩
    · clear HCP
      rw [e] at c35
      have HK := Lib.hid (show sk (cpOf s q) = 25 by rw [e]; decide)
      clear e
      go_wp2_with fail
      clear c35 c39 c40 fz
      refine (HW.out.step hg hs tq0 tq1).mono ?_
      rintro e w2 ⟨rfl, h2⟩
      have H2 := Lib.hid h2
      have hcl := h2.at_.cl
      have c39 := hcl.c39
      have fz := hcl.fz
      clear h2 hcl HW
      go_wp2_with fail
      go_end0
      rw [HK.out]
      exact ⟨rfl, u, r0, r1, At.kind H2.out.at_ 25, H2.out.fr.setc 39 _⟩
    · clear HCP
      rw [e] at c35
      have HK := Lib.hid (show sk (cpOf s q) = 12 by rw [e]; decide)
      clear e
      go_wp2_with fail
      clear c35 c39 c40 fz
      refine (HW.out.step hg hs tq0 tq1).mono ?_
      rintro e w2 ⟨rfl, h2⟩
      have H2 := Lib.hid h2
      have hcl := h2.at_.cl
      have c39 := hcl.c39
      have fz := hcl.fz
      clear h2 hcl HW
      go_wp2_with fail
      go_end0
      rw [HK.out]
      exact ⟨rfl, u, r0, r1, At.kind H2.out.at_ 12, H2.out.fr.setc 39 _⟩
set_option maxRecDepth 100000 in
set_option maxHeartbeats 8000000 in
theorem nxS3 (g : Nat) (s : ByteArray) (q : Nat) (w wx : World) (hP : Pc g s q w wx) (hcp : cpOf s q = 42 ∨ cpOf s q = 124 ∨ cpOf s q = 33 ∨ cpOf s q = 61 ∨ cpOf s q = 94 ∨ cpOf s q = 36) :
    Calls Tryd.prog 51 #[.pointer (some ⟨g, 0, none⟩)] wx (Nxt g s q (q + wdOf s q, 0, sk (cpOf s q), 0) w) := by
  obtain ⟨hbef, hq, hs, hT, hw, hg, hnb, hnu, hns⟩ := hP
  have HNB := Lib.hid hnb
  have HNU := Lib.hid hnu
  have HNS := Lib.hid hns
  have HT := Lib.hid hT
  have tq0 : (0 : Int) ≤ (q : Int) := by omega
  have tq1 : (q : Int) ≤ 2000000 := by omega
  have HCP := Lib.hid hcp
  clear hT hnb hnu hns hcp
  rcases hbef with ⟨hf, u, r0, r1, ts, un, kd, fl, hts, ha⟩ | ⟨hf, u0, x0, x1, n, un, kd, fl, ha, hc, hqn, h47, h42⟩
  · go_enter Tryd.func51, Tryd.ntmps51
    refine wp_block (wp_loop_rounds 1 ?_)
    rw [rounds_succ]
    refine wp_block ?_
    have hcl := ha.cl
    have c36 := hcl.c36
    have c37 := hcl.c37
    have fz := hcl.fz
    have HA := Lib.hid ha
    have HF := Lib.hid hf
    have i0 : (0 : Int) ≤ (ts : Int) := by omega
    have i1 : (ts : Int) ≤ 100000000 := by omega
    have i2 : (0 : Int) ≤ (q : Int) - (ts : Int) := by omega
    have i3 : (q : Int) - (ts : Int) ≤ 100000000 := by omega
    have i4 : (ts : Int) + ((q : Int) - (ts : Int)) = (q : Int) := by omega
    have HI4 := Lib.hid i4
    clear ha hf hcl i4 hts
    go_wp2_with fail
    refine (end44 (ts : Int) ((q : Int) - (ts : Int)) i0 i1 i2 i3 _).mono ?_
    rintro e w1 ⟨rfl, hb1⟩
    rw [HI4.out]
    have HA1 := Lib.hid (HA.out.below hb1)
    have HF1 := Lib.hid (HF.out.bel hb1)
    clear c36 c37 fz i0 i1 i2 i3 HA HF hb1 HI4
    have hcl := HA1.out.cl
    have c36 := hcl.c36
    have c37 := hcl.c37
    have c38 := hcl.c38
    have c39 := hcl.c39
    have c40 := hcl.c40
    have fz := hcl.fz
    clear hcl
    go_upto_region 1 with fail
    have hA2 := At.tok HA1.out
    have hF2 := ((((HF1.out.setc 36 (.int .i32 (q : Int))).setc 37 (.int .i32 0)).setc 38 (.int .u16 0)).setc 39 (.int .u8 0)).setc 40 (.int .u8 0)
    clear c36 c37 c38 c39 c40 fz HA1 HF1
    generalize World.setCell _ _ _ = W at hA2 hF2 ⊢
    have HW : Hid (Wh g u r0 r1 s q 0 0 0 w q W) := Lib.hid ⟨hA2, hF2, hq, tabs_fr HT.out hg hw hF2, Nat.le_trans hw hF2.size⟩
    have hcl := hA2.cl
    have c35 := hcl.c35
    have c39 := hcl.c39
    have c40 := hcl.c40
    have fz := hcl.fz
    clear hcl hA2 hF2 HT
    rcases HCP.out with e | e | e | e | e | e
    · clear HCP
      rw [e] at c35
      have HK := Lib.hid (show sk (cpOf s q) = 13 by rw [e]; decide)
      clear e
      go_wp2_with fail
      clear c35 c39 c40 fz
      refine (HW.out.step hg hs tq0 tq1).mono ?_
      rintro e w2 ⟨rfl, h2⟩
      have H2 := Lib.hid h2
      have hcl := h2.at_.cl
      have c39 := hcl.c39
      have fz := hcl.fz
      clear h2 hcl HW
      go_wp2_with fail
      go_end0
      rw [HK.out]
      exact ⟨rfl, u, r0, r1, At.kind H2.out.at_ 13, H2.out.fr.setc 39 _⟩
    · clear HCP
      rw [e] at c35
      have HK := Lib.hid (show sk (cpOf s q) = 14 by rw [e]; decide)
      clear e
      go_wp2_with fail
      clear c35 c39 c40 fz
      refine (HW.out.step hg hs tq0 tq1).mono ?_
      rintro e w2 ⟨rfl, h2⟩
      have H2 := Lib.hid h2
      have hcl := h2.at_.cl
      have c39 := hcl.c39
      have fz := hcl.fz
      clear h2 hcl HW
      go_wp2_with fail
      go_end0
      rw [HK.out]
      exact ⟨rfl, u, r0, r1, At.kind H2.out.at_ 14, H2.out.fr.setc 39 _⟩
    · clear HCP
      rw [e] at c35
      have HK := Lib.hid (show sk (cpOf s q) = 19 by rw [e]; decide)
      clear e
      go_wp2_with fail
      clear c35 c39 c40 fz
      refine (HW.out.step hg hs tq0 tq1).mono ?_
      rintro e w2 ⟨rfl, h2⟩
      have H2 := Lib.hid h2
      have hcl := h2.at_.cl
      have c39 := hcl.c39
      have fz := hcl.fz
      clear h2 hcl HW
      go_wp2_with fail
      go_end0
      rw [HK.out]
      exact ⟨rfl, u, r0, r1, At.kind H2.out.at_ 19, H2.out.fr.setc 39 _⟩
    · clear HCP
      rw [e] at c35
      have HK := Lib.hid (show sk (cpOf s q) = 18 by rw [e]; decide)
      clear e
      go_wp2_with fail
      clear c35 c39 c40 fz
      refine (HW.out.step hg hs tq0 tq1).mono ?_
      rintro e w2 ⟨rfl, h2⟩
      have H2 := Lib.hid h2
      have hcl := h2.at_.cl
      have c39 := hcl.c39
      have fz := hcl.fz
      clear h2 hcl HW
      go_wp2_with fail
      go_end0
      rw [HK.out]
      exact ⟨rfl, u, r0, r1, At.kind H2.out.at_ 18, H2.out.fr.setc 39 _⟩
    · clear HCP
      rw [e] at c35
      have HK := Lib.hid (show sk (cpOf s q) = 15 by rw [e]; decide)
      clear e
      go_wp2_with fail
      clear c35 c39 c40 fz
      refine (HW.out.step hg hs tq0 tq1).mono ?_
      rintro e w2 ⟨rfl, h2⟩
      have H2 := Lib.hid h2
      have hcl := h2.at_.cl
      have c39 := hcl.c39
      have fz := hcl.fz
      clear h2 hcl HW
      go_wp2_with fail
      go_end0
      rw [HK.out]
      exact ⟨rfl, u, r0, r1, At.kind H2.out.at_ 15, H2.out.fr.setc 39 _⟩
    · clear HCP
      rw [e] at c35
      have HK := Lib.hid (show sk (cpOf s q) = 16 by rw [e]; decide)
      clear e
      go_wp2_with fail
      clear c35 c39 c40 fz
      refine (HW.out.step hg hs tq0 tq1).mono ?_
      rintro e w2 ⟨rfl, h2⟩
      have H2 := Lib.hid h2
      have hcl := h2.at_.cl
      have c39 := hcl.c39
      have fz := hcl.fz
      clear h2 hcl HW
      go_wp2_with fail
      go_end0
      rw [HK.out]
      exact ⟨rfl, u, r0, r1, At.kind H2.out.at_ 16, H2.out.fr.setc 39 _⟩
  · go_enter Tryd.func51, Tryd.ntmps51
    refine wp_block (wp_loop_rounds 2 ?_)
    rw [rounds_succ]
    refine wp_block ?_
    have hcl := ha.cl
    have c36 : wx.cell? ⟨g, 36, none⟩ = some (.int .i32 0) := hcl.c36
    have c37 : wx.cell? ⟨g, 37, none⟩ = some (.int .i32 0) := hcl.c37
    have fz := hcl.fz
    have HA := Lib.hid ha
    have HF := Lib.hid hf
    have HC := Lib.hid hc
    have HN := Lib.hid hqn
    have HC0 := Lib.hid (cp_of (s := s) (k := 0) (by have := hc.sz; omega) (by rw [h47]; decide))
    have HC1 := Lib.hid (cp_of (s := s) (k := 1) (by have := hc.sz; omega) (by rw [h42]; decide))
    rw [h47] at HC0
    rw [h42] at HC1
    clear hcl ha hf hc hqn h47 h42
    go_wp2_with fail
    refine (end44 0 0 (by omega) (by omega) (by omega) (by omega) _).mono ?_
    rintro e w1 ⟨rfl, hb1⟩
    rw [Int.add_zero]
    have HA1 := Lib.hid (HA.out.below hb1)
    have HF1 := Lib.hid (HF.out.bel hb1)
    clear c36 c37 fz HA HF hb1
    have hcl := HA1.out.cl
    have c36 := hcl.c36
    have c37 := hcl.c37
    have c38 := hcl.c38
    have c39 := hcl.c39
    have c40 := hcl.c40
    have fz := hcl.fz
    clear hcl
    go_upto_region 1 with fail
    have hA2 := Za.At.tok0 HA1.out
    have hF2 := ((((HF1.out.setc 36 (.int .i32 0)).setc 37 (.int .i32 0)).setc 38 (.int .u16 0)).setc 39 (.int .u8 0)).setc 40 (.int .u8 0)
    clear c36 c37 c38 c39 c40 fz HA1 HF1
    generalize World.setCell _ _ _ = W at hA2 hF2 ⊢
    have HW : Hid (Wh g u0 x0 x1 s 0 0 0 0 w 0 W) := Lib.hid ⟨hA2, hF2, Nat.zero_le _, tabs_fr HT.out hg hw hF2, Nat.le_trans hw hF2.size⟩
    have c35 : W.cell? ⟨g, 35, none⟩ = some (.int .i32 47) := by rw [← HC0.out.1]; exact hA2.cl.c35
    clear hA2 hF2
    go_wp2_with fail
    refine (HW.out.step hg hs (by decide) (by decide)).mono ?_
    rintro e w2 ⟨rfl, h2⟩
    rw [HC0.out.2, Nat.zero_add] at h2
    have H2 := Lib.hid h2
    have c35 : w2.cell? ⟨g, 35, none⟩ = some (.int .i32 42) := by rw [← HC1.out.1]; exact h2.at_.cl.c35
    clear h2 HW
    go_wp2_with fail
    refine (H2.out.step hg hs (by decide) (by decide)).mono ?_
    rintro e w3 ⟨rfl, h3⟩
    rw [HC1.out.2] at h3
    have H3 : Hid (Wh g u0 x0 x1 s 0 0 0 0 w 2 w3) := Lib.hid h3
    have c36 : w3.cell? ⟨g, 36, none⟩ = some (.int .i32 0) := h3.at_.cl.c36
    have c37 : w3.cell? ⟨g, 37, none⟩ = some (.int .i32 2) := h3.at_.cl.c37
    clear h3 H2 c35
    go_wp2_with fail
    refine (com64 g u0 x0 x1 s n 0 0 0 _ H3.out.at_ HC.out H3.out.tb hg H3.out.hw hs).mono ?_
    rintro e wi ⟨rfl, u, r0, r1, ha4, hf4⟩
    obtain ⟨ts, hts0⟩ : ∃ t : Nat, t = 0 := ⟨_, rfl⟩
    have HA : Hid (At g u r0 r1 s q (ts : Int) 0 0 0 wi) := Lib.hid (by rw [hts0, HN.out]; exact ha4)
    have HF := Lib.hid (Fr.trans H3.out.fr hf4)
    have hts : ts ≤ q := by omega
    clear ha4 hf4 c36 c37 H3 HC HN HC0 HC1 hts0
    go_wp2_with fail
    rw [rounds_succ]
    refine wp_block ?_
    have ha := HA.out
    have hf := HF.out
    clear HA HF
    have hcl := ha.cl
    have c36 := hcl.c36
    have c37 := hcl.c37
    have fz := hcl.fz
    have HA := Lib.hid ha
    have HF := Lib.hid hf
    have i0 : (0 : Int) ≤ (ts : Int) := by omega
    have i1 : (ts : Int) ≤ 100000000 := by omega
    have i2 : (0 : Int) ≤ (q : Int) - (ts : Int) := by omega
    have i3 : (q : Int) - (ts : Int) ≤ 100000000 := by omega
    have i4 : (ts : Int) + ((q : Int) - (ts : Int)) = (q : Int) := by omega
    have HI4 := Lib.hid i4
    clear ha hf hcl i4 hts
    go_wp2_with fail
    refine (end44 (ts : Int) ((q : Int) - (ts : Int)) i0 i1 i2 i3 _).mono ?_
    rintro e w1 ⟨rfl, hb1⟩
    rw [HI4.out]
    have HA1 := Lib.hid (HA.out.below hb1)
    have HF1 := Lib.hid (HF.out.bel hb1)
    clear c36 c37 fz i0 i1 i2 i3 HA HF hb1 HI4
    have hcl := HA1.out.cl
    have c36 := hcl.c36
    have c37 := hcl.c37
    have c38 := hcl.c38
    have c39 := hcl.c39
    have c40 := hcl.c40
    have fz := hcl.fz
    clear hcl
    go_upto_region 1 with fail
    have hA2 := At.tok HA1.out
    have hF2 := ((((HF1.out.setc 36 (.int .i32 (q : Int))).setc 37 (.int .i32 0)).setc 38 (.int .u16 0)).setc 39 (.int .u8 0)).setc 40 (.int .u8 0)
    clear c36 c37 c38 c39 c40 fz HA1 HF1
    generalize World.setCell _ _ _ = W at hA2 hF2 ⊢
    have HW : Hid (Wh g u r0 r1 s q 0 0 0 w q W) := Lib.hid ⟨hA2, hF2, hq, tabs_fr HT.out hg hw hF2, Nat.le_trans hw hF2.size⟩
    have hcl := hA2.cl
    have c35 := hcl.c35
    have c39 := hcl.c39
    have c40 := hcl.c40
    have fz := hcl.fz
    clear hcl hA2 hF2 HT
    rcases HCP.out with e | e | e | e | e | e
    · clear HCP
      rw [e] at c35
      have HK := Lib.hid (show sk (cpOf s q) = 13 by rw [e]; decide)
      clear e
      go_wp2_with fail
      clear c35 c39 c40 fz
      refine (HW.out.step hg hs tq0 tq1).mono ?_
      rintro e w2 ⟨rfl, h2⟩
      have H2 := Lib.hid h2
      have hcl := h2.at_.cl
      have c39 := hcl.c39
      have fz := hcl.fz
      clear h2 hcl HW
      go_wp2_with fail
      go_end0
      rw [HK.out]
      exact ⟨rfl, u, r0, r1, At.kind H2.out.at_ 13, H2.out.fr.setc 39 _⟩
    · clear HCP
      rw [e] at c35
      have HK := Lib.hid (show sk (cpOf s q) = 14 by rw [e]; decide)
      clear e
      go_wp2_with fail
      clear c35 c39 c40 fz
      refine (HW.out.step hg hs tq0 tq1).mono ?_
      rintro e w2 ⟨rfl, h2⟩
      have H2 := Lib.hid h2
      have hcl := h2.at_.cl
      have c39 := hcl.c39
      have fz := hcl.fz
      clear h2 hcl HW
      go_wp2_with fail
      go_end0
      rw [HK.out]
      exact ⟨rfl, u, r0, r1, At.kind H2.out.at_ 14, H2.out.fr.setc 39 _⟩
    · clear HCP
      rw [e] at c35
      have HK := Lib.hid (show sk (cpOf s q) = 19 by rw [e]; decide)
      clear e
      go_wp2_with fail
      clear c35 c39 c40 fz
      refine (HW.out.step hg hs tq0 tq1).mono ?_
      rintro e w2 ⟨rfl, h2⟩
      have H2 := Lib.hid h2
      have hcl := h2.at_.cl
      have c39 := hcl.c39
      have fz := hcl.fz
      clear h2 hcl HW
      go_wp2_with fail
      go_end0
      rw [HK.out]
      exact ⟨rfl, u, r0, r1, At.kind H2.out.at_ 19, H2.out.fr.setc 39 _⟩
    · clear HCP
      rw [e] at c35
      have HK := Lib.hid (show sk (cpOf s q) = 18 by rw [e]; decide)
      clear e
      go_wp2_with fail
      clear c35 c39 c40 fz
      refine (HW.out.step hg hs tq0 tq1).mono ?_
      rintro e w2 ⟨rfl, h2⟩
      have H2 := Lib.hid h2
      have hcl := h2.at_.cl
      have c39 := hcl.c39
      have fz := hcl.fz
      clear h2 hcl HW
      go_wp2_with fail
      go_end0
      rw [HK.out]
      exact ⟨rfl, u, r0, r1, At.kind H2.out.at_ 18, H2.out.fr.setc 39 _⟩
    · clear HCP
      rw [e] at c35
      have HK := Lib.hid (show sk (cpOf s q) = 15 by rw [e]; decide)
      clear e
      go_wp2_with fail
      clear c35 c39 c40 fz
      refine (HW.out.step hg hs tq0 tq1).mono ?_
      rintro e w2 ⟨rfl, h2⟩
      have H2 := Lib.hid h2
      have hcl := h2.at_.cl
      have c39 := hcl.c39
      have fz := hcl.fz
      clear h2 hcl HW
      go_wp2_with fail
      go_end0
      rw [HK.out]
      exact ⟨rfl, u, r0, r1, At.kind H2.out.at_ 15, H2.out.fr.setc 39 _⟩
    · clear HCP
      rw [e] at c35
      have HK := Lib.hid (show sk (cpOf s q) = 16 by rw [e]; decide)
      clear e
      go_wp2_with fail
      clear c35 c39 c40 fz
      refine (HW.out.step hg hs tq0 tq1).mono ?_
      rintro e w2 ⟨rfl, h2⟩
      have H2 := Lib.hid h2
      have hcl := h2.at_.cl
      have c39 := hcl.c39
      have fz := hcl.fz
      clear h2 hcl HW
      go_wp2_with fail
      go_end0
      rw [HK.out]
      exact ⟨rfl, u, r0, r1, At.kind H2.out.at_ 16, H2.out.fr.setc 39 _⟩
end Go.Proofs.YtcljenkgbbbfpaaDoor.Zm
