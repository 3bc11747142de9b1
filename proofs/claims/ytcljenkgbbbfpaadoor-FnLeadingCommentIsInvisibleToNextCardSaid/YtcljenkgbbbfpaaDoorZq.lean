/-
  Proved: next at any other character and at the start of a name, with or without a comment ahead. Conditions: those that each theorem names as its
  hypotheses, and no others.
-/
import Derived.Test.YtcljenkgbbbfpaaDoorZl
import Derived.Deep.DeepCutAuto
import Derived.BigQuiet
namespace Go.Proofs.YtcljenkgbbbfpaaDoor.Zq
open Go.RowKit Go.PlainAid Str Mem De Lu Dw Cu Rws Za Zb Zc Zd Ze Zf Zg Zh Zk Zl
set_option linter.unusedVariables false
set_option linter.unusedSimpArgs false
set_option maxRecDepth 100000 in
set_option maxHeartbeats 8000000 in
theorem nxO (g : Nat) (s : ByteArray) (q : Nat) (w wx : World) (hn : nsB (cpOf s q) = false) (hP : Pc g s q w wx) (hcp : ∀ c ∈ ([-1, 47, 32, 9, 10, 13, 12, 34, 39, 35, 40, 41, 91, 93, 123, 125, 44, 58, 59, 43, 46, 45, 60, 64, 92, 48, 49, 50, 51, 52, 53, 54, 55, 56, 57, 62, 126, 38, 42, 124, 33, 61, 94, 36] : List Int), cpOf s q ≠ c) :
    Calls Tryd.prog 51 #[.pointer (some ⟨g, 0, none⟩)] wx (Nxt g s q (q + wdOf s q, 0, 11, 0) w) := by
  obtain ⟨hbef, hq, hs, hT, hw, hg, hnb, hnu, hns⟩ := hP
  have HNB := Lib.hid hnb
  have HNU := Lib.hid hnu
  have HNS := Lib.hid hns
  have HT := Lib.hid hT
  have tq0 : (0 : Int) ≤ (q : Int) := by omega
  have tq1 : (q : Int) ≤ 2000000 := by omega
  have HCP := Lib.hid hcp
  clear hT hnb hnu hns hcp
  rcases hbef with ⟨hf, u, r0, r1, ts, un, kd, fl, hts, ha⟩ | ⟨hf, u0, x0, x1, n, un, kd, fl, ha, hc, hqn, h47, h42⟩
  · go_enter Tryd.func51, Tryd.ntmps51
    refine wp_block (wp_loop_rounds 1 ?_)
    rw [rounds_succ]
    refine wp_block ?_
    have hcl := ha.cl
    have c36 := hcl.c36
    have c37 := hcl.c37
    have fz := hcl.fz
    have HA := Lib.hid ha
    have HF := Lib.hid hf
    have i0 : (0 : Int) ≤ (ts : Int) := by omega
    have i1 : (ts : Int) ≤ 100000000 := by omega
    have i2 : (0 : Int) ≤ (q : Int) - (ts : Int) := by omega
    have i3 : (q : Int) - (ts : Int) ≤ 100000000 := by omega
    have i4 : (ts : Int) + ((q : Int) - (ts : Int)) = (q : Int) := by omega
    have HI4 := Lib.hid i4
    clear ha hf hcl i4 hts
    go_wp2_with fail
    refine (end44 (ts : Int) ((q : Int) - (ts : Int)) i0 i1 i2 i3 _).mono ?_
    rintro e w1 ⟨rfl, hb1⟩
    rw [HI4.out]
    have HA1 := Lib.hid (HA.out.below hb1)
    have HF1 := Lib.hid (HF.out.bel hb1)
    clear c36 c37 fz i0 i1 i2 i3 HA HF hb1 HI4
    have hcl := HA1.out.cl
    have c36 := hcl.c36
    have c37 := hcl.c37
    have c38 := hcl.c38
    have c39 := hcl.c39
    have c40 := hcl.c40
    have fz := hcl.fz
    clear hcl
    go_upto_region 1 with fail
    have hA2 := At.tok HA1.out
    have hF2 := ((((HF1.out.setc 36 (.int .i32 (q : Int))).setc 37 (.int .i32 0)).setc 38 (.int .u16 0)).setc 39 (.int .u8 0)).setc 40 (.int .u8 0)
    clear c36 c37 c38 c39 c40 fz HA1 HF1
    generalize World.setCell _ _ _ = W at hA2 hF2 ⊢
    have HW : Hid (Wh g u r0 r1 s q 0 0 0 w q W) := Lib.hid ⟨hA2, hF2, hq, tabs_fr HT.out hg hw hF2, Nat.le_trans hw hF2.size⟩
    have hcl := hA2.cl
    have c35 := hcl.c35
    have c39 := hcl.c39
    have c40 := hcl.c40
    have fz := hcl.fz
    clear hcl hA2 hF2 HT
    have HNS1 := Lib.hid hn
    clear hn
    have z0 : (cpOf s q == -1) = false := beq_eq_false_iff_ne.2 (HCP.out (-1) (by decide))
    have z1 : (cpOf s q == 47) = false := beq_eq_false_iff_ne.2 (HCP.out (47) (by decide))
    have z2 : (cpOf s q == 32) = false := beq_eq_false_iff_ne.2 (HCP.out (32) (by decide))
    have z3 : (cpOf s q == 9) = false := beq_eq_false_iff_ne.2 (HCP.out (9) (by decide))
    have z4 : (cpOf s q == 10) = false := beq_eq_false_iff_ne.2 (HCP.out (10) (by decide))
    have z5 : (cpOf s q == 13) = false := beq_eq_false_iff_ne.2 (HCP.out (13) (by decide))
    have z6 : (cpOf s q == 12) = false := beq_eq_false_iff_ne.2 (HCP.out (12) (by decide))
    have z7 : (cpOf s q == 34) = false := beq_eq_false_iff_ne.2 (HCP.out (34) (by decide))
    have z8 : (cpOf s q == 39) = false := beq_eq_false_iff_ne.2 (HCP.out (39) (by decide))
    have z9 : (cpOf s q == 35) = false := beq_eq_false_iff_ne.2 (HCP.out (35) (by decide))
    have z10 : (cpOf s q == 40) = false := beq_eq_false_iff_ne.2 (HCP.out (40) (by decide))
    have z11 : (cpOf s q == 41) = false := beq_eq_false_iff_ne.2 (HCP.out (41) (by decide))
    have z12 : (cpOf s q == 91) = false := beq_eq_false_iff_ne.2 (HCP.out (91) (by decide))
    have z13 : (cpOf s q == 93) = false := beq_eq_false_iff_ne.2 (HCP.out (93) (by decide))
    have z14 : (cpOf s q == 123) = false := beq_eq_false_iff_ne.2 (HCP.out (123) (by decide))
    have z15 : (cpOf s q == 125) = false := beq_eq_false_iff_ne.2 (HCP.out (125) (by decide))
    have z16 : (cpOf s q == 44) = false := beq_eq_false_iff_ne.2 (HCP.out (44) (by decide))
    have z17 : (cpOf s q == 58) = false := beq_eq_false_iff_ne.2 (HCP.out (58) (by decide))
    have z18 : (cpOf s q == 59) = false := beq_eq_false_iff_ne.2 (HCP.out (59) (by decide))
    have z19 : (cpOf s q == 43) = false := beq_eq_false_iff_ne.2 (HCP.out (43) (by decide))
    have z20 : (cpOf s q == 46) = false := beq_eq_false_iff_ne.2 (HCP.out (46) (by decide))
    have z21 : (cpOf s q == 45) = false := beq_eq_false_iff_ne.2 (HCP.out (45) (by decide))
    have z22 : (cpOf s q == 60) = false := beq_eq_false_iff_ne.2 (HCP.out (60) (by decide))
    have z23 : (cpOf s q == 64) = false := beq_eq_false_iff_ne.2 (HCP.out (64) (by decide))
    have z24 : (cpOf s q == 92) = false := beq_eq_false_iff_ne.2 (HCP.out (92) (by decide))
    have z25 : (cpOf s q == 48) = false := beq_eq_false_iff_ne.2 (HCP.out (48) (by decide))
    have z26 : (cpOf s q == 49) = false := beq_eq_false_iff_ne.2 (HCP.out (49) (by decide))
    have z27 : (cpOf s q == 50) = false := beq_eq_false_iff_ne.2 (HCP.out (50) (by decide))
    have z28 : (cpOf s q == 51) = false := beq_eq_false_iff_ne.2 (HCP.out (51) (by decide))
    have z29 : (cpOf s q == 52) = false := beq_eq_false_iff_ne.2 (HCP.out (52) (by decide))
    have z30 : (cpOf s q == 53) = false := beq_eq_false_iff_ne.2 (HCP.out (53) (by decide))
    have z31 : (cpOf s q == 54) = false := beq_eq_false_iff_ne.2 (HCP.out (54) (by decide))
    have z32 : (cpOf s q == 55) = false := beq_eq_false_iff_ne.2 (HCP.out (55) (by decide))
    have z33 : (cpOf s q == 56) = false := beq_eq_false_iff_ne.2 (HCP.out (56) (by decide))
    have z34 : (cpOf s q == 57) = false := beq_eq_false_iff_ne.2 (HCP.out (57) (by decide))
    have z35 : (cpOf s q == 62) = false := beq_eq_false_iff_ne.2 (HCP.out (62) (by decide))
    have z36 : (cpOf s q == 126) = false := beq_eq_false_iff_ne.2 (HCP.out (126) (by decide))
    have z37 : (cpOf s q == 38) = false := beq_eq_false_iff_ne.2 (HCP.out (38) (by decide))
    have z38 : (cpOf s q == 42) = false := beq_eq_false_iff_ne.2 (HCP.out (42) (by decide))
    have z39 : (cpOf s q == 124) = false := beq_eq_false_iff_ne.2 (HCP.out (124) (by decide))
    have z40 : (cpOf s q == 33) = false := beq_eq_false_iff_ne.2 (HCP.out (33) (by decide))
    have z41 : (cpOf s q == 61) = false := beq_eq_false_iff_ne.2 (HCP.out (61) (by decide))
    have z42 : (cpOf s q == 94) = false := beq_eq_false_iff_ne.2 (HCP.out (94) (by decide))
    have z43 : (cpOf s q == 36) = false := beq_eq_false_iff_ne.2 (HCP.out (36) (by decide))
    clear HCP
    go_wp2_with (first | (go_at_call 74; refine (start74 (cpOf s q) _).mono ?_; rintro e w9 ⟨rfl, rfl⟩; rw [HNS1.out]))
    clear z0 z1 z2 z3 z4 z5 z6 z7 z8 z9 z10 z11 z12 z13 z14 z15 z16 z17 z18 z19 z20 z21 z22 z23 z24 z25 z26 z27 z28 z29 z30 z31 z32 z33 z34 z35 z36 z37 z38 z39 z40 z41 z42 z43
    clear c35 c39 c40 fz
    refine (HW.out.step hg hs tq0 tq1).mono ?_
    rintro e w2 ⟨rfl, h2⟩
    have H2 := Lib.hid h2
    have hcl := h2.at_.cl
    have c39 := hcl.c39
    have fz := hcl.fz
    clear h2 hcl HW
    go_wp2_with fail
    go_end0
    exact ⟨rfl, u, r0, r1, At.kind H2.out.at_ 11, H2.out.fr.setc 39 _⟩
  · go_enter Tryd.func51, Tryd.ntmps51
    refine wp_block (wp_loop_rounds 2 ?_)
    rw [rounds_succ]
    refine wp_block ?_
    have hcl := ha.cl
    have c36 : wx.cell? ⟨g, 36, none⟩ = some (.int .i32 0) := hcl.c36
    have c37 : wx.cell? ⟨g, 37, none⟩ = some (.int .i32 0) := hcl.c37
    have fz := hcl.fz
    have HA := Lib.hid ha
    have HF := Lib.hid hf
    have HC := Lib.hid hc
    have HN := Lib.hid hqn
    have HC0 := Lib.hid (cp_of (s := s) (k := 0) (by have := hc.sz; omega) (by rw [h47]; decide))
    have HC1 := Lib.hid (cp_of (s := s) (k := 1) (by have := hc.sz; omega) (by rw [h42]; decide))
    rw [h47] at HC0
    rw [h42] at HC1
    clear hcl ha hf hc hqn h47 h42
    go_wp2_with fail
    refine (end44 0 0 (by omega) (by omega) (by omega) (by omega) _).mono ?_
    rintro e w1 ⟨rfl, hb1⟩
    rw [Int.add_zero]
    have HA1 := Lib.hid (HA.out.below hb1)
    have HF1 := Lib.hid (HF.out.bel hb1)
    clear c36 c37 fz HA HF hb1
    have hcl := HA1.out.cl
    have c36 := hcl.c36
    have c37 := hcl.c37
    have c38 := hcl.c38
    have c39 := hcl.c39
    have c40 := hcl.c40
    have fz := hcl.fz
    clear hcl
    go_upto_region 1 with fail
    have hA2 := Za.At.tok0 HA1.out
    have hF2 := ((((HF1.out.setc 36 (.int .i32 0)).setc 37 (.int .i32 0)).setc 38 (.int .u16 0)).setc 39 (.int .u8 0)).setc 40 (.int .u8 0)
    clear c36 c37 c38 c39 c40 fz HA1 HF1
    generalize World.setCell _ _ _ = W at hA2 hF2 ⊢
    have HW : Hid (Wh g u0 x0 x1 s 0 0 0 0 w 0 W) := Lib.hid ⟨hA2, hF2, Nat.zero_le _, tabs_fr HT.out hg hw hF2, Nat.le_trans hw hF2.size⟩
    have c35 : W.cell? ⟨g, 35, none⟩ = some (.int .i32 47) := by rw [← HC0.out.1]; exact hA2.cl.c35
    clear hA2 hF2
    go_wp2_with fail
    refine (HW.out.step hg hs (by decide) (by decide)).mono ?_
    rintro e w2 ⟨rfl, h2⟩
    rw [HC0.out.2, Nat.zero_add] at h2
    have H2 := Lib.hid h2
    have c35 : w2.cell? ⟨g, 35, none⟩ = some (.int .i32 42) := by rw [← HC1.out.1]; exact h2.at_.cl.c35
    clear h2 HW
    go_wp2_with fail
    refine (H2.out.step hg hs (by decide) (by decide)).mono ?_
    rintro e w3 ⟨rfl, h3⟩
    rw [HC1.out.2] at h3
    have H3 : Hid (Wh g u0 x0 x1 s 0 0 0 0 w 2 w3) := Lib.hid h3
    have c36 : w3.cell? ⟨g, 36, none⟩ = some (.int .i32 0) := h3.at_.cl.c36
    have c37 : w3.cell? ⟨g, 37, none⟩ = some (.int .i32 2) := h3.at_.cl.c37
    clear h3 H2 c35
    go_wp2_with fail
    refine (com64 g u0 x0 x1 s n 0 0 0 _ H3.out.at_ HC.out H3.out.tb hg H3.out.hw hs).mono ?_
    rintro e wi ⟨rfl, u, r0, r1, ha4, hf4⟩
    obtain ⟨ts, hts0⟩ : ∃ t : Nat, t = 0 := ⟨_, rfl⟩
    have HA : Hid (At g u r0 r1 s q (ts : Int) 0 0 0 wi) := Lib.hid (by rw [hts0, HN.out]; exact ha4)
    have HF := Lib.hid (Fr.trans H3.out.fr hf4)
    have hts : ts ≤ q := by omega
    clear ha4 hf4 c36 c37 H3 HC HN HC0 HC1 hts0
    go_wp2_with fail
    rw [rounds_succ]
    refine wp_block ?_
    have ha := HA.out
    have hf := HF.out
    clear HA HF
    have hcl := ha.cl
    have c36 := hcl.c36
    have c37 := hcl.c37
    have fz := hcl.fz
    have HA := Lib.hid ha
    have HF := Lib.hid hf
    have i0 : (0 : Int) ≤ (ts : Int) := by omega
    have i1 : (ts : Int) ≤ 100000000 := by omega
    have i2 : (0 : Int) ≤ (q : Int) - (ts : Int) := by omega
    have i3 : (q : Int) - (ts : Int) ≤ 100000000 := by omega
    have i4 : (ts : Int) + ((q : Int) - (ts : Int)) = (q : Int) := by omega
    have HI4 := Lib.hid i4
    clear ha hf hcl i4 hts
    go_wp2_with fail
    refine (end44 (ts : Int) ((q : Int) - (ts : Int)) i0 i1 i2 i3 _).mono ?_
    rintro e w1 ⟨rfl, hb1⟩
    rw [HI4.out]
    have HA1 := Lib.hid (HA.out.below hb1)
    have HF1 := Lib.hid (HF.out.bel hb1)
    clear c36 c37 fz i0 i1 i2 i3 HA HF hb1 HI4
    have hcl := HA1.out.cl
    have c36 := hcl.c36
    have c37 := hcl.c37
    have c38 := hcl.c38
    have c39 := hcl.c39
    have c40 := hcl.c40
    have fz := hcl.fz
    clear hcl
    go_upto_region 1 with fail
    have hA2 := At.tok HA1.out
    have hF2 := ((((HF1.out.setc 36 (.int .i32 (q : Int))).setc 37 (.int .i32 0)).setc 38 (.int .u16 0)).setc 39 (.int .u8 0)).setc 40 (.int .u8 0)
    clear c36 c37 c38 c39 c40 fz HA1 HF1
    generalize World.setCell _ _ _ = W at hA2 hF2 ⊢
    have HW : Hid (Wh g u r0 r1 s q 0 0 0 w q W) := Lib.hid ⟨hA2, hF2, hq, tabs_fr HT.out hg hw hF2, Nat.le_trans hw hF2.size⟩
    have hcl := hA2.cl
    have c35 := hcl.c35
    have c39 := hcl.c39
    have c40 := hcl.c40
    have fz := hcl.fz
    clear hcl hA2 hF2 HT
    have HNS1 := Lib.hid hn
    clear hn
    have z0 : (cpOf s q == -1) = false := beq_eq_false_iff_ne.2 (HCP.out (-1) (by decide))
    have z1 : (cpOf s q == 47) = false := beq_eq_false_iff_ne.2 (HCP.out (47) (by decide))
    have z2 : (cpOf s q == 32) = false := beq_eq_false_iff_ne.2 (HCP.out (32) (by decide))
    have z3 : (cpOf s q == 9) = false := beq_eq_false_iff_ne.2 (HCP.out (9) (by decide))
    have z4 : (cpOf s q == 10) = false := beq_eq_false_iff_ne.2 (HCP.out (10) (by decide))
    have z5 : (cpOf s q == 13) = false := beq_eq_false_iff_ne.2 (HCP.out (13) (by decide))
    have z6 : (cpOf s q == 12) = false := beq_eq_false_iff_ne.2 (HCP.out (12) (by decide))
    have z7 : (cpOf s q == 34) = false := beq_eq_false_iff_ne.2 (HCP.out (34) (by decide))
    have z8 : (cpOf s q == 39) = false := beq_eq_false_iff_ne.2 (HCP.out (39) (by decide))
    have z9 : (cpOf s q == 35) = false := beq_eq_false_iff_ne.2 (HCP.out (35) (by decide))
    have z10 : (cpOf s q == 40) = false := beq_eq_false_iff_ne.2 (HCP.out (40) (by decide))
    have z11 : (cpOf s q == 41) = false := beq_eq_false_iff_ne.2 (HCP.out (41) (by decide))
    have z12 : (cpOf s q == 91) = false := beq_eq_false_iff_ne.2 (HCP.out (91) (by decide))
    have z13 : (cpOf s q == 93) = false := beq_eq_false_iff_ne.2 (HCP.out (93) (by decide))
    have z14 : (cpOf s q == 123) = false := beq_eq_false_iff_ne.2 (HCP.out (123) (by decide))
    have z15 : (cpOf s q == 125) = false := beq_eq_false_iff_ne.2 (HCP.out (125) (by decide))
    have z16 : (cpOf s q == 44) = false := beq_eq_false_iff_ne.2 (HCP.out (44) (by decide))
    have z17 : (cpOf s q == 58) = false := beq_eq_false_iff_ne.2 (HCP.out (58) (by decide))
    have z18 : (cpOf s q == 59) = false := beq_eq_false_iff_ne.2 (HCP.out (59) (by decide))
    have z19 : (cpOf s q == 43) = false := beq_eq_false_iff_ne.2 (HCP.out (43) (by decide))
    have z20 : (cpOf s q == 46) = false := beq_eq_false_iff_ne.2 (HCP.out (46) (by decide))
    have z21 : (cpOf s q == 45) = false := beq_eq_false_iff_ne.2 (HCP.out (45) (by decide))
    have z22 : (cpOf s q == 60) = false := beq_eq_false_iff_ne.2 (HCP.out (60) (by decide))
    have z23 : (cpOf s q == 64) = false := beq_eq_false_iff_ne.2 (HCP.out (64) (by decide))
    have z24 : (cpOf s q == 92) = false := beq_eq_false_iff_ne.2 (HCP.out (92) (by decide))
    have z25 : (cpOf s q == 48) = false := beq_eq_false_iff_ne.2 (HCP.out (48) (by decide))
    have z26 : (cpOf s q == 49) = false := beq_eq_false_iff_ne.2 (HCP.out (49) (by decide))
    have z27 : (cpOf s q == 50) = false := beq_eq_false_iff_ne.2 (HCP.out (50) (by decide))
    have z28 : (cpOf s q == 51) = false := beq_eq_false_iff_ne.2 (HCP.out (51) (by decide))
    have z29 : (cpOf s q == 52) = false := beq_eq_false_iff_ne.2 (HCP.out (52) (by decide))
    have z30 : (cpOf s q == 53) = false := beq_eq_false_iff_ne.2 (HCP.out (53) (by decide))
    have z31 : (cpOf s q == 54) = false := beq_eq_false_iff_ne.2 (HCP.out (54) (by decide))
    have z32 : (cpOf s q == 55) = false := beq_eq_false_iff_ne.2 (HCP.out (55) (by decide))
    have z33 : (cpOf s q == 56) = false := beq_eq_false_iff_ne.2 (HCP.out (56) (by decide))
    have z34 : (cpOf s q == 57) = false := beq_eq_false_iff_ne.2 (HCP.out (57) (by decide))
    have z35 : (cpOf s q == 62) = false := beq_eq_false_iff_ne.2 (HCP.out (62) (by decide))
    have z36 : (cpOf s q == 126) = false := beq_eq_false_iff_ne.2 (HCP.out (126) (by decide))
    have z37 : (cpOf s q == 38) = false := beq_eq_false_iff_ne.2 (HCP.out (38) (by decide))
    have z38 : (cpOf s q == 42) = false := beq_eq_false_iff_ne.2 (HCP.out (42) (by decide))
    have z39 : (cpOf s q == 124) = false := beq_eq_false_iff_ne.2 (HCP.out (124) (by decide))
    have z40 : (cpOf s q == 33) = false := beq_eq_false_iff_ne.2 (HCP.out (33) (by decide))
    have z41 : (cpOf s q == 61) = false := beq_eq_false_iff_ne.2 (HCP.out (61) (by decide))
    have z42 : (cpOf s q == 94) = false := beq_eq_false_iff_ne.2 (HCP.out (94) (by decide))
    have z43 : (cpOf s q == 36) = false := beq_eq_false_iff_ne.2 (HCP.out (36) (by decide))
    clear HCP
    go_wp2_with (first | (go_at_call 74; refine (start74 (cpOf s q) _).mono ?_; rintro e w9 ⟨rfl, rfl⟩; rw [HNS1.out]))
    clear z0 z1 z2 z3 z4 z5 z6 z7 z8 z9 z10 z11 z12 z13 z14 z15 z16 z17 z18 z19 z20 z21 z22 z23 z24 z25 z26 z27 z28 z29 z30 z31 z32 z33 z34 z35 z36 z37 z38 z39 z40 z41 z42 z43
    clear c35 c39 c40 fz
    refine (HW.out.step hg hs tq0 tq1).mono ?_
    rintro e w2 ⟨rfl, h2⟩
    have H2 := Lib.hid h2
    have hcl := h2.at_.cl
    have c39 := hcl.c39
    have fz := hcl.fz
    clear h2 hcl HW
    go_wp2_with fail
    go_end0
    exact ⟨rfl, u, r0, r1, At.kind H2.out.at_ 11, H2.out.fr.setc 39 _⟩
set_option maxRecDepth 100000 in
set_option maxHeartbeats 8000000 in
theorem nxI (g : Nat) (s : ByteArray) (q : Nat) (w wx : World) (hn : nsB (cpOf s q) = true) (hP : Pc g s q w wx) (hcp : ∀ c ∈ ([-1, 47, 32, 9, 10, 13, 12, 34, 39, 35, 40, 41, 91, 93, 123, 125, 44, 58, 59, 43, 46, 45, 60, 64, 92, 48, 49, 50, 51, 52, 53, 54, 55, 56, 57, 62, 126, 38, 42, 124, 33, 61, 94, 36] : List Int), cpOf s q ≠ c) :
    Calls Tryd.prog 51 #[.pointer (some ⟨g, 0, none⟩)] wx (Nxt g s q (idt s q) w) := by
  obtain ⟨hbef, hq, hs, hT, hw, hg, hnb, hnu, hns⟩ := hP
  have HNB := Lib.hid hnb
  have HNU := Lib.hid hnu
  have HNS := Lib.hid hns
  have HT := Lib.hid hT
  have tq0 : (0 : Int) ≤ (q : Int) := by omega
  have tq1 : (q : Int) ≤ 2000000 := by omega
  have HCP := Lib.hid hcp
  clear hT hnb hnu hns hcp
  rcases hbef with ⟨hf, u, r0, r1, ts, un, kd, fl, hts, ha⟩ | ⟨hf, u0, x0, x1, n, un, kd, fl, ha, hc, hqn, h47, h42⟩
  · go_enter Tryd.func51, Tryd.ntmps51
    refine wp_block (wp_loop_rounds 1 ?_)
    rw [rounds_succ]
    refine wp_block ?_
    have hcl := ha.cl
    have c36 := hcl.c36
    have c37 := hcl.c37
    have fz := hcl.fz
    have HA := Lib.hid ha
    have HF := Lib.hid hf
    have i0 : (0 : Int) ≤ (ts : Int) := by omega
    have i1 : (ts : Int) ≤ 100000000 := by omega
    have i2 : (0 : Int) ≤ (q : Int) - (ts : Int) := by omega
    have i3 : (q : Int) - (ts : Int) ≤ 100000000 := by omega
    have i4 : (ts : Int) + ((q : Int) - (ts : Int)) = (q : Int) := by omega
    have HI4 := Lib.hid i4
    clear ha hf hcl i4 hts
    go_wp2_with fail
    refine (end44 (ts : Int) ((q : Int) - (ts : Int)) i0 i1 i2 i3 _).mono ?_
    rintro e w1 ⟨rfl, hb1⟩
    rw [HI4.out]
    have HA1 := Lib.hid (HA.out.below hb1)
    have HF1 := Lib.hid (HF.out.bel hb1)
    clear c36 c37 fz i0 i1 i2 i3 HA HF hb1 HI4
    have hcl := HA1.out.cl
    have c36 := hcl.c36
    have c37 := hcl.c37
    have c38 := hcl.c38
    have c39 := hcl.c39
    have c40 := hcl.c40
    have fz := hcl.fz
    clear hcl
    go_upto_region 1 with fail
    have hA2 := At.tok HA1.out
    have hF2 := ((((HF1.out.setc 36 (.int .i32 (q : Int))).setc 37 (.int .i32 0)).setc 38 (.int .u16 0)).setc 39 (.int .u8 0)).setc 40 (.int .u8 0)
    clear c36 c37 c38 c39 c40 fz HA1 HF1
    generalize World.setCell _ _ _ = W at hA2 hF2 ⊢
    have HW : Hid (Wh g u r0 r1 s q 0 0 0 w q W) := Lib.hid ⟨hA2, hF2, hq, tabs_fr HT.out hg hw hF2, Nat.le_trans hw hF2.size⟩
    have hcl := hA2.cl
    have c35 := hcl.c35
    have c39 := hcl.c39
    have c40 := hcl.c40
    have fz := hcl.fz
    clear hcl hA2 hF2 HT
    have HNS1 := Lib.hid hn
    clear hn
    have z0 : (cpOf s q == -1) = false := beq_eq_false_iff_ne.2 (HCP.out (-1) (by decide))
    have z1 : (cpOf s q == 47) = false := beq_eq_false_iff_ne.2 (HCP.out (47) (by decide))
    have z2 : (cpOf s q == 32) = false := beq_eq_false_iff_ne.2 (HCP.out (32) (by decide))
    have z3 : (cpOf s q == 9) = false := beq_eq_false_iff_ne.2 (HCP.out (9) (by decide))
    have z4 : (cpOf s q == 10) = false := beq_eq_false_iff_ne.2 (HCP.out (10) (by decide))
    have z5 : (cpOf s q == 13) = false := beq_eq_false_iff_ne.2 (HCP.out (13) (by decide))
    have z6 : (cpOf s q == 12) = false := beq_eq_false_iff_ne.2 (HCP.out (12) (by decide))
    have z7 : (cpOf s q == 34) = false := beq_eq_false_iff_ne.2 (HCP.out (34) (by decide))
    have z8 : (cpOf s q == 39) = false := beq_eq_false_iff_ne.2 (HCP.out (39) (by decide))
    have z9 : (cpOf s q == 35) = false := beq_eq_false_iff_ne.2 (HCP.out (35) (by decide))
    have z10 : (cpOf s q == 40) = false := beq_eq_false_iff_ne.2 (HCP.out (40) (by decide))
    have z11 : (cpOf s q == 41) = false := beq_eq_false_iff_ne.2 (HCP.out (41) (by decide))
    have z12 : (cpOf s q == 91) = false := beq_eq_false_iff_ne.2 (HCP.out (91) (by decide))
    have z13 : (cpOf s q == 93) = false := beq_eq_false_iff_ne.2 (HCP.out (93) (by decide))
    have z14 : (cpOf s q == 123) = false := beq_eq_false_iff_ne.2 (HCP.out (123) (by decide))
    have z15 : (cpOf s q == 125) = false := beq_eq_false_iff_ne.2 (HCP.out (125) (by decide))
    have z16 : (cpOf s q == 44) = false := beq_eq_false_iff_ne.2 (HCP.out (44) (by decide))
    have z17 : (cpOf s q == 58) = false := beq_eq_false_iff_ne.2 (HCP.out (58) (by decide))
    have z18 : (cpOf s q == 59) = false := beq_eq_false_iff_ne.2 (HCP.out (59) (by decide))
    have z19 : (cpOf s q == 43) = false := beq_eq_false_iff_ne.2 (HCP.out (43) (by decide))
    have z20 : (cpOf s q == 46) = false := beq_eq_false_iff_ne.2 (HCP.out (46) (by decide))
    have z21 : (cpOf s q == 45) = false := beq_eq_false_iff_ne.2 (HCP.out (45) (by decide))
    have z22 : (cpOf s q == 60) = false := beq_eq_false_iff_ne.2 (HCP.out (60) (by decide))
    have z23 : (cpOf s q == 64) = false := beq_eq_false_iff_ne.2 (HCP.out (64) (by decide))
    have z24 : (cpOf s q == 92) = false := beq_eq_false_iff_ne.2 (HCP.out (92) (by decide))
    have z25 : (cpOf s q == 48) = false := beq_eq_false_iff_ne.2 (HCP.out (48) (by decide))
    have z26 : (cpOf s q == 49) = false := beq_eq_false_iff_ne.2 (HCP.out (49) (by decide))
    have z27 : (cpOf s q == 50) = false := beq_eq_false_iff_ne.2 (HCP.out (50) (by decide))
    have z28 : (cpOf s q == 51) = false := beq_eq_false_iff_ne.2 (HCP.out (51) (by decide))
    have z29 : (cpOf s q == 52) = false := beq_eq_false_iff_ne.2 (HCP.out (52) (by decide))
    have z30 : (cpOf s q == 53) = false := beq_eq_false_iff_ne.2 (HCP.out (53) (by decide))
    have z31 : (cpOf s q == 54) = false := beq_eq_false_iff_ne.2 (HCP.out (54) (by decide))
    have z32 : (cpOf s q == 55) = false := beq_eq_false_iff_ne.2 (HCP.out (55) (by decide))
    have z33 : (cpOf s q == 56) = false := beq_eq_false_iff_ne.2 (HCP.out (56) (by decide))
    have z34 : (cpOf s q == 57) = false := beq_eq_false_iff_ne.2 (HCP.out (57) (by decide))
    have z35 : (cpOf s q == 62) = false := beq_eq_false_iff_ne.2 (HCP.out (62) (by decide))
    have z36 : (cpOf s q == 126) = false := beq_eq_false_iff_ne.2 (HCP.out (126) (by decide))
    have z37 : (cpOf s q == 38) = false := beq_eq_false_iff_ne.2 (HCP.out (38) (by decide))
    have z38 : (cpOf s q == 42) = false := beq_eq_false_iff_ne.2 (HCP.out (42) (by decide))
    have z39 : (cpOf s q == 124) = false := beq_eq_false_iff_ne.2 (HCP.out (124) (by decide))
    have z40 : (cpOf s q == 33) = false := beq_eq_false_iff_ne.2 (HCP.out (33) (by decide))
    have z41 : (cpOf s q == 61) = false := beq_eq_false_iff_ne.2 (HCP.out (61) (by decide))
    have z42 : (cpOf s q == 94) = false := beq_eq_false_iff_ne.2 (HCP.out (94) (by decide))
    have z43 : (cpOf s q == 36) = false := beq_eq_false_iff_ne.2 (HCP.out (36) (by decide))
    clear HCP
    go_wp2_with (first | (go_at_call 74; refine (start74 (cpOf s q) _).mono ?_; rintro e w9 ⟨rfl, rfl⟩; rw [HNS1.out]))
    clear c35 c39 c40 fz z0 z1 z2 z3 z4 z5 z6 z7 z8 z9 z10 z11 z12 z13 z14 z15 z16 z17 z18 z19 z20 z21 z22 z23 z24 z25 z26 z27 z28 z29 z30 z31 z32 z33 z34 z35 z36 z37 z38 z39 z40 z41 z42 z43
    refine (like72 g u r0 r1 s q 0 0 0 _ HW.out.at_ hq HNB.out HNU.out HW.out.tb hg HW.out.hw hs).mono ?_
    rintro e w2 ⟨he, h2, f2⟩
    obtain ⟨E, K, hR⟩ : ∃ E K, idl s q = (E, K) := by cases idl s q with | mk a b => exact ⟨a, b, rfl⟩
    rw [hR] at he h2
    have HR := Lib.hid (show idt s q = (E, 0, K, 0) by unfold idt; rw [hR])
    clear hR
    dsimp only at he h2
    subst he
    have H2 := Lib.hid h2
    have HF2 := Lib.hid (Fr.trans HW.out.fr f2)
    have hcl := h2.cl
    have c39 := hcl.c39
    have fz := hcl.fz
    clear h2 hcl HW f2
    go_wp2_with fail
    go_end0
    unfold Nxt
    rw [HR.out]
    exact ⟨rfl, u, r0, r1, At.kind H2.out _, HF2.out.setc 39 _⟩
  · go_enter Tryd.func51, Tryd.ntmps51
    refine wp_block (wp_loop_rounds 2 ?_)
    rw [rounds_succ]
    refine wp_block ?_
    have hcl := ha.cl
    have c36 : wx.cell? ⟨g, 36, none⟩ = some (.int .i32 0) := hcl.c36
    have c37 : wx.cell? ⟨g, 37, none⟩ = some (.int .i32 0) := hcl.c37
    have fz := hcl.fz
    have HA := Lib.hid ha
    have HF := Lib.hid hf
    have HC := Lib.hid hc
    have HN := Lib.hid hqn
    have HC0 := Lib.hid (cp_of (s := s) (k := 0) (by have := hc.sz; omega) (by rw [h47]; decide))
    have HC1 := Lib.hid (cp_of (s := s) (k := 1) (by have := hc.sz; omega) (by rw [h42]; decide))
    rw [h47] at HC0
    rw [h42] at HC1
    clear hcl ha hf hc hqn h47 h42
    go_wp2_with fail
    refine (end44 0 0 (by omega) (by omega) (by omega) (by omega) _).mono ?_
    rintro e w1 ⟨rfl, hb1⟩
    rw [Int.add_zero]
    have HA1 := Lib.hid (HA.out.below hb1)
    have HF1 := Lib.hid (HF.out.bel hb1)
    clear c36 c37 fz HA HF hb1
    have hcl := HA1.out.cl
    have c36 := hcl.c36
    have c37 := hcl.c37
    have c38 := hcl.c38
    have c39 := hcl.c39
    have c40 := hcl.c40
    have fz := hcl.fz
    clear hcl
    go_upto_region 1 with fail
    have hA2 := Za.At.tok0 HA1.out
    have hF2 := ((((HF1.out.setc 36 (.int .i32 0)).setc 37 (.int .i32 0)).setc 38 (.int .u16 0)).setc 39 (.int .u8 0)).setc 40 (.int .u8 0)
    clear c36 c37 c38 c39 c40 fz HA1 HF1
    generalize World.setCell _ _ _ = W at hA2 hF2 ⊢
    have HW : Hid (Wh g u0 x0 x1 s 0 0 0 0 w 0 W) := Lib.hid ⟨hA2, hF2, Nat.zero_le _, tabs_fr HT.out hg hw hF2, Nat.le_trans hw hF2.size⟩
    have c35 : W.cell? ⟨g, 35, none⟩ = some (.int .i32 47) := by rw [← HC0.out.1]; exact hA2.cl.c35
    clear hA2 hF2
    go_wp2_with fail
    refine (HW.out.step hg hs (by decide) (by decide)).mono ?_
    rintro e w2 ⟨rfl, h2⟩
    rw [HC0.out.2, Nat.zero_add] at h2
    have H2 := Lib.hid h2
    have c35 : w2.cell? ⟨g, 35, none⟩ = some (.int .i32 42) := by rw [← HC1.out.1]; exact h2.at_.cl.c35
    clear h2 HW
    go_wp2_with fail
    refine (H2.out.step hg hs (by decide) (by decide)).mono ?_
    rintro e w3 ⟨rfl, h3⟩
    rw [HC1.out.2] at h3
    have H3 : Hid (Wh g u0 x0 x1 s 0 0 0 0 w 2 w3) := Lib.hid h3
    have c36 : w3.cell? ⟨g, 36, none⟩ = some (.int .i32 0) := h3.at_.cl.c36
    have c37 : w3.cell? ⟨g, 37, none⟩ = some (.int .i32 2) := h3.at_.cl.c37
    clear h3 H2 c35
    go_wp2_with fail
    refine (com64 g u0 x0 x1 s n 0 0 0 _ H3.out.at_ HC.out H3.out.tb hg H3.out.hw hs).mono ?_
    rintro e wi ⟨rfl, u, r0, r1, ha4, hf4⟩
    obtain ⟨ts, hts0⟩ : ∃ t : Nat, t = 0 := ⟨_, rfl⟩
    have HA : Hid (At g u r0 r1 s q (ts : Int) 0 0 0 wi) := Lib.hid (by rw [hts0, HN.out]; exact ha4)
    have HF := Lib.hid (Fr.trans H3.out.fr hf4)
    have hts : ts ≤ q := by omega
    clear ha4 hf4 c36 c37 H3 HC HN HC0 HC1 hts0
    go_wp2_with fail
    rw [rounds_succ]
    refine wp_block ?_
    have ha := HA.out
    have hf := HF.out
    clear HA HF
    have hcl := ha.cl
    have c36 := hcl.c36
    have c37 := hcl.c37
    have fz := hcl.fz
    have HA := Lib.hid ha
    have HF := Lib.hid hf
    have i0 : (0 : Int) ≤ (ts : Int) := by omega
    have i1 : (ts : Int) ≤ 100000000 := by omega
    have i2 : (0 : Int) ≤ (q : Int) - (ts : Int) := by omega
    have i3 : (q : Int) - (ts : Int) ≤ 100000000 := by omega
    have i4 : (ts : Int) + ((q : Int) - (ts : Int)) = (q : Int) := by omega
    have HI4 := Lib.hid i4
    clear ha hf hcl i4 hts
    go_wp2_with fail
    refine (end44 (ts : Int) ((q : Int) - (ts : Int)) i0 i1 i2 i3 _).mono ?_
    rintro e w1 ⟨rfl, hb1⟩
    rw [HI4.out]
    have HA1 := Lib.hid (HA.out.below hb1)
    have HF1 := Lib.hid (HF.out.bel hb1)
    clear c36 c37 fz i0 i1 i2 i3 HA HF hb1 HI4
    have hcl := HA1.out.cl
    have c36 := hcl.c36
    have c37 := hcl.c37
    have c38 := hcl.c38
    have c39 := hcl.c39
    have c40 := hcl.c40
    have fz := hcl.fz
    clear hcl
    go_upto_region 1 with fail
    have hA2 := At.tok HA1.out
    have hF2 := ((((HF1.out.setc 36 (.int .i32 (q : Int))).setc 37 (.int .i32 0)).setc 38 (.int .u16 0)).setc 39 (.int .u8 0)).setc 40 (.int .u8 0)
    clear c36 c37 c38 c39 c40 fz HA1 HF1
    generalize World.setCell _ _ _ = W at hA2 hF2 ⊢
    have HW : Hid (Wh g u r0 r1 s q 0 0 0 w q W) := Lib.hid ⟨hA2, hF2, hq, tabs_fr HT.out hg hw hF2, Nat.le_trans hw hF2.size⟩
    have hcl := hA2.cl
    have c35 := hcl.c35
    have c39 := hcl.c39
    have c40 := hcl.c40
    have fz := hcl.fz
    clear hcl hA2 hF2 HT
    have HNS1 := Lib.hid hn
    clear hn
    have z0 : (cpOf s q == -1) = false := beq_eq_false_iff_ne.2 (HCP.out (-1) (by decide))
    have z1 : (cpOf s q == 47) = false := beq_eq_false_iff_ne.2 (HCP.out (47) (by decide))
    have z2 : (cpOf s q == 32) = false := beq_eq_false_iff_ne.2 (HCP.out (32) (by decide))
    have z3 : (cpOf s q == 9) = false := beq_eq_false_iff_ne.2 (HCP.out (9) (by decide))
    have z4 : (cpOf s q == 10) = false := beq_eq_false_iff_ne.2 (HCP.out (10) (by decide))
    have z5 : (cpOf s q == 13) = false := beq_eq_false_iff_ne.2 (HCP.out (13) (by decide))
    have z6 : (cpOf s q == 12) = false := beq_eq_false_iff_ne.2 (HCP.out (12) (by decide))
    have z7 : (cpOf s q == 34) = false := beq_eq_false_iff_ne.2 (HCP.out (34) (by decide))
    have z8 : (cpOf s q == 39) = false := beq_eq_false_iff_ne.2 (HCP.out (39) (by decide))
    have z9 : (cpOf s q == 35) = false := beq_eq_false_iff_ne.2 (HCP.out (35) (by decide))
    have z10 : (cpOf s q == 40) = false := beq_eq_false_iff_ne.2 (HCP.out (40) (by decide))
    have z11 : (cpOf s q == 41) = false := beq_eq_false_iff_ne.2 (HCP.out (41) (by decide))
    have z12 : (cpOf s q == 91) = false := beq_eq_false_iff_ne.2 (HCP.out (91) (by decide))
    have z13 : (cpOf s q == 93) = false := beq_eq_false_iff_ne.2 (HCP.out (93) (by decide))
    have z14 : (cpOf s q == 123) = false := beq_eq_false_iff_ne.2 (HCP.out (123) (by decide))
    have z15 : (cpOf s q == 125) = false := beq_eq_false_iff_ne.2 (HCP.out (125) (by decide))
    have z16 : (cpOf s q == 44) = false := beq_eq_false_iff_ne.2 (HCP.out (44) (by decide))
    have z17 : (cpOf s q == 58) = false := beq_eq_false_iff_ne.2 (HCP.out (58) (by decide))
    have z18 : (cpOf s q == 59) = false := beq_eq_false_iff_ne.2 (HCP.out (59) (by decide))
    have z19 : (cpOf s q == 43) = false := beq_eq_false_iff_ne.2 (HCP.out (43) (by decide))
    have z20 : (cpOf s q == 46) = false := beq_eq_false_iff_ne.2 (HCP.out (46) (by decide))
    have z21 : (cpOf s q == 45) = false := beq_eq_false_iff_ne.2 (HCP.out (45) (by decide))
    have z22 : (cpOf s q == 60) = false := beq_eq_false_iff_ne.2 (HCP.out (60) (by decide))
    have z23 : (cpOf s q == 64) = false := beq_eq_false_iff_ne.2 (HCP.out (64) (by decide))
    have z24 : (cpOf s q == 92) = false := beq_eq_false_iff_ne.2 (HCP.out (92) (by decide))
    have z25 : (cpOf s q == 48) = false := beq_eq_false_iff_ne.2 (HCP.out (48) (by decide))
    have z26 : (cpOf s q == 49) = false := beq_eq_false_iff_ne.2 (HCP.out (49) (by decide))
    have z27 : (cpOf s q == 50) = false := beq_eq_false_iff_ne.2 (HCP.out (50) (by decide))
    have z28 : (cpOf s q == 51) = false := beq_eq_false_iff_ne.2 (HCP.out (51) (by decide))
    have z29 : (cpOf s q == 52) = false := beq_eq_false_iff_ne.2 (HCP.out (52) (by decide))
    have z30 : (cpOf s q == 53) = false := beq_eq_false_iff_ne.2 (HCP.out (53) (by decide))
    have z31 : (cpOf s q == 54) = false := beq_eq_false_iff_ne.2 (HCP.out (54) (by decide))
    have z32 : (cpOf s q == 55) = false := beq_eq_false_iff_ne.2 (HCP.out (55) (by decide))
    have z33 : (cpOf s q == 56) = false := beq_eq_false_iff_ne.2 (HCP.out (56) (by decide))
    have z34 : (cpOf s q == 57) = false := beq_eq_false_iff_ne.2 (HCP.out (57) (by decide))
    have z35 : (cpOf s q == 62) = false := beq_eq_false_iff_ne.2 (HCP.out (62) (by decide))
    have z36 : (cpOf s q == 126) = false := beq_eq_false_iff_ne.2 (HCP.out (126) (by decide))
    have z37 : (cpOf s q == 38) = false := beq_eq_false_iff_ne.2 (HCP.out (38) (by decide))
    have z38 : (cpOf s q == 42) = false := beq_eq_false_iff_ne.2 (HCP.out (42) (by decide))
    have z39 : (cpOf s q == 124) = false := beq_eq_false_iff_ne.2 (HCP.out (124) (by decide))
    have z40 : (cpOf s q == 33) = false := beq_eq_false_iff_ne.2 (HCP.out (33) (by decide))
    have z41 : (cpOf s q == 61) = false := beq_eq_false_iff_ne.2 (HCP.out (61) (by decide))
    have z42 : (cpOf s q == 94) = false := beq_eq_false_iff_ne.2 (HCP.out (94) (by decide))
    have z43 : (cpOf s q == 36) = false := beq_eq_false_iff_ne.2 (HCP.out (36) (by decide))
    clear HCP
    go_wp2_with (first | (go_at_call 74; refine (start74 (cpOf s q) _).mono ?_; rintro e w9 ⟨rfl, rfl⟩; rw [HNS1.out]))
    clear c35 c39 c40 fz z0 z1 z2 z3 z4 z5 z6 z7 z8 z9 z10 z11 z12 z13 z14 z15 z16 z17 z18 z19 z20 z21 z22 z23 z24 z25 z26 z27 z28 z29 z30 z31 z32 z33 z34 z35 z36 z37 z38 z39 z40 z41 z42 z43
    refine (like72 g u r0 r1 s q 0 0 0 _ HW.out.at_ hq HNB.out HNU.out HW.out.tb hg HW.out.hw hs).mono ?_
    rintro e w2 ⟨he, h2, f2⟩
    obtain ⟨E, K, hR⟩ : ∃ E K, idl s q = (E, K) := by cases idl s q with | mk a b => exact ⟨a, b, rfl⟩
    rw [hR] at he h2
    have HR := Lib.hid (show idt s q = (E, 0, K, 0) by unfold idt; rw [hR])
    clear hR
    dsimp only at he h2
    subst he
    have H2 := Lib.hid h2
    have HF2 := Lib.hid (Fr.trans HW.out.fr f2)
    have hcl := h2.cl
    have c39 := hcl.c39
    have fz := hcl.fz
    clear h2 hcl HW f2
    go_wp2_with fail
    go_end0
    unfold Nxt
    rw [HR.out]
    exact ⟨rfl, u, r0, r1, At.kind H2.out _, HF2.out.setc 39 _⟩
end Go.Proofs.YtcljenkgbbbfpaaDoor.Zq
