/-
  Proved: next at the end of the text and at single characters, with or without a comment ahead. Conditions: those that each theorem names as its
  hypotheses, and no others.
-/
import Derived.Test.YtcljenkgbbbfpaaDoorZh
import Derived.Test.YtcljenkgbbbfpaaDoorZk
import Derived.Deep.DeepCutAuto
import Derived.BigQuiet
namespace Go.Proofs.YtcljenkgbbbfpaaDoor.Zl
open Go.RowKit Go.PlainAid Str Mem De Lu Dw Cu Rws Za Zb Zc Zd Ze Zf Zg Zh Zk
set_option linter.unusedVariables false
set_option linter.unusedSimpArgs false
/-- The token that began at q was read: its end, unit, kind, flags. -/
def Nxt (g : Nat) (s : ByteArray) (q : Nat) (t : Nat × Int × Int × Int) (w : World) (e : Ending) (w' : World) : Prop :=
  e = .returned (.tuple #[]) ∧ ∃ u r0 r1, At g u r0 r1 s t.1 (q : Int) t.2.1 t.2.2.1 t.2.2.2 w' ∧ Fr g w w'
/-- The lexer stands at q, the last token ends there; or a comment that ends at q lies ahead. -/
def Bef (g : Nat) (s : ByteArray) (q : Nat) (w wx : World) : Prop :=
  (Fr g w wx ∧ ∃ (u : ByteArray) (r0 r1 : Int) (ts : Nat) (un kd fl : Int), ts ≤ q ∧ At g u r0 r1 s q ts un kd fl wx) ∨
  (Fr g w wx ∧ ∃ (u : ByteArray) (r0 r1 : Int) (n : Nat) (un kd fl : Int), At g u r0 r1 s 0 0 un kd fl wx ∧ Cm s n ∧ q = n + 2 ∧ bt s 0 = 47 ∧ bt s 1 = 42)
/-- Before next. -/
structure Pc (g : Nat) (s : ByteArray) (q : Nat) (w wx : World) : Prop where
  bef : Bef g s q w wx
  le : q ≤ s.size
  sz : s.size ≤ 1048580
  tb : Lib.Utf8Tabs 1 2 w
  hw : 3 ≤ w.heap.size
  hg : 3 ≤ g
  nb : NoB s q
  nu : NoU s q
  ns : ∀ j, q ≤ j → bt s j ≠ 47
/-- The lexer's place, read off the world. -/
def curOf (g : Nat) (w : World) : Nat := match w.cell? ⟨g, 33, none⟩ with
  | some (.int _ n) => n.toNat
  | _ => 0
theorem cur_at {g : Nat} {u : ByteArray} {r0 r1 : Int} {s : ByteArray} {q : Nat} {ts un kd fl : Int} {w : World} (h : At g u r0 r1 s q ts un kd fl w) : curOf g w = q + wdOf s q := by
  unfold curOf
  rw [h.cl.c33]
  exact Int.toNat_natCast _
theorem _root_.Go.Proofs.YtcljenkgbbbfpaaDoor.Za.At.tok0 {g : Nat} {u : ByteArray} {r0 r1 : Int} {s : ByteArray} {ts : Int} {un kd fl : Int} {w : World} (h : At g u r0 r1 s 0 ts un kd fl w) : At g u r0 r1 s 0 0 0 0 0 (((((w.setCell ⟨g, 36, none⟩ (.int .i32 0)).setCell ⟨g, 37, none⟩ (.int .i32 0)).setCell ⟨g, 38, none⟩ (.int .u16 0)).setCell ⟨g, 39, none⟩ (.int .u8 0)).setCell ⟨g, 40, none⟩ (.int .u8 0)) := At.tok h
theorem _root_.Go.Proofs.YtcljenkgbbbfpaaDoor.Zf.Wh.drewN {g : Nat} {u : ByteArray} {r0 r1 : Int} {s : ByteArray} {ts un kd fl : Int} {w : World} {k : Nat} {wx : World} (h : Wh g u r0 r1 s ts un kd fl w k wx) (hg : 3 ≤ g) (n : Nat) : Wh g u r0 r1 s ts un kd fl w k (wx.drewN n) :=
  ⟨h.at_.drewN n, ⟨h.fr.os, h.fr.tape, h.fr.output, h.fr.size, h.fr.block⟩, h.le, tabs_fr h.tb hg h.hw (g := g) ⟨rfl, rfl, rfl, Nat.le_refl _, fun _ _ _ => rfl⟩, h.hw⟩
theorem _root_.Go.Proofs.YtcljenkgbbbfpaaDoor.Zf.Wh.bel {g : Nat} {u : ByteArray} {r0 r1 : Int} {s : ByteArray} {ts un kd fl : Int} {w : World} {k : Nat} {wx w' : World} (h : Wh g u r0 r1 s ts un kd fl w k wx) (hb : Below wx.heap.size wx w') : Wh g u r0 r1 s ts un kd fl w k w' :=
  ⟨h.at_.below hb, h.fr.bel hb, h.le, tabs_below h.tb h.hw hb, Nat.le_trans h.hw hb.size⟩
theorem _root_.Go.Proofs.YtcljenkgbbbfpaaDoor.Zf.Wh.go {g : Nat} {u u' : ByteArray} {r0 r1 r0' r1' : Int} {s : ByteArray} {ts un kd fl un' kd' fl' : Int} {w : World} {k k' : Nat} {wx w' : World} (h : Wh g u r0 r1 s ts un kd fl w k wx) (hg : 3 ≤ g) (a : At g u' r0' r1' s k' ts un' kd' fl' w') (f : Fr g wx w') (hk : k' ≤ s.size) : Wh g u' r0' r1' s ts un' kd' fl' w k' w' :=
  ⟨a, Fr.trans h.fr f, hk, tabs_fr h.tb hg h.hw f, Nat.le_trans h.hw f.size⟩
theorem _root_.Go.Proofs.YtcljenkgbbbfpaaDoor.Zf.Wh.kind {g : Nat} {u : ByteArray} {r0 r1 : Int} {s : ByteArray} {ts un kd fl : Int} {w : World} {k : Nat} {wx : World} (h : Wh g u r0 r1 s ts un kd fl w k wx) (hg : 3 ≤ g) (x : Int) : Wh g u r0 r1 s ts un x fl w k (wx.setCell ⟨g, 39, none⟩ (.int .u8 x)) :=
  h.go hg (h.at_.kind x) ((Fr.refl g wx).setc 39 _) h.le
theorem _root_.Go.Proofs.YtcljenkgbbbfpaaDoor.Zf.Wh.flag {g : Nat} {u : ByteArray} {r0 r1 : Int} {s : ByteArray} {ts un kd fl : Int} {w : World} {k : Nat} {wx : World} (h : Wh g u r0 r1 s ts un kd fl w k wx) (hg : 3 ≤ g) (x : Int) : Wh g u r0 r1 s ts un kd x w k (wx.setCell ⟨g, 40, none⟩ (.int .u8 x)) :=
  h.go hg (h.at_.flag x) ((Fr.refl g wx).setc 40 _) h.le
set_option maxRecDepth 100000 in
set_option maxHeartbeats 8000000 in
theorem nxE (g : Nat) (s : ByteArray) (q : Nat) (w wx : World) (hP : Pc g s q w wx) (hcp : cpOf s q = -1) :
    Calls Tryd.prog 51 #[.pointer (some ⟨g, 0, none⟩)] wx (Nxt g s q (q, 0, 0, 0) w) := by
  obtain ⟨hbef, hq, hs, hT, hw, hg, hnb, hnu, hns⟩ := hP
  have HNB := Lib.hid hnb
  have HNU := Lib.hid hnu
  have HNS := Lib.hid hns
  have HT := Lib.hid hT
  have tq0 : (0 : Int) ≤ (q : Int) := by omega
  have tq1 : (q : Int) ≤ 2000000 := by omega
  have HCP := Lib.hid hcp
  clear hT hnb hnu hns hcp
  rcases hbef with ⟨hf, u, r0, r1, ts, un, kd, fl, hts, ha⟩ | ⟨hf, u0, x0, x1, n, un, kd, fl, ha, hc, hqn, h47, h42⟩
  · go_enter Tryd.func51, Tryd.ntmps51
    refine wp_block (wp_loop_rounds 1 ?_)
    rw [rounds_succ]
    refine wp_block ?_
    have hcl := ha.cl
    have c36 := hcl.c36
    have c37 := hcl.c37
    have fz := hcl.fz
    have HA := Lib.hid ha
    have HF := Lib.hid hf
    have i0 : (0 : Int) ≤ (ts : Int) := by omega
    have i1 : (ts : Int) ≤ 100000000 := by omega
    have i2 : (0 : Int) ≤ (q : Int) - (ts : Int) := by omega
    have i3 : (q : Int) - (ts : Int) ≤ 100000000 := by omega
    have i4 : (ts : Int) + ((q : Int) - (ts : Int)) = (q : Int) := by omega
    have HI4 := Lib.hid i4
    clear ha hf hcl i4 hts
    go_wp2_with fail
    refine (end44 (ts : Int) ((q : Int) - (ts : Int)) i0 i1 i2 i3 _).mono ?_
    rintro e w1 ⟨rfl, hb1⟩
    rw [HI4.out]
    have HA1 := Lib.hid (HA.out.below hb1)
    have HF1 := Lib.hid (HF.out.bel hb1)
    clear c36 c37 fz i0 i1 i2 i3 HA HF hb1 HI4
    have hcl := HA1.out.cl
    have c36 := hcl.c36
    have c37 := hcl.c37
    have c38 := hcl.c38
    have c39 := hcl.c39
    have c40 := hcl.c40
    have fz := hcl.fz
    clear hcl
    go_upto_region 1 with fail
    have hA2 := At.tok HA1.out
    have hF2 := ((((HF1.out.setc 36 (.int .i32 (q : Int))).setc 37 (.int .i32 0)).setc 38 (.int .u16 0)).setc 39 (.int .u8 0)).setc 40 (.int .u8 0)
    clear c36 c37 c38 c39 c40 fz HA1 HF1
    generalize World.setCell _ _ _ = W at hA2 hF2 ⊢
    have HW : Hid (Wh g u r0 r1 s q 0 0 0 w q W) := Lib.hid ⟨hA2, hF2, hq, tabs_fr HT.out hg hw hF2, Nat.le_trans hw hF2.size⟩
    have hcl := hA2.cl
    have c35 := hcl.c35
    have c39 := hcl.c39
    have c40 := hcl.c40
    have fz := hcl.fz
    clear hcl hA2 hF2 HT
    rw [HCP.out] at c35
    go_wp2_with fail
    go_end0
    exact ⟨rfl, u, r0, r1, At.kind HW.out.at_ 0, HW.out.fr.setc 39 _⟩
  · go_enter Tryd.func51, Tryd.ntmps51
    refine wp_block (wp_loop_rounds 2 ?_)
    rw [rounds_succ]
    refine wp_block ?_
    have hcl := ha.cl
    have c36 : wx.cell? ⟨g, 36, none⟩ = some (.int .i32 0) := hcl.c36
    have c37 : wx.cell? ⟨g, 37, none⟩ = some (.int .i32 0) := hcl.c37
    have fz := hcl.fz
    have HA := Lib.hid ha
    have HF := Lib.hid hf
    have HC := Lib.hid hc
    have HN := Lib.hid hqn
    have HC0 := Lib.hid (cp_of (s := s) (k := 0) (by have := hc.sz; omega) (by rw [h47]; decide))
    have HC1 := Lib.hid (cp_of (s := s) (k := 1) (by have := hc.sz; omega) (by rw [h42]; decide))
    rw [h47] at HC0
    rw [h42] at HC1
    clear hcl ha hf hc hqn h47 h42
    go_wp2_with fail
    refine (end44 0 0 (by omega) (by omega) (by omega) (by omega) _).mono ?_
    rintro e w1 ⟨rfl, hb1⟩
    rw [Int.add_zero]
    have HA1 := Lib.hid (HA.out.below hb1)
    have HF1 := Lib.hid (HF.out.bel hb1)
    clear c36 c37 fz HA HF hb1
    have hcl := HA1.out.cl
    have c36 := hcl.c36
    have c37 := hcl.c37
    have c38 := hcl.c38
    have c39 := hcl.c39
    have c40 := hcl.c40
    have fz := hcl.fz
    clear hcl
    go_upto_region 1 with fail
    have hA2 := Za.At.tok0 HA1.out
    have hF2 := ((((HF1.out.setc 36 (.int .i32 0)).setc 37 (.int .i32 0)).setc 38 (.int .u16 0)).setc 39 (.int .u8 0)).setc 40 (.int .u8 0)
    clear c36 c37 c38 c39 c40 fz HA1 HF1
    generalize World.setCell _ _ _ = W at hA2 hF2 ⊢
    have HW : Hid (Wh g u0 x0 x1 s 0 0 0 0 w 0 W) := Lib.hid ⟨hA2, hF2, Nat.zero_le _, tabs_fr HT.out hg hw hF2, Nat.le_trans hw hF2.size⟩
    have c35 : W.cell? ⟨g, 35, none⟩ = some (.int .i32 47) := by rw [← HC0.out.1]; exact hA2.cl.c35
    clear hA2 hF2
    go_wp2_with fail
    refine (HW.out.step hg hs (by decide) (by decide)).mono ?_
    rintro e w2 ⟨rfl, h2⟩
    rw [HC0.out.2, Nat.zero_add] at h2
    have H2 := Lib.hid h2
    have c35 : w2.cell? ⟨g, 35, none⟩ = some (.int .i32 42) := by rw [← HC1.out.1]; exact h2.at_.cl.c35
    clear h2 HW
    go_wp2_with fail
    refine (H2.out.step hg hs (by decide) (by decide)).mono ?_
    rintro e w3 ⟨rfl, h3⟩
    rw [HC1.out.2] at h3
    have H3 : Hid (Wh g u0 x0 x1 s 0 0 0 0 w 2 w3) := Lib.hid h3
    have c36 : w3.cell? ⟨g, 36, none⟩ = some (.int .i32 0) := h3.at_.cl.c36
    have c37 : w3.cell? ⟨g, 37, none⟩ = some (.int .i32 2) := h3.at_.cl.c37
    clear h3 H2 c35
    go_wp2_with fail
    refine (com64 g u0 x0 x1 s n 0 0 0 _ H3.out.at_ HC.out H3.out.tb hg H3.out.hw hs).mono ?_
    rintro e wi ⟨rfl, u, r0, r1, ha4, hf4⟩
    obtain ⟨ts, hts0⟩ : ∃ t : Nat, t = 0 := ⟨_, rfl⟩
    have HA : Hid (At g u r0 r1 s q (ts : Int) 0 0 0 wi) := Lib.hid (by rw [hts0, HN.out]; exact ha4)
    have HF := Lib.hid (Fr.trans H3.out.fr hf4)
    have hts : ts ≤ q := by omega
    clear ha4 hf4 c36 c37 H3 HC HN HC0 HC1 hts0
    go_wp2_with fail
    rw [rounds_succ]
    refine wp_block ?_
    have ha := HA.out
    have hf := HF.out
    clear HA HF
    have hcl := ha.cl
    have c36 := hcl.c36
    have c37 := hcl.c37
    have fz := hcl.fz
    have HA := Lib.hid ha
    have HF := Lib.hid hf
    have i0 : (0 : Int) ≤ (ts : Int) := by omega
    have i1 : (ts : Int) ≤ 100000000 := by omega
    have i2 : (0 : Int) ≤ (q : Int) - (ts : Int) := by omega
    have i3 : (q : Int) - (ts : Int) ≤ 100000000 := by omega
    have i4 : (ts : Int) + ((q : Int) - (ts : Int)) = (q : Int) := by omega
    have HI4 := Lib.hid i4
    clear ha hf hcl i4 hts
    go_wp2_with fail
    refine (end44 (ts : Int) ((q : Int) - (ts : Int)) i0 i1 i2 i3 _).mono ?_
    rintro e w1 ⟨rfl, hb1⟩
    rw [HI4.out]
    have HA1 := Lib.hid (HA.out.below hb1)
    have HF1 := Lib.hid (HF.out.bel hb1)
    clear c36 c37 fz i0 i1 i2 i3 HA HF hb1 HI4
    have hcl := HA1.out.cl
    have c36 := hcl.c36
    have c37 := hcl.c37
    have c38 := hcl.c38
    have c39 := hcl.c39
    have c40 := hcl.c40
    have fz := hcl.fz
    clear hcl
    go_upto_region 1 with fail
    have hA2 := At.tok HA1.out
    have hF2 := ((((HF1.out.setc 36 (.int .i32 (q : Int))).setc 37 (.int .i32 0)).setc 38 (.int .u16 0)).setc 39 (.int .u8 0)).setc 40 (.int .u8 0)
    clear c36 c37 c38 c39 c40 fz HA1 HF1
    generalize World.setCell _ _ _ = W at hA2 hF2 ⊢
    have HW : Hid (Wh g u r0 r1 s q 0 0 0 w q W) := Lib.hid ⟨hA2, hF2, hq, tabs_fr HT.out hg hw hF2, Nat.le_trans hw hF2.size⟩
    have hcl := hA2.cl
    have c35 := hcl.c35
    have c39 := hcl.c39
    have c40 := hcl.c40
    have fz := hcl.fz
    clear hcl hA2 hF2 HT
    rw [HCP.out] at c35
    go_wp2_with fail
    go_end0
    exact ⟨rfl, u, r0, r1, At.kind HW.out.at_ 0, HW.out.fr.setc 39 _⟩
set_option maxRecDepth 100000 in
set_option maxHeartbeats 8000000 in
theorem nxS1 (g : Nat) (s : ByteArray) (q : Nat) (w wx : World) (hP : Pc g s q w wx) (hcp : cpOf s q = 125 ∨ cpOf s q = 93 ∨ cpOf s q = 41 ∨ cpOf s q = 44 ∨ cpOf s q = 58 ∨ cpOf s q = 59) :
    Calls Tryd.prog 51 #[.pointer (some ⟨g, 0, none⟩)] wx (Nxt g s q (q + wdOf s q, 0, sk (cpOf s q), 0) w) := by
  obtain ⟨hbef, hq, hs, hT, hw, hg, hnb, hnu, hns⟩ := hP
  have HNB := Lib.hid hnb
  have HNU := Lib.hid hnu
  have HNS := Lib.hid hns
  have HT := Lib.hid hT
  have tq0 : (0 : Int) ≤ (q : Int) := by omega
  have tq1 : (q : Int) ≤ 2000000 := by omega
  have HCP := Lib.hid hcp
  clear hT hnb hnu hns hcp
  rcases hbef with ⟨hf, u, r0, r1, ts, un, kd, fl, hts, ha⟩ | ⟨hf, u0, x0, x1, n, un, kd, fl, ha, hc, hqn, h47, h42⟩
  · go_enter Tryd.func51, Tryd.ntmps51
    refine wp_block (wp_loop_rounds 1 ?_)
    rw [rounds_succ]
    refine wp_block ?_
    have hcl := ha.cl
    have c36 := hcl.c36
    have c37 := hcl.c37
    have fz := hcl.fz
    have HA := Lib.hid ha
    have HF := Lib.hid hf
    have i0 : (0 : Int) ≤ (ts : Int) := by omega
    have i1 : (ts : Int) ≤ 100000000 := by omega
    have i2 : (0 : Int) ≤ (q : Int) - (ts : Int) := by omega
    have i3 : (q : Int) - (ts : Int) ≤ 100000000 := by omega
    have i4 : (ts : Int) + ((q : Int) - (ts : Int)) = (q : Int) := by omega
    have HI4 := Lib.hid i4
    clear ha hf hcl i4 hts
    go_wp2_with fail
    refine (end44 (ts : Int) ((q : Int) - (ts : Int)) i0 i1 i2 i3 _).mono ?_
    rintro e w1 ⟨rfl, hb1⟩
    rw [HI4.out]
    have HA1 := Lib.hid (HA.out.below hb1)
    have HF1 := Lib.hid (HF.out.bel hb1)
    clear c36 c37 fz i0 i1 i2 i3 HA HF hb1 HI4
    have hcl := HA1.out.cl
    have c36 := hcl.c36
    have c37 := hcl.c37
    have c38 := hcl.c38
    have c39 := hcl.c39
    have c40 := hcl.c40
    have fz := hcl.fz
    clear hcl
    go_upto_region 1 with fail
    have hA2 := At.tok HA1.out
    have hF2 := ((((HF1.out.setc 36 (.int .i32 (q : Int))).setc 37 (.int .i32 0)).setc 38 (.int .u16 0)).setc 39 (.int .u8 0)).setc 40 (.int .u8 0)
    clear c36 c37 c38 c39 c40 fz HA1 HF1
    generalize World.setCell _ _ _ = W at hA2 hF2 ⊢
    have HW : Hid (Wh g u r0 r1 s q 0 0 0 w q W) := Lib.hid ⟨hA2, hF2, hq, tabs_fr HT.out hg hw hF2, Nat.le_trans hw hF2.size⟩
    have hcl := hA2.cl
    have c35 := hcl.c35
    have c39 := hcl.c39
    have c40 := hcl.c40
    have fz := hcl.fz
    clear hcl hA2 hF2 HT
    rcases HCP.out with e | e | e | e | e | e
    · clear HCP
      rw [e] at c35
      have HK := Lib.hid (show sk (cpOf s q) = 6 by rw [e]; decide)
      clear e
      go_wp2_with fail
      clear c35 c39 c40 fz
      refine (HW.out.step hg hs tq0 tq1).mono ?_
      rintro e w2 ⟨rfl, h2⟩
      have H2 := Lib.hid h2
      have hcl := h2.at_.cl
      have c39 := hcl.c39
      have fz := hcl.fz
      clear h2 hcl HW
      go_wp2_with fail
      go_end0
      rw [HK.out]
      exact ⟨rfl, u, r0, r1, At.kind H2.out.at_ 6, H2.out.fr.setc 39 _⟩
    · clear HCP
      rw [e] at c35
      have HK := Lib.hid (show sk (cpOf s q) = 7 by rw [e]; decide)
      clear e
      go_wp2_with fail
      clear c35 c39 c40 fz
      refine (HW.out.step hg hs tq0 tq1).mono ?_
      rintro e w2 ⟨rfl, h2⟩
      have H2 := Lib.hid h2
      have hcl := h2.at_.cl
      have c39 := hcl.c39
      have fz := hcl.fz
      clear h2 hcl HW
      go_wp2_with fail
      go_end0
      rw [HK.out]
      exact ⟨rfl, u, r0, r1, At.kind H2.out.at_ 7, H2.out.fr.setc 39 _⟩
    · clear HCP
      rw [e] at c35
      have HK := Lib.hid (show sk (cpOf s q) = 8 by rw [e]; decide)
      clear e
      go_wp2_with fail
      clear c35 c39 c40 fz
      refine (HW.out.step hg hs tq0 tq1).mono ?_
      rintro e w2 ⟨rfl, h2⟩
      have H2 := Lib.hid h2
      have hcl := h2.at_.cl
      have c39 := hcl.c39
      have fz := hcl.fz
      clear h2 hcl HW
      go_wp2_with fail
      go_end0
      rw [HK.out]
      exact ⟨rfl, u, r0, r1, At.kind H2.out.at_ 8, H2.out.fr.setc 39 _⟩
    · clear HCP
      rw [e] at c35
      have HK := Lib.hid (show sk (cpOf s q) = 10 by rw [e]; decide)
      clear e
      go_wp2_with fail
      clear c35 c39 c40 fz
      refine (HW.out.step hg hs tq0 tq1).mono ?_
      rintro e w2 ⟨rfl, h2⟩
      have H2 := Lib.hid h2
      have hcl := h2.at_.cl
      have c39 := hcl.c39
      have fz := hcl.fz
      clear h2 hcl HW
      go_wp2_with fail
      go_end0
      rw [HK.out]
      exact ⟨rfl, u, r0, r1, At.kind H2.out.at_ 10, H2.out.fr.setc 39 _⟩
    · clear HCP
      rw [e] at c35
      have HK := Lib.hid (show sk (cpOf s q) = 9 by rw [e]; decide)
      clear e
      go_wp2_with fail
      clear c35 c39 c40 fz
      refine (HW.out.step hg hs tq0 tq1).mono ?_
      rintro e w2 ⟨rfl, h2⟩
      have H2 := Lib.hid h2
      have hcl := h2.at_.cl
      have c39 := hcl.c39
      have fz := hcl.fz
      clear h2 hcl HW
      go_wp2_with fail
      go_end0
      rw [HK.out]
      exact ⟨rfl, u, r0, r1, At.kind H2.out.at_ 9, H2.out.fr.setc 39 _⟩
    · clear HCP
      rw [e] at c35
      have HK := Lib.hid (show sk (cpOf s q) = 35 by rw [e]; decide)
      clear e
      go_wp2_with fail
      clear c35 c39 c40 fz
      refine (HW.out.step hg hs tq0 tq1).mono ?_
      rintro e w2 ⟨rfl, h2⟩
      have H2 := Lib.hid h2
      have hcl := h2.at_.cl
      have c39 := hcl.c39
      have fz := hcl.fz
      clear h2 hcl HW
      go_wp2_with fail
      go_end0
      rw [HK.out]
      exact ⟨rfl, u, r0, r1, At.kind H2.out.at_ 35, H2.out.fr.setc 39 _⟩
  · go_enter Tryd.func51, Tryd.ntmps51
    refine wp_block (wp_loop_rounds 2 ?_)
    rw [rounds_succ]
    refine wp_block ?_
    have hcl := ha.cl
    have c36 : wx.cell? ⟨g, 36, none⟩ = some (.int .i32 0) := hcl.c36
    have c37 : wx.cell? ⟨g, 37, none⟩ = some (.int .i32 0) := hcl.c37
    have fz := hcl.fz
    have HA := Lib.hid ha
    have HF := Lib.hid hf
    have HC := Lib.hid hc
    have HN := Lib.hid hqn
    have HC0 := Lib.hid (cp_of (s := s) (k := 0) (by have := hc.sz; omega) (by rw [h47]; decide))
    have HC1 := Lib.hid (cp_of (s := s) (k := 1) (by have := hc.sz; omega) (by rw [h42]; decide))
    rw [h47] at HC0
    rw [h42] at HC1
    clear hcl ha hf hc hqn h47 h42
    go_wp2_with fail
    refine (end44 0 0 (by omega) (by omega) (by omega) (by omega) _).mono ?_
    rintro e w1 ⟨rfl, hb1⟩
    rw [Int.add_zero]
    have HA1 := Lib.hid (HA.out.below hb1)
    have HF1 := Lib.hid (HF.out.bel hb1)
    clear c36 c37 fz HA HF hb1
    have hcl := HA1.out.cl
    have c36 := hcl.c36
    have c37 := hcl.c37
    have c38 := hcl.c38
    have c39 := hcl.c39
    have c40 := hcl.c40
    have fz := hcl.fz
    clear hcl
    go_upto_region 1 with fail
    have hA2 := Za.At.tok0 HA1.out
    have hF2 := ((((HF1.out.setc 36 (.int .i32 0)).setc 37 (.int .i32 0)).setc 38 (.int .u16 0)).setc 39 (.int .u8 0)).setc 40 (.int .u8 0)
    clear c36 c37 c38 c39 c40 fz HA1 HF1
    generalize World.setCell _ _ _ = W at hA2 hF2 ⊢
    have HW : Hid (Wh g u0 x0 x1 s 0 0 0 0 w 0 W) := Lib.hid ⟨hA2, hF2, Nat.zero_le _, tabs_fr HT.out hg hw hF2, Nat.le_trans hw hF2.size⟩
    have c35 : W.cell? ⟨g, 35, none⟩ = some (.int .i32 47) := by rw [← HC0.out.1]; exact hA2.cl.c35
    clear hA2 hF2
    go_wp2_with fail
    refine (HW.out.step hg hs (by decide) (by decide)).mono ?_
    rintro e w2 ⟨rfl, h2⟩
    rw [HC0.out.2, Nat.zero_add] at h2
    have H2 := Lib.hid h2
    have c35 : w2.cell? ⟨g, 35, none⟩ = some (.int .i32 42) := by rw [← HC1.out.1]; exact h2.at_.cl.c35
    clear h2 HW
    go_wp2_with fail
    refine (H2.out.step hg hs (by decide) (by decide)).mono ?_
    rintro e w3 ⟨rfl, h3⟩
    rw [HC1.out.2] at h3
    have H3 : Hid (Wh g u0 x0 x1 s 0 0 0 0 w 2 w3) := Lib.hid h3
    have c36 : w3.cell? ⟨g, 36, none⟩ = some (.int .i32 0) := h3.at_.cl.c36
    have c37 : w3.cell? ⟨g, 37, none⟩ = some (.int .i32 2) := h3.at_.cl.c37
    clear h3 H2 c35
    go_wp2_with fail
    refine (com64 g u0 x0 x1 s n 0 0 0 _ H3.out.at_ HC.out H3.out.tb hg H3.out.hw hs).mono ?_
    rintro e wi ⟨rfl, u, r0, r1, ha4, hf4⟩
    obtain ⟨ts, hts0⟩ : ∃ t : Nat, t = 0 := ⟨_, rfl⟩
    have HA : Hid (At g u r0 r1 s q (ts : Int) 0 0 0 wi) := Lib.hid (by rw [hts0, HN.out]; exact ha4)
    have HF := Lib.hid (Fr.trans H3.out.fr hf4)
    have hts : ts ≤ q := by omega
    clear ha4 hf4 c36 c37 H3 HC HN HC0 HC1 hts0
    go_wp2_with fail
    rw [rounds_succ]
    refine wp_block ?_
    have ha := HA.out
    have hf := HF.out
    clear HA HF
    have hcl := ha.cl
    have c36 := hcl.c36
    have c37 := hcl.c37
    have fz := hcl.fz
    have HA := Lib.hid ha
    have HF := Lib.hid hf
    have i0 : (0 : Int) ≤ (ts : Int) := by omega
    have i1 : (ts : Int) ≤ 100000000 := by omega
    have i2 : (0 : Int) ≤ (q : Int) - (ts : Int) := by omega
    have i3 : (q : Int) - (ts : Int) ≤ 100000000 := by omega
    have i4 : (ts : Int) + ((q : Int) - (ts : Int)) = (q : Int) := by omega
    have HI4 := Lib.hid i4
    clear ha hf hcl i4 hts
    go_wp2_with fail
    refine (end44 (ts : Int) ((q : Int) - (ts : Int)) i0 i1 i2 i3 _).mono ?_
    rintro e w1 ⟨rfl, hb1⟩
    rw [HI4.out]
    have HA1 := Lib.hid (HA.out.below hb1)
    have HF1 := Lib.hid (HF.out.bel hb1)
    clear c36 c37 fz i0 i1 i2 i3 HA HF hb1 HI4
    have hcl := HA1.out.cl
    have c36 := hcl.c36
    have c37 := hcl.c37
    have c38 := hcl.c38
    have c39 := hcl.c39
    have c40 := hcl.c40
    have fz := hcl.fz
    clear hcl
    go_upto_region 1 with fail
    have hA2 := At.tok HA1.out
    have hF2 := ((((HF1.out.setc 36 (.int .i32 (q : Int))).setc 37 (.int .i32 0)).setc 38 (.int .u16 0)).setc 39 (.int .u8 0)).setc 40 (.int .u8 0)
    clear c36 c37 c38 c39 c40 fz HA1 HF1
    generalize World.setCell _ _ _ = W at hA2 hF2 ⊢
    have HW : Hid (Wh g u r0 r1 s q 0 0 0 w q W) := Lib.hid ⟨hA2, hF2, hq, tabs_fr HT.out hg hw hF2, Nat.le_trans hw hF2.size⟩
    have hcl := hA2.cl
    have c35 := hcl.c35
    have c39 := hcl.c39
    have c40 := hcl.c40
    have fz := hcl.fz
    clear hcl hA2 hF2 HT
    rcases HCP.out with e | e | e | e | e | e
    · clear HCP
      rw [e] at c35
      have HK := Lib.hid (show sk (cpOf s q) = 6 by rw [e]; decide)
      clear e
      go_wp2_with fail
      clear c35 c39 c40 fz
      refine (HW.out.step hg hs tq0 tq1).mono ?_
      rintro e w2 ⟨rfl, h2⟩
      have H2 := Lib.hid h2
      have hcl := h2.at_.cl
      have c39 := hcl.c39
      have fz := hcl.fz
      clear h2 hcl HW
      go_wp2_with fail
      go_end0
      rw [HK.out]
      exact ⟨rfl, u, r0, r1, At.kind H2.out.at_ 6, H2.out.fr.setc 39 _⟩
    · clear HCP
      rw [e] at c35
      have HK := Lib.hid (show sk (cpOf s q) = 7 by rw [e]; decide)
      clear e
      go_wp2_with fail
      clear c35 c39 c40 fz
      refine (HW.out.step hg hs tq0 tq1).mono ?_
      rintro e w2 ⟨rfl, h2⟩
      have H2 := Lib.hid h2
      have hcl := h2.at_.cl
      have c39 := hcl.c39
      have fz := hcl.fz
      clear h2 hcl HW
      go_wp2_with fail
      go_end0
      rw [HK.out]
      exact ⟨rfl, u, r0, r1, At.kind H2.out.at_ 7, H2.out.fr.setc 39 _⟩
    · clear HCP
      rw [e] at c35
      have HK := Lib.hid (show sk (cpOf s q) = 8 by rw [e]; decide)
      clear e
      go_wp2_with fail
      clear c35 c39 c40 fz
      refine (HW.out.step hg hs tq0 tq1).mono ?_
      rintro e w2 ⟨rfl, h2⟩
      have H2 := Lib.hid h2
      have hcl := h2.at_.cl
      have c39 := hcl.c39
      have fz := hcl.fz
      clear h2 hcl HW
      go_wp2_with fail
      go_end0
      rw [HK.out]
      exact ⟨rfl, u, r0, r1, At.kind H2.out.at_ 8, H2.out.fr.setc 39 _⟩
    · clear HCP
      rw [e] at c35
      have HK := Lib.hid (show sk (cpOf s q) = 10 by rw [e]; decide)
      clear e
      go_wp2_with fail
      clear c35 c39 c40 fz
      refine (HW.out.step hg hs tq0 tq1).mono ?_
      rintro e w2 ⟨rfl, h2⟩
      have H2 := Lib.hid h2
      have hcl := h2.at_.cl
      have c39 := hcl.c39
      have fz := hcl.fz
      clear h2 hcl HW
      go_wp2_with fail
      go_end0
      rw [HK.out]
      exact ⟨rfl, u, r0, r1, At.kind H2.out.at_ 10, H2.out.fr.setc 39 _⟩
    · clear HCP
      rw [e] at c35
      have HK := Lib.hid (show sk (cpOf s q) = 9 by rw [e]; decide)
      clear e
      go_wp2_with fail
      clear c35 c39 c40 fz
      refine (HW.out.step hg hs tq0 tq1).mono ?_
      rintro e w2 ⟨rfl, h2⟩
      have H2 := Lib.hid h2
      have hcl := h2.at_.cl
      have c39 := hcl.c39
      have fz := hcl.fz
      clear h2 hcl HW
      go_wp2_with fail
      go_end0
      rw [HK.out]
      exact ⟨rfl, u, r0, r1, At.kind H2.out.at_ 9, H2.out.fr.setc 39 _⟩
    · clear HCP
      rw [e] at c35
      have HK := Lib.hid (show sk (cpOf s q) = 35 by rw [e]; decide)
      clear e
      go_wp2_with fail
      clear c35 c39 c40 fz
      refine (HW.out.step hg hs tq0 tq1).mono ?_
      rintro e w2 ⟨rfl, h2⟩
      have H2 := Lib.hid h2
      have hcl := h2.at_.cl
      have c39 := hcl.c39
      have fz := hcl.fz
      clear h2 hcl HW
      go_wp2_with fail
      go_end0
      rw [HK.out]
      exact ⟨rfl, u, r0, r1, At.kind H2.out.at_ 35, H2.out.fr.setc 39 _⟩
end Go.Proofs.YtcljenkgbbbfpaaDoor.Zl
