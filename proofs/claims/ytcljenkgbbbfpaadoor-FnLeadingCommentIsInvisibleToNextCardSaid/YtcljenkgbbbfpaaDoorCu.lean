/-
  Contract of consumeEscape: it returns the rune of the escape and leaves the lexer behind it, as the plain function of De.lean says. Conditions: sizes; the two tables of unicode/utf8.
-/
import Derived.Test.YtcljenkgbbbfpaaDoorLu
import Derived.Test.YtcljenkgbbbfpaaDoorDx
import Derived.Test.YtcljenkgbbbfpaaDoorCe
namespace Go.Proofs.YtcljenkgbbbfpaaDoor.Cu
open Go.RowKit Go.PlainAid Str Mem Rws Lu De Dw
set_option linter.unusedVariables false
variable {B : Nat → Option Value}
/-- The lexer has read the code point at q; its token began at ts. -/
structure Ax (B : Nat → Option Value) (g : Nat) (s : ByteArray) (ts : Int) (q : Nat) (w : World) : Prop where
  hq : q ≤ s.size
  lx : ∃ nl cs, LX B w g s nl ((q + wdOf s q : Nat) : Int) (cpOf s q) ts ((q : Int) - ts) cs ∧ 0 ≤ nl ∧ nl ≤ (q : Int) + 1
theorem cp_in {s : ByteArray} {q : Nat} (h : q < s.size) : cpOf s q = rc s q ∧ wdOf s q = rw' s q := by
  have hp := rw_pos h
  unfold cpOf wdOf
  unfold rw' rd at hp
  rw [if_neg (by omega)]
  exact ⟨rfl, rfl⟩
theorem cp_out {s : ByteArray} {q : Nat} (h : s.size ≤ q) : cpOf s q = -1 ∧ wdOf s q = 0 := by
  have e := rd_end h
  unfold rd at e
  unfold cpOf wdOf
  rw [e]
  exact ⟨rfl, rfl⟩
theorem cp_rng (s : ByteArray) (q : Nat) (h : q ≤ s.size) : -1 ≤ cpOf s q ∧ cpOf s q ≤ 1114111 ∧ q + wdOf s q ≤ s.size := by
  by_cases hq : q < s.size
  · have := rd_bounds s q h
    rw [(cp_in hq).1, (cp_in hq).2]; omega
  · rw [(cp_out (by omega)).1, (cp_out (by omega)).2]; omega
theorem Ax.cell {g : Nat} {s : ByteArray} {ts : Int} {q : Nat} {w : World} (h : Ax B g s ts q w) : w.cell? ⟨g, 35, none⟩ = some (.int .i32 (cpOf s q)) := by
  obtain ⟨_, nl, cs, hl, _⟩ := h
  exact (hl.own.cell 35).trans hl.c35
theorem Ax.cell37 {g : Nat} {s : ByteArray} {ts : Int} {q : Nat} {w : World} (h : Ax B g s ts q w) : w.cell? ⟨g, 37, none⟩ = some (.int .i32 ((q : Int) - ts)) := by
  obtain ⟨_, nl, cs, hl, _⟩ := h
  exact (hl.own.cell 37).trans hl.c37
theorem Ax.cell36 {g : Nat} {s : ByteArray} {ts : Int} {q : Nat} {w : World} (h : Ax B g s ts q w) : w.cell? ⟨g, 36, none⟩ = some (.int .i32 ts) := by
  obtain ⟨_, nl, cs, hl, _⟩ := h
  exact (hl.own.cell 36).trans hl.c36
theorem Ax.below {g : Nat} {s : ByteArray} {ts : Int} {q : Nat} {w w' : World} (h : Ax B g s ts q w) (hb : Below w.heap.size w w') : Ax B g s ts q w' := by
  obtain ⟨a, nl, cs, hl, b⟩ := h
  exact ⟨a, nl, cs, hl.below hb, b⟩
theorem Ax.lt {g : Nat} {s : ByteArray} {ts : Int} {q : Nat} {w : World} (h : Ax B g s ts q w) : g < w.heap.size := by
  obtain ⟨_, nl, cs, hl, _⟩ := h
  exact hl.own.lt
theorem Fr.trans {g : Nat} {a b c : World} (h : Fr g a b) (h2 : Fr g b c) : Fr g a c :=
  ⟨h2.os.trans h.os, h2.tape.trans h.tape, h2.output.trans h.output, Nat.le_trans h.size h2.size, fun k hk hne => (h2.block k (Nat.lt_of_lt_of_le hk h.size) hne).trans (h.block k hk hne)⟩
theorem Fr.refl (g : Nat) (w : World) : Fr g w w := ⟨rfl, rfl, rfl, Nat.le_refl _, fun _ _ _ => rfl⟩
theorem tabs_fr {g : Nat} {w w' : World} (h : Lib.Utf8Tabs 1 2 w) (hg : 3 ≤ g) (hw : 3 ≤ w.heap.size) (f : Fr g w w') : Lib.Utf8Tabs 1 2 w' :=
  tabs_of h (B := 3) (by omega) ⟨f.os, f.tape, f.output, f.size, fun b hb => f.block b (by omega) (by omega)⟩
/-- One step. -/
theorem stepA (g : Nat) (s : ByteArray) (ts : Int) (q : Nat) (w : World) (h : Ax B g s ts q w) (hT : Lib.Utf8Tabs 1 2 w) (hw : 3 ≤ w.heap.size) (hs : s.size ≤ 1048576) (ht0 : 0 ≤ ts) (ht1 : ts ≤ 2000000) :
    Calls Tryd.prog 41 #[.pointer (some ⟨g, 0, none⟩)] w fun e w' => e = .returned (.tuple #[]) ∧ Ax B g s ts (q + wdOf s q) w' ∧ Fr g w w' := by
  obtain ⟨hq, nl, cs, hl, n0, n1⟩ := h
  have hb := cp_rng s q hq
  refine (step25 g s (q + wdOf s q) nl _ ts _ cs w hl hT hw hs hb.2.2 n0 (by omega) ht0 ht1).mono ?_
  rintro e w1 ⟨cs1, nl1, rfl, h1, h2, h3, h4, h5⟩
  refine ⟨rfl, ⟨hb.2.2, nl1, cs1, h1, by omega, ?_⟩, h5⟩
  by_cases hlt : q < s.size
  · have := rw_pos hlt
    have := (cp_in hlt).2
    omega
  · have e0 := (cp_out (s := s) (q := q) (by omega)).2
    have e1 : wdOf s (q + wdOf s q) = 0 := (cp_out (by omega)).2
    have := h4 e1
    omega
/-- The state of the loop over the digits. -/
structure Hy (B : Nat → Option Value) (g : Nat) (s : ByteArray) (ts : Int) (w : World) (m : Nat) (H0 : Int) (q n : Nat) (h : Int) (wr : World) : Prop where
  ax : Ax B g s ts q wr
  fr : Fr g w wr
  n5 : n ≤ 5
  h0 : 0 ≤ h
  h1 : h < 16 ^ (n + 1)
  run : hexRun s 5 m H0 = hexRun s (5 - n) q h
def Esc (B : Nat → Option Value) (g : Nat) (s : ByteArray) (ts : Int) (q : Nat) (w : World) (e : Ending) (w' : World) : Prop := e = .returned (.int .i32 (stepD s q).2) ∧ Ax B g s ts (stepD s q).1 w' ∧ Fr g w w'
theorem hex_cp {s : ByteArray} {q : Nat} : 0 ≤ hexV (cpOf s q) ↔ (q < s.size ∧ 0 ≤ hexV (rc s q)) := by
  by_cases h : q < s.size
  · rw [(cp_in h).1]; exact ⟨fun a => ⟨h, a⟩, fun a => a.2⟩
  · rw [(cp_out (by omega)).1]
    exact ⟨fun a => absurd a (by decide), fun a => absurd a.1 h⟩
theorem ws_cp {s : ByteArray} {q : Nat} : skipWs s q = if wsB (cpOf s q) = true then q + wdOf s q else q := by
  unfold skipWs
  by_cases h : q < s.size
  · rw [(cp_in h).1, (cp_in h).2]
    by_cases c : wsB (rc s q) = true
    · rw [if_pos ⟨h, c⟩, if_pos c]
    · rw [if_neg (fun x => c x.2), if_neg c]
  · rw [(cp_out (by omega)).1, if_neg (fun x => h x.1), if_neg (by decide)]
set_option maxRecDepth 100000 in
set_option maxHeartbeats 16000000 in
theorem escape (g : Nat) (s : ByteArray) (ts : Int) (q : Nat) (w : World) (h : Ax B g s ts q w) (hT : Lib.Utf8Tabs 1 2 w) (hg : 3 ≤ g) (hw : 3 ≤ w.heap.size) (hs : s.size ≤ 1048576) (ht0 : 0 ≤ ts) (ht1 : ts ≤ 2000000) (hlt : q < s.size) (h92 : bt s q = 92) :
    Calls Tryd.prog 42 #[.pointer (some ⟨g, 0, none⟩)] w (Esc B g s ts q w) := by
  obtain ⟨r1, r2⟩ := rd_asc hlt (by omega)
  have w1 : wdOf s q = 1 := (cp_in hlt).2.trans r2
  have HST := Lib.hid (show stepD s q = if q + 1 < s.size then (if 0 ≤ hexV (rc s (q + 1)) then (skipWs s (hexRun s 5 (q + 1 + rw' s (q + 1)) (hexV (rc s (q + 1)))).1, fixR (hexRun s 5 (q + 1 + rw' s (q + 1)) (hexV (rc s (q + 1)))).2) else (q + 1 + rw' s (q + 1), rc s (q + 1))) else (q + 1, 65533) by
    rw [Ce.step_def, r1, r2, h92, if_pos rfl])
  have HA := Lib.hid h
  have HT := Lib.hid hT
  clear h hT r1 r2 h92
  go_enter Tryd.func42, Tryd.ntmps42
  go_wp2_with fail
  refine (stepA g s ts q _ HA.out HT.out hw hs ht0 ht1).mono ?_
  rintro e w2 ⟨rfl, h2, f2⟩
  rw [w1] at h2
  have HA2 := Lib.hid h2
  have HF2 := Lib.hid f2
  have c2 := h2.cell
  have hz2 := f2.size
  have hb2 := cp_rng s (q + 1) h2.hq
  have hq2 := h2.hq
  clear h2 f2 HA w1
  go_wp2_with fail
  refine (isHex (cpOf s (q + 1)) (by omega) (by omega) _).mono ?_
  rintro e w3 ⟨rfl, rfl⟩
  by_cases hx : 0 ≤ hexV (cpOf s (q + 1))
  · obtain ⟨l1, x1⟩ := hex_cp.1 hx
    have I2 := Lib.hid (cp_in l1).2
    have hxv := hexV_range (rc s (q + 1))
    have hb3 := rd_bounds s (q + 1) hq2
    have HE := Lib.hid (HST.out.trans (by rw [if_pos l1, if_pos x1]))
    have e3 : hexB (cpOf s (q + 1)) = true := decide_eq_true hx
    have e4 : hexR (cpOf s (q + 1)) = hexV (rc s (q + 1)) := (if_pos hx).trans (by rw [(cp_in l1).1])
    rw [e3, e4]
    clear e3 e4 HST hx c2
    generalize hexV (rc s (q + 1)) = H0 at *
    go_wp2_with fail
    refine (stepA g s ts (q + 1) _ HA2.out (tabs_fr HT.out hg hw HF2.out) (Nat.le_trans hw hz2) hs ht0 ht1).mono ?_
    rintro e w4 ⟨rfl, h4, f4⟩
    rw [I2.out] at h4
    clear I2
    generalize q + 1 + rw' s (q + 1) = m2 at *
    have HH : Hid (Hy B g s ts w m2 H0 m2 0 H0 w4) := Lib.hid ⟨h4, Fr.trans HF2.out f4, by omega, x1, by omega, rfl⟩
    clear h4 f4 HA2 HF2
    go_wp2_with fail
    go_loopw [4, 6] (fun v4 v6 wr => ∃ (qq n : Nat) (hh : Int), v4 = .int .i64 hh ∧ v6 = .int .i64 n ∧ Hid (Hy B g s ts w m2 H0 qq n hh wr)) (fun _ v6 _ => 5 - (intOf v6).toNat)
    case atStart => exact ⟨m2, 0, H0, rfl, rfl, HH⟩
    case round =>
      clear HH
      obtain ⟨qq, n, hh, rfl, rfl, HH⟩ := hrel
      have hn5 := HH.out.n5
      have hh0 := HH.out.h0
      have hh1 := Dx.pow_le hn5 HH.out.h1
      have hqq := HH.out.ax.hq
      have hbq := cp_rng s qq hqq
      have c4 := HH.out.ax.cell
      have hzr := HH.out.fr.size
      by_cases hgo : n < 5 ∧ 0 ≤ hexV (cpOf s qq)
      · obtain ⟨g1, g2⟩ := hgo
        obtain ⟨l2, x2⟩ := hex_cp.1 g2
        have tn : decide ((n : Int) < 5) = true := decide_eq_true (by omega)
        have E3 : Hid (hexB (cpOf s qq) = true) := Lib.hid (decide_eq_true g2)
        have E4 : Hid (hexR (cpOf s qq) = hexV (rc s qq)) := Lib.hid ((if_pos g2).trans (by rw [(cp_in l2).1]))
        have I2 := Lib.hid (cp_in l2).2
        have hxv2 := hexV_range (rc s qq)
        go_wp2_with fail
        refine (isHex (cpOf s qq) (by omega) (by omega) _).mono ?_
        rintro e w5 ⟨rfl, rfl⟩
        rw [E3.out, E4.out]
        clear g2 c4
        go_wp2_with fail
        refine (stepA g s ts qq _ HH.out.ax (tabs_fr HT.out hg hw HH.out.fr) (Nat.le_trans hw hzr) hs ht0 ht1).mono ?_
        rintro e w6 ⟨rfl, h6, f6⟩
        rw [I2.out] at h6
        have HH6 : Hid (Hy B g s ts w m2 H0 (qq + rw' s qq) (n + 1) (hh * 16 + hexV (rc s qq)) w6) := Lib.hid ⟨h6, Fr.trans HH.out.fr f6, by omega, by omega, Dx.pow_step hh0 HH.out.h1 x2 hxv2.2, HH.out.run.trans (Dx.hexRun_go g1 l2 x2)⟩
        clear h6 f6 HH E3 E4 I2
        generalize hexV (rc s qq) = hv at *
        go_wp2_with fail
        go_roundw
        case rel => exact ⟨qq + rw' s qq, n + 1, _, rfl, by go_num, HH6⟩
        case measure => simp [intOf]; omega
      have hst : n = 5 ∨ s.size ≤ qq ∨ hexV (rc s qq) < 0 := by
        by_cases e : n = 5
        · exact .inl e
        · refine .inr ?_
          by_cases e2 : s.size ≤ qq
          · exact .inl e2
          · refine .inr ?_
            have : ¬ (qq < s.size ∧ 0 ≤ hexV (rc s qq)) := fun c => hgo ⟨by omega, hex_cp.2 c⟩
            omega
      have HRUN : Hid (hexRun s 5 m2 H0 = (qq, hh)) := Lib.hid (HH.out.run.trans (Dx.hexRun_halt hn5 hst))
      have HAX := Lib.hid HH.out.ax
      have HFR := Lib.hid HH.out.fr
      clear HH hst
      have HWS := Lib.hid (ws_cp (s := s) (q := qq))
      by_cases hn : n = 5
      · have tn : decide ((n : Int) < 5) = false := decide_eq_false (by omega)
        clear hgo hn
        cases hws : wsB (cpOf s qq)
        · have HSK : Hid (skipWs s qq = qq) := Lib.hid (by rw [HWS.out, hws]; rfl)
          have HW0 := Lib.hid hws
          clear hws
          obtain hf | hf | hf | hf | hf : hh = 0 ∨ (55296 ≤ hh ∧ hh ≤ 57343) ∨ 1114111 < hh ∨ (hh < 55296 ∧ hh ≠ 0) ∨ (57343 < hh ∧ hh ≤ 1114111) := by omega
          · have HFX : Hid (fixR hh = 65533) := Lib.hid (by subst hf; rfl)
            have k0 : (hh == 0) = true := beq_iff_eq.2 hf
            clear hf
            go_wp2_with fail
            refine (isWs (cpOf s qq) _).mono ?_
            rintro e w8 ⟨rfl, rfl⟩
            rw [HW0.out]
            go_wp2_with fail
            go_ret
            refine ⟨?_, ?_, HFR.out⟩
            · rw [HE.out]; simp only []; rw [HRUN.out]; simp only []; rw [HFX.out]; rfl
            · rw [HE.out]; simp only []; rw [HRUN.out]; simp only []; rw [HSK.out]; exact HAX.out
          · have HFX : Hid (fixR hh = 65533) := Lib.hid (by unfold fixR; rw [if_pos (by omega)])
            have k0 : (hh == 0) = false := beq_eq_false_iff_ne.2 (by omega)
            have k1 : decide (55296 ≤ hh) = true := decide_eq_true (by omega)
            have k2 : decide (hh ≤ 57343) = true := decide_eq_true (by omega)
            clear hf
            go_wp2_with fail
            refine (isWs (cpOf s qq) _).mono ?_
            rintro e w8 ⟨rfl, rfl⟩
            rw [HW0.out]
            go_wp2_with fail
            go_ret
            refine ⟨?_, ?_, HFR.out⟩
            · rw [HE.out]; simp only []; rw [HRUN.out]; simp only []; rw [HFX.out]; rfl
            · rw [HE.out]; simp only []; rw [HRUN.out]; simp only []; rw [HSK.out]; exact HAX.out
          · have HFX : Hid (fixR hh = 65533) := Lib.hid (by unfold fixR; rw [if_pos (by omega)])
            have k0 : (hh == 0) = false := beq_eq_false_iff_ne.2 (by omega)
            have k1 : decide (55296 ≤ hh) = true := decide_eq_true (by omega)
            have k2 : decide (hh ≤ 57343) = false := decide_eq_false (by omega)
            have k3 : decide (1114111 < hh) = true := decide_eq_true (by omega)
            clear hf
            go_wp2_with fail
            refine (isWs (cpOf s qq) _).mono ?_
            rintro e w8 ⟨rfl, rfl⟩
            rw [HW0.out]
            go_wp2_with fail
            go_ret
            refine ⟨?_, ?_, HFR.out⟩
            · rw [HE.out]; simp only []; rw [HRUN.out]; simp only []; rw [HFX.out]; rfl
            · rw [HE.out]; simp only []; rw [HRUN.out]; simp only []; rw [HSK.out]; exact HAX.out
          · have HFX : Hid (fixR hh = hh) := Lib.hid (by unfold fixR; rw [if_neg (by omega)])
            have k0 : (hh == 0) = false := beq_eq_false_iff_ne.2 (by omega)
            have k1 : decide (55296 ≤ hh) = false := decide_eq_false (by omega)
            have k3 : decide (1114111 < hh) = false := decide_eq_false (by omega)
            clear hf
            go_wp2_with fail
            refine (isWs (cpOf s qq) _).mono ?_
            rintro e w8 ⟨rfl, rfl⟩
            rw [HW0.out]
            go_wp2_with fail
            go_ret
            refine ⟨?_, ?_, HFR.out⟩
            · rw [HE.out]; simp only []; rw [HRUN.out]; simp only []; rw [HFX.out]; rfl
            · rw [HE.out]; simp only []; rw [HRUN.out]; simp only []; rw [HSK.out]; exact HAX.out
          · have HFX : Hid (fixR hh = hh) := Lib.hid (by unfold fixR; rw [if_neg (by omega)])
            have k0 : (hh == 0) = false := beq_eq_false_iff_ne.2 (by omega)
            have k1 : decide (55296 ≤ hh) = true := decide_eq_true (by omega)
            have k2 : decide (hh ≤ 57343) = false := decide_eq_false (by omega)
            have k3 : decide (1114111 < hh) = false := decide_eq_false (by omega)
            clear hf
            go_wp2_with fail
            refine (isWs (cpOf s qq) _).mono ?_
            rintro e w8 ⟨rfl, rfl⟩
            rw [HW0.out]
            go_wp2_with fail
            go_ret
            refine ⟨?_, ?_, HFR.out⟩
            · rw [HE.out]; simp only []; rw [HRUN.out]; simp only []; rw [HFX.out]; rfl
            · rw [HE.out]; simp only []; rw [HRUN.out]; simp only []; rw [HSK.out]; exact HAX.out
        · have HSK : Hid (skipWs s qq = qq + wdOf s qq) := Lib.hid (by rw [HWS.out, hws]; rfl)
          have HW0 := Lib.hid hws
          clear hws
          obtain hf | hf | hf | hf | hf : hh = 0 ∨ (55296 ≤ hh ∧ hh ≤ 57343) ∨ 1114111 < hh ∨ (hh < 55296 ∧ hh ≠ 0) ∨ (57343 < hh ∧ hh ≤ 1114111) := by omega
          · have HFX : Hid (fixR hh = 65533) := Lib.hid (by subst hf; rfl)
            have k0 : (hh == 0) = true := beq_iff_eq.2 hf
            clear hf
            go_wp2_with fail
            refine (isWs (cpOf s qq) _).mono ?_
            rintro e w8 ⟨rfl, rfl⟩
            rw [HW0.out]
            go_wp2_with fail
            refine (stepA g s ts qq _ HAX.out (tabs_fr HT.out hg hw HFR.out) (Nat.le_trans hw hzr) hs ht0 ht1).mono ?_
            rintro e w9 ⟨rfl, h9, f9⟩
            have H9 := Lib.hid h9
            have F9 := Lib.hid (Fr.trans HFR.out f9)
            clear h9 f9
            go_wp2_with fail
            go_ret
            refine ⟨?_, ?_, F9.out⟩
            · rw [HE.out]; simp only []; rw [HRUN.out]; simp only []; rw [HFX.out]; rfl
            · rw [HE.out]; simp only []; rw [HRUN.out]; simp only []; rw [HSK.out]; exact H9.out
          · have HFX : Hid (fixR hh = 65533) := Lib.hid (by unfold fixR; rw [if_pos (by omega)])
            have k0 : (hh == 0) = false := beq_eq_false_iff_ne.2 (by omega)
            have k1 : decide (55296 ≤ hh) = true := decide_eq_true (by omega)
            have k2 : decide (hh ≤ 57343) = true := decide_eq_true (by omega)
            clear hf
            go_wp2_with fail
            refine (isWs (cpOf s qq) _).mono ?_
            rintro e w8 ⟨rfl, rfl⟩
            rw [HW0.out]
            go_wp2_with fail
            refine (stepA g s ts qq _ HAX.out (tabs_fr HT.out hg hw HFR.out) (Nat.le_trans hw hzr) hs ht0 ht1).mono ?_
            rintro e w9 ⟨rfl, h9, f9⟩
            have H9 := Lib.hid h9
            have F9 := Lib.hid (Fr.trans HFR.out f9)
            clear h9 f9
            go_wp2_with fail
            go_ret
            refine ⟨?_, ?_, F9.out⟩
            · rw [HE.out]; simp only []; rw [HRUN.out]; simp only []; rw [HFX.out]; rfl
            · rw [HE.out]; simp only []; rw [HRUN.out]; simp only []; rw [HSK.out]; exact H9.out
          · have HFX : Hid (fixR hh = 65533) := Lib.hid (by unfold fixR; rw [if_pos (by omega)])
            have k0 : (hh == 0) = false := beq_eq_false_iff_ne.2 (by omega)
            have k1 : decide (55296 ≤ hh) = true := decide_eq_true (by omega)
            have k2 : decide (hh ≤ 57343) = false := decide_eq_false (by omega)
            have k3 : decide (1114111 < hh) = true := decide_eq_true (by omega)
            clear hf
            go_wp2_with fail
            refine (isWs (cpOf s qq) _).mono ?_
            rintro e w8 ⟨rfl, rfl⟩
            rw [HW0.out]
            go_wp2_with fail
            refine (stepA g s ts qq _ HAX.out (tabs_fr HT.out hg hw HFR.out) (Nat.le_trans hw hzr) hs ht0 ht1).mono ?_
            rintro e w9 ⟨rfl, h9, f9⟩
            have H9 := Lib.hid h9
            have F9 := Lib.hid (Fr.trans HFR.out f9)
            clear h9 f9
            go_wp2_with fail
            go_ret
            refine ⟨?_, ?_, F9.out⟩
            · rw [HE.out]; simp only []; rw [HRUN.out]; simp only []; rw [HFX.out]; rfl
            · rw [HE.out]; simp only []; rw [HRUN.out]; simp only []; rw [HSK.out]; exact H9.out
          · have HFX : Hid (fixR hh = hh) := Lib.hid (by unfold fixR; rw [if_neg (by omega)])
            have k0 : (hh == 0) = false := beq_eq_false_iff_ne.2 (by omega)
            have k1 : decide (55296 ≤ hh) = false := decide_eq_false (by omega)
            have k3 : decide (1114111 < hh) = false := decide_eq_false (by omega)
            clear hf
            go_wp2_with fail
            refine (isWs (cpOf s qq) _).mono ?_
            rintro e w8 ⟨rfl, rfl⟩
            rw [HW0.out]
            go_wp2_with fail
            refine (stepA g s ts qq _ HAX.out (tabs_fr HT.out hg hw HFR.out) (Nat.le_trans hw hzr) hs ht0 ht1).mono ?_
            rintro e w9 ⟨rfl, h9, f9⟩
            have H9 := Lib.hid h9
            have F9 := Lib.hid (Fr.trans HFR.out f9)
            clear h9 f9
            go_wp2_with fail
            go_ret
            refine ⟨?_, ?_, F9.out⟩
            · rw [HE.out]; simp only []; rw [HRUN.out]; simp only []; rw [HFX.out]; rfl
            · rw [HE.out]; simp only []; rw [HRUN.out]; simp only []; rw [HSK.out]; exact H9.out
          · have HFX : Hid (fixR hh = hh) := Lib.hid (by unfold fixR; rw [if_neg (by omega)])
            have k0 : (hh == 0) = false := beq_eq_false_iff_ne.2 (by omega)
            have k1 : decide (55296 ≤ hh) = true := decide_eq_true (by omega)
            have k2 : decide (hh ≤ 57343) = false := decide_eq_false (by omega)
            have k3 : decide (1114111 < hh) = false := decide_eq_false (by omega)
            clear hf
            go_wp2_with fail
            refine (isWs (cpOf s qq) _).mono ?_
            rintro e w8 ⟨rfl, rfl⟩
            rw [HW0.out]
            go_wp2_with fail
            refine (stepA g s ts qq _ HAX.out (tabs_fr HT.out hg hw HFR.out) (Nat.le_trans hw hzr) hs ht0 ht1).mono ?_
            rintro e w9 ⟨rfl, h9, f9⟩
            have H9 := Lib.hid h9
            have F9 := Lib.hid (Fr.trans HFR.out f9)
            clear h9 f9
            go_wp2_with fail
            go_ret
            refine ⟨?_, ?_, F9.out⟩
            · rw [HE.out]; simp only []; rw [HRUN.out]; simp only []; rw [HFX.out]; rfl
            · rw [HE.out]; simp only []; rw [HRUN.out]; simp only []; rw [HSK.out]; exact H9.out
      have tn : decide ((n : Int) < 5) = true := decide_eq_true (by omega)
      have HNX : Hid (hexB (cpOf s qq) = false) := Lib.hid (decide_eq_false fun c => hgo ⟨by omega, c⟩)
      clear hgo
      cases hws : wsB (cpOf s qq)
      · have HSK : Hid (skipWs s qq = qq) := Lib.hid (by rw [HWS.out, hws]; rfl)
        have HW0 := Lib.hid hws
        clear hws
        obtain hf | hf | hf | hf | hf : hh = 0 ∨ (55296 ≤ hh ∧ hh ≤ 57343) ∨ 1114111 < hh ∨ (hh < 55296 ∧ hh ≠ 0) ∨ (57343 < hh ∧ hh ≤ 1114111) := by omega
        · have HFX : Hid (fixR hh = 65533) := Lib.hid (by subst hf; rfl)
          have k0 : (hh == 0) = true := beq_iff_eq.2 hf
          clear hf
          go_wp2_with fail
          refine (isHex (cpOf s qq) (by omega) (by omega) _).mono ?_
          rintro e w7 ⟨rfl, rfl⟩
          rw [HNX.out]
          go_wp2_with fail
          refine (isWs (cpOf s qq) _).mono ?_
          rintro e w8 ⟨rfl, rfl⟩
          rw [HW0.out]
          go_wp2_with fail
          go_ret
          refine ⟨?_, ?_, HFR.out⟩
          · rw [HE.out]; simp only []; rw [HRUN.out]; simp only []; rw [HFX.out]; rfl
          · rw [HE.out]; simp only []; rw [HRUN.out]; simp only []; rw [HSK.out]; exact HAX.out
        · have HFX : Hid (fixR hh = 65533) := Lib.hid (by unfold fixR; rw [if_pos (by omega)])
          have k0 : (hh == 0) = false := beq_eq_false_iff_ne.2 (by omega)
          have k1 : decide (55296 ≤ hh) = true := decide_eq_true (by omega)
          have k2 : decide (hh ≤ 57343) = true := decide_eq_true (by omega)
          clear hf
          go_wp2_with fail
          refine (isHex (cpOf s qq) (by omega) (by omega) _).mono ?_
          rintro e w7 ⟨rfl, rfl⟩
          rw [HNX.out]
          go_wp2_with fail
          refine (isWs (cpOf s qq) _).mono ?_
          rintro e w8 ⟨rfl, rfl⟩
          rw [HW0.out]
          go_wp2_with fail
          go_ret
          refine ⟨?_, ?_, HFR.out⟩
          · rw [HE.out]; simp only []; rw [HRUN.out]; simp only []; rw [HFX.out]; rfl
          · rw [HE.out]; simp only []; rw [HRUN.out]; simp only []; rw [HSK.out]; exact HAX.out
        · have HFX : Hid (fixR hh = 65533) := Lib.hid (by unfold fixR; rw [if_pos (by omega)])
          have k0 : (hh == 0) = false := beq_eq_false_iff_ne.2 (by omega)
          have k1 : decide (55296 ≤ hh) = true := decide_eq_true (by omega)
          have k2 : decide (hh ≤ 57343) = false := decide_eq_false (by omega)
          have k3 : decide (1114111 < hh) = true := decide_eq_true (by omega)
          clear hf
          go_wp2_with fail
          refine (isHex (cpOf s qq) (by omega) (by omega) _).mono ?_
          rintro e w7 ⟨rfl, rfl⟩
          rw [HNX.out]
          go_wp2_with fail
          refine (isWs (cpOf s qq) _).mono ?_
          rintro e w8 ⟨rfl, rfl⟩
          rw [HW0.out]
          go_wp2_with fail
          go_ret
          refine ⟨?_, ?_, HFR.out⟩
          · rw [HE.out]; simp only []; rw [HRUN.out]; simp only []; rw [HFX.out]; rfl
          · rw [HE.out]; simp only []; rw [HRUN.out]; simp only []; rw [HSK.out]; exact HAX.out
        · have HFX : Hid (fixR hh = hh) := Lib.hid (by unfold fixR; rw [if_neg (by omega)])
          have k0 : (hh == 0) = false := beq_eq_false_iff_ne.2 (by omega)
          have k1 : decide (55296 ≤ hh) = false := decide_eq_false (by omega)
          have k3 : decide (1114111 < hh) = false := decide_eq_false (by omega)
          clear hf
          go_wp2_with fail
          refine (isHex (cpOf s qq) (by omega) (by omega) _).mono ?_
          rintro e w7 ⟨rfl, rfl⟩
          rw [HNX.out]
          go_wp2_with fail
          refine (isWs (cpOf s qq) _).mono ?_
          rintro e w8 ⟨rfl, rfl⟩
          rw [HW0.out]
          go_wp2_with fail
          go_ret
          refine ⟨?_, ?_, HFR.out⟩
          · rw [HE.out]; simp only []; rw [HRUN.out]; simp only []; rw [HFX.out]; rfl
          · rw [HE.out]; simp only []; rw [HRUN.out]; simp only []; rw [HSK.out]; exact HAX.out
        · have HFX : Hid (fixR hh = hh) := Lib.hid (by unfold fixR; rw [if_neg (by omega)])
          have k0 : (hh == 0) = false := beq_eq_false_iff_ne.2 (by omega)
          have k1 : decide (55296 ≤ hh) = true := decide_eq_true (by omega)
          have k2 : decide (hh ≤ 57343) = false := decide_eq_false (by omega)
          have k3 : decide (1114111 < hh) = false := decide_eq_false (by omega)
          clear hf
          go_wp2_with fail
          refine (isHex (cpOf s qq) (by omega) (by omega) _).mono ?_
          rintro e w7 ⟨rfl, rfl⟩
          rw [HNX.out]
          go_wp2_with fail
          refine (isWs (cpOf s qq) _).mono ?_
          rintro e w8 ⟨rfl, rfl⟩
          rw [HW0.out]
          go_wp2_with fail
          go_ret
          refine ⟨?_, ?_, HFR.out⟩
          · rw [HE.out]; simp only []; rw [HRUN.out]; simp only []; rw [HFX.out]; rfl
          · rw [HE.out]; simp only []; rw [HRUN.out]; simp only []; rw [HSK.out]; exact HAX.out
      · have HSK : Hid (skipWs s qq = qq + wdOf s qq) := Lib.hid (by rw [HWS.out, hws]; rfl)
        have HW0 := Lib.hid hws
        clear hws
        obtain hf | hf | hf | hf | hf : hh = 0 ∨ (55296 ≤ hh ∧ hh ≤ 57343) ∨ 1114111 < hh ∨ (hh < 55296 ∧ hh ≠ 0) ∨ (57343 < hh ∧ hh ≤ 1114111) := by omega
        · have HFX : Hid (fixR hh = 65533) := Lib.hid (by subst hf; rfl)
          have k0 : (hh == 0) = true := beq_iff_eq.2 hf
          clear hf
          go_wp2_with fail
          refine (isHex (cpOf s qq) (by omega) (by omega) _).mono ?_
          rintro e w7 ⟨rfl, rfl⟩
          rw [HNX.out]
          go_wp2_with fail
          refine (isWs (cpOf s qq) _).mono ?_
          rintro e w8 ⟨rfl, rfl⟩
          rw [HW0.out]
          go_wp2_with fail
          refine (stepA g s ts qq _ HAX.out (tabs_fr HT.out hg hw HFR.out) (Nat.le_trans hw hzr) hs ht0 ht1).mono ?_
          rintro e w9 ⟨rfl, h9, f9⟩
          have H9 := Lib.hid h9
          have F9 := Lib.hid (Fr.trans HFR.out f9)
          clear h9 f9
          go_wp2_with fail
          go_ret
          refine ⟨?_, ?_, F9.out⟩
          · rw [HE.out]; simp only []; rw [HRUN.out]; simp only []; rw [HFX.out]; rfl
          · rw [HE.out]; simp only []; rw [HRUN.out]; simp only []; rw [HSK.out]; exact H9.out
        · have HFX : Hid (fixR hh = 65533) := Lib.hid (by unfold fixR; rw [if_pos (by omega)])
          have k0 : (hh == 0) = false := beq_eq_false_iff_ne.2 (by omega)
          have k1 : decide (55296 ≤ hh) = true := decide_eq_true (by omega)
          have k2 : decide (hh ≤ 57343) = true := decide_eq_true (by omega)
          clear hf
          go_wp2_with fail
          refine (isHex (cpOf s qq) (by omega) (by omega) _).mono ?_
          rintro e w7 ⟨rfl, rfl⟩
          rw [HNX.out]
          go_wp2_with fail
          refine (isWs (cpOf s qq) _).mono ?_
          rintro e w8 ⟨rfl, rfl⟩
          rw [HW0.out]
          go_wp2_with fail
          refine (stepA g s ts qq _ HAX.out (tabs_fr HT.out hg hw HFR.out) (Nat.le_trans hw hzr) hs ht0 ht1).mono ?_
          rintro e w9 ⟨rfl, h9, f9⟩
          have H9 := Lib.hid h9
          have F9 := Lib.hid (Fr.trans HFR.out f9)
          clear h9 f9
          go_wp2_with fail
          go_ret
          refine ⟨?_, ?_, F9.out⟩
          · rw [HE.out]; simp only []; rw [HRUN.out]; simp only []; rw [HFX.out]; rfl
          · rw [HE.out]; simp only []; rw [HRUN.out]; simp only []; rw [HSK.out]; exact H9.out
        · have HFX : Hid (fixR hh = 65533) := Lib.hid (by unfold fixR; rw [if_pos (by omega)])
          have k0 : (hh == 0) = false := beq_eq_false_iff_ne.2 (by omega)
          have k1 : decide (55296 ≤ hh) = true := decide_eq_true (by omega)
          have k2 : decide (hh ≤ 57343) = false := decide_eq_false (by omega)
          have k3 : decide (1114111 < hh) = true := decide_eq_true (by omega)
          clear hf
          go_wp2_with fail
          refine (isHex (cpOf s qq) (by omega) (by omega) _).mono ?_
          rintro e w7 ⟨rfl, rfl⟩
          rw [HNX.out]
          go_wp2_with fail
          refine (isWs (cpOf s qq) _).mono ?_
          rintro e w8 ⟨rfl, rfl⟩
          rw [HW0.out]
          go_wp2_with fail
          refine (stepA g s ts qq _ HAX.out (tabs_fr HT.out hg hw HFR.out) (Nat.le_trans hw hzr) hs ht0 ht1).mono ?_
          rintro e w9 ⟨rfl, h9, f9⟩
          have H9 := Lib.hid h9
          have F9 := Lib.hid (Fr.trans HFR.out f9)
          clear h9 f9
          go_wp2_with fail
          go_ret
          refine ⟨?_, ?_, F9.out⟩
          · rw [HE.out]; simp only []; rw [HRUN.out]; simp only []; rw [HFX.out]; rfl
          · rw [HE.out]; simp only []; rw [HRUN.out]; simp only []; rw [HSK.out]; exact H9.out
        · have HFX : Hid (fixR hh = hh) := Lib.hid (by unfold fixR; rw [if_neg (by omega)])
          have k0 : (hh == 0) = false := beq_eq_false_iff_ne.2 (by omega)
          have k1 : decide (55296 ≤ hh) = false := decide_eq_false (by omega)
          have k3 : decide (1114111 < hh) = false := decide_eq_false (by omega)
          clear hf
          go_wp2_with fail
          refine (isHex (cpOf s qq) (by omega) (by omega) _).mono ?_
          rintro e w7 ⟨rfl, rfl⟩
          rw [HNX.out]
          go_wp2_with fail
          refine (isWs (cpOf s qq) _).mono ?_
          rintro e w8 ⟨rfl, rfl⟩
          rw [HW0.out]
          go_wp2_with fail
          refine (stepA g s ts qq _ HAX.out (tabs_fr HT.out hg hw HFR.out) (Nat.le_trans hw hzr) hs ht0 ht1).mono ?_
          rintro e w9 ⟨rfl, h9, f9⟩
          have H9 := Lib.hid h9
          have F9 := Lib.hid (Fr.trans HFR.out f9)
          clear h9 f9
          go_wp2_with fail
          go_ret
          refine ⟨?_, ?_, F9.out⟩
          · rw [HE.out]; simp only []; rw [HRUN.out]; simp only []; rw [HFX.out]; rfl
          · rw [HE.out]; simp only []; rw [HRUN.out]; simp only []; rw [HSK.out]; exact H9.out
        · have HFX : Hid (fixR hh = hh) := Lib.hid (by unfold fixR; rw [if_neg (by omega)])
          have k0 : (hh == 0) = false := beq_eq_false_iff_ne.2 (by omega)
          have k1 : decide (55296 ≤ hh) = true := decide_eq_true (by omega)
          have k2 : decide (hh ≤ 57343) = false := decide_eq_false (by omega)
          have k3 : decide (1114111 < hh) = false := decide_eq_false (by omega)
          clear hf
          go_wp2_with fail
          refine (isHex (cpOf s qq) (by omega) (by omega) _).mono ?_
          rintro e w7 ⟨rfl, rfl⟩
          rw [HNX.out]
          go_wp2_with fail
          refine (isWs (cpOf s qq) _).mono ?_
          rintro e w8 ⟨rfl, rfl⟩
          rw [HW0.out]
          go_wp2_with fail
          refine (stepA g s ts qq _ HAX.out (tabs_fr HT.out hg hw HFR.out) (Nat.le_trans hw hzr) hs ht0 ht1).mono ?_
          rintro e w9 ⟨rfl, h9, f9⟩
          have H9 := Lib.hid h9
          have F9 := Lib.hid (Fr.trans HFR.out f9)
          clear h9 f9
          go_wp2_with fail
          go_ret
          refine ⟨?_, ?_, F9.out⟩
          · rw [HE.out]; simp only []; rw [HRUN.out]; simp only []; rw [HFX.out]; rfl
          · rw [HE.out]; simp only []; rw [HRUN.out]; simp only []; rw [HSK.out]; exact H9.out
  · have e3 : hexB (cpOf s (q + 1)) = false := decide_eq_false hx
    rw [e3]
    clear e3
    by_cases l1 : q + 1 < s.size
    · have I2 := Lib.hid (cp_in l1).2
      have I1 := Lib.hid (cp_in l1).1
      have x1 : ¬ 0 ≤ hexV (rc s (q + 1)) := fun c => hx (hex_cp.2 ⟨l1, c⟩)
      have HE := Lib.hid (HST.out.trans (by rw [if_pos l1, if_neg x1]))
      have hb3 := rd_bounds s (q + 1) hq2
      have tm : (cpOf s (q + 1) == -1) = false := beq_eq_false_iff_ne.2 (by have := I1.out; omega)
      clear HST hx x1 c2
      go_wp2_with fail
      refine (stepA g s ts (q + 1) _ HA2.out (tabs_fr HT.out hg hw HF2.out) (Nat.le_trans hw hz2) hs ht0 ht1).mono ?_
      rintro e w4 ⟨rfl, h4, f4⟩
      rw [I2.out] at h4
      have H4 := Lib.hid h4
      have F4 := Lib.hid (Fr.trans HF2.out f4)
      clear h4 f4 HA2 HF2 I2
      go_wp2_with fail
      go_ret
      refine ⟨?_, ?_, F4.out⟩
      · rw [HE.out]; exact congrArg (fun x => Ending.returned (.int .i32 x)) I1.out
      · rw [HE.out]; exact H4.out
    · obtain ⟨i1, i2⟩ := cp_out (s := s) (q := q + 1) (by omega)
      have HE := Lib.hid (HST.out.trans (by rw [if_neg l1]))
      have tm : (cpOf s (q + 1) == -1) = true := beq_iff_eq.2 i1
      clear HST hx c2 i1 i2
      go_wp2_with fail
      go_ret
      refine ⟨?_, ?_, HF2.out⟩
      · rw [HE.out]; rfl
      · rw [HE.out]; exact HA2.out
end Go.Proofs.YtcljenkgbbbfpaaDoor.Cu
