/-
  Proved: consumeIdentLike where no text url( comes. Conditions: those that each theorem names as its hypotheses, and no others.
-/
import Derived.Test.YtcljenkgbbbfpaaDoorZd
import Derived.Deep.DeepCutAuto
import Derived.BigQuiet
namespace Go.Proofs.YtcljenkgbbbfpaaDoor.Ze
open Go.RowKit Go.PlainAid Str Mem De Lu Dw Cu Rws Za Zb Zc Zd
set_option linter.unusedVariables false
set_option linter.unusedSimpArgs false
/-- No 'url(' from q on. -/
def NoU (s : ByteArray) (q : Nat) : Prop := ∀ i, q ≤ i → i + 3 < s.size → (bt s i = 117 ∨ bt s i = 85) → (bt s (i + 1) = 114 ∨ bt s (i + 1) = 82) → (bt s (i + 2) = 108 ∨ bt s (i + 2) = 76) → bt s (i + 3) ≠ 40
def idl (s : ByteArray) (q : Nat) : Nat × Int := if cpOf s (ne s q) = 40 then (ne s q + wdOf s (ne s q), 27) else (ne s q, 29)
def Liked (g : Nat) (u : ByteArray) (r0 r1 : Int) (s : ByteArray) (q : Nat) (ts un kd fl : Int) (p : Nat × Int) (w : World) (e : Ending) (w' : World) : Prop :=
  e = .returned (.int .u8 p.2) ∧ At g u r0 r1 s p.1 ts un kd fl w' ∧ Fr g w w'
theorem bt_40 {s : ByteArray} {k : Nat} (h : cpOf s k = 40) : k < s.size ∧ bt s k = 40 := by
  by_cases hl : k < s.size
  · rw [(cp_in hl).1] at h
    by_cases ha : bt s k < 128
    · rw [(rd_asc hl ha).1] at h; exact ⟨hl, h⟩
    · have := (rd_high hl (by omega)).1; omega
  · rw [(cp_out (by omega)).1] at h; cases h
set_option maxRecDepth 100000 in
set_option maxHeartbeats 8000000 in
theorem like72 (g : Nat) (u : ByteArray) (r0 r1 : Int) (s : ByteArray) (q : Nat) (un kd fl : Int) (w : World) (h : At g u r0 r1 s q q un kd fl w) (hq : q ≤ s.size) (hb : NoB s q) (hu : NoU s q) (hT : Lib.Utf8Tabs 1 2 w) (hg : 3 ≤ g) (hw : 3 ≤ w.heap.size) (hs : s.size ≤ 1048580) :
    Calls Tryd.prog 72 #[.pointer (some ⟨g, 0, none⟩)] w (Liked g u r0 r1 s q q un kd fl (idl s q) w) := by
  have HA := Lib.hid h
  have HT := Lib.hid hT
  have HB := Lib.hid hb
  have HU := Lib.hid hu
  have HLE := Lib.hid (ne_le hq)
  have HI := Lib.hid (show idl s q = if cpOf s (ne s q) = 40 then (ne s q + wdOf s (ne s q), (27 : Int)) else (ne s q, 29) from rfl)
  clear h hT hb hu
  go_enter Tryd.func72, Tryd.ntmps72
  go_wp2_with fail
  refine (name69 g u r0 r1 s q q un kd fl _ HA.out hq (Nat.le_refl _) HB.out HT.out hg hw hs).mono ?_
  rintro e w1 ⟨rfl, hA1, hF1⟩
  have hz1 := hF1.size
  generalize ne s q = E at *
  generalize idl s q = I at *
  have HA1 := Lib.hid hA1
  have HF1 := Lib.hid hF1
  clear hA1 hF1 HA HB
  by_cases c40 : cpOf s E = 40
  · have hI : I = (E + wdOf s E, 27) := by rw [HI.out, if_pos c40]
    subst hI
    have C40 := Lib.hid c40
    have hc := HA1.out.cl
    have c35 := hc.c35
    have c36 := hc.c36
    have c37 := hc.c37
    have t40 : (cpOf s E == 40) = true := beq_iff_eq.2 c40
    have hle := HLE.out
    have i0 : (0 : Int) ≤ (q : Int) := by omega
    have i1 : (q : Int) ≤ 100000000 := by omega
    have i2 : (0 : Int) ≤ (E : Int) - (q : Int) := by omega
    have i3 : (E : Int) - (q : Int) ≤ 100000000 := by omega
    clear hc HI c40 hle
    go_wp2_with fail
    refine (end44 (q : Int) ((E : Int) - (q : Int)) i0 i1 i2 i3 _).mono ?_
    rintro e w2 ⟨rfl, hb2⟩
    have HA2 := Lib.hid (HA1.out.below hb2)
    have HF2 := Lib.hid (HF1.out.bel hb2)
    clear c35 c36 c37 i0 i1 i2 i3 hb2 HA1 HF1 hz1
    go_wp2_with fail
    generalize hW3 : World.alloc _ _ = w3
    have hb3 : Below w2.heap.size w2 w3 := by rw [← hW3]; exact (Below.refl _ _).alloc (Nat.le_refl _) _
    clear hW3
    have HA3 := Lib.hid (HA2.out.below hb3)
    have HF3 := Lib.hid (HF2.out.bel hb3)
    have HT3 := Lib.hid (tabs_fr HT.out hg hw HF3.out)
    clear hb3 HA2 HF2
    refine (stepZ g u r0 r1 s E q un kd fl _ HA3.out HLE.out.2 HT3.out (Nat.le_trans hw HF3.out.size) hs (by omega) (by omega)).mono ?_
    rintro e w4 ⟨rfl, hA4, hF4⟩
    have HA4 := Lib.hid hA4
    have HF4 := Lib.hid (Fr.trans HF3.out hF4)
    clear hA4 hF4 HA3 HF3 HT3
    have hxs : (s.extract q E).size = E - q := by rw [size_extract]; have := HLE.out; omega
    by_cases l3 : (s.extract q E).size = 3
    · have t3 : (((s.extract q E).size : Int) == 3) = true := beq_iff_eq.2 (by omega)
      have hE : E = q + 3 := by have := HLE.out; omega
      obtain ⟨hlt, hb40⟩ := bt_40 C40.out
      have hno := HU.out q (Nat.le_refl _) (by omega)
      have x0 : bt (s.extract q E) 0 = bt s q := by rw [bt_extract _ _ _ _ (by omega)]; rfl
      have x1 : bt (s.extract q E) 1 = bt s (q + 1) := bt_extract _ _ _ _ (by omega)
      have x2 : bt (s.extract q E) 2 = bt s (q + 2) := bt_extract _ _ _ _ (by omega)
      rw [← x0, ← x1, ← x2, ← hE] at hno
      have hgb := get_bt (s.extract q E)
      have y0 : (0 : Int) < ((s.extract q E).size : Int) := by omega
      have y1 : (1 : Int) < ((s.extract q E).size : Int) := by omega
      have y2 : (2 : Int) < ((s.extract q E).size : Int) := by omega
      have HQ := Lib.hid (show (bt (s.extract q E) 0 = 117 ∨ bt (s.extract q E) 0 = 85) → (bt (s.extract q E) 1 = 114 ∨ bt (s.extract q E) 1 = 82) → (bt (s.extract q E) 2 = 108 ∨ bt (s.extract q E) 2 = 76) → False from fun a b c => hno a b c hb40)
      clear hno x0 x1 x2 hxs hlt hb40 hE l3
      generalize s.extract q E = N at *
      have tri : ((bt N 0 ≠ 117 ∧ bt N 0 ≠ 85) ∨ ((bt N 0 = 117 ∨ (bt N 0 ≠ 117 ∧ bt N 0 = 85)) ∧ ((bt N 1 ≠ 114 ∧ bt N 1 ≠ 82) ∨ ((bt N 1 = 114 ∨ (bt N 1 ≠ 114 ∧ bt N 1 = 82)) ∧ bt N 2 ≠ 108 ∧ bt N 2 ≠ 76)))) := by
        have := HQ.out
        by_cases a : bt N 0 = 117 ∨ bt N 0 = 85
        · by_cases b : bt N 1 = 114 ∨ bt N 1 = 82
          · by_cases c : bt N 2 = 108 ∨ bt N 2 = 76
            · exact (this a b c).elim
            · omega
          · omega
        · omega
      rcases tri with ⟨a1, a2⟩ | ⟨a, ⟨b1, b2⟩ | ⟨b, c1, c2⟩⟩
      · have p0 : (bt N 0 == 117) = false := beq_eq_false_iff_ne.2 a1
        have p1 : (bt N 0 == 85) = false := beq_eq_false_iff_ne.2 a2
        clear a1 a2 HQ
        go_wp2_with fail
        go_quiet (fail)
        go_wp2
        go_ret
        exact ⟨rfl, At.drewN HA4.out _, ⟨HF4.out.os, HF4.out.tape, HF4.out.output, HF4.out.size, HF4.out.block⟩⟩
      · rcases a with a | ⟨a, a2⟩
        · have p0 : (bt N 0 == 117) = true := beq_iff_eq.2 a
          have p2 : (bt N 1 == 114) = false := beq_eq_false_iff_ne.2 b1
          have p3 : (bt N 1 == 82) = false := beq_eq_false_iff_ne.2 b2
          clear a b1 b2 HQ
          go_wp2_with fail
          go_quiet (fail)
          go_wp2
          go_ret
          exact ⟨rfl, At.drewN HA4.out _, ⟨HF4.out.os, HF4.out.tape, HF4.out.output, HF4.out.size, HF4.out.block⟩⟩
        · have p0 : (bt N 0 == 117) = false := beq_eq_false_iff_ne.2 a
          have p1 : (bt N 0 == 85) = true := beq_iff_eq.2 a2
          have p2 : (bt N 1 == 114) = false := beq_eq_false_iff_ne.2 b1
          have p3 : (bt N 1 == 82) = false := beq_eq_false_iff_ne.2 b2
          clear a b1 b2 HQ a2
          go_wp2_with fail
          go_quiet (fail)
          go_wp2
          go_ret
          exact ⟨rfl, At.drewN HA4.out _, ⟨HF4.out.os, HF4.out.tape, HF4.out.output, HF4.out.size, HF4.out.block⟩⟩
      · rcases a with a | ⟨a, a2⟩
        · have p0 : (bt N 0 == 117) = true := beq_iff_eq.2 a
          rcases b with b | ⟨b, b2⟩
          · have p2 : (bt N 1 == 114) = true := beq_iff_eq.2 b
            have p4 : (bt N 2 == 108) = false := beq_eq_false_iff_ne.2 c1
            have p5 : (bt N 2 == 76) = false := beq_eq_false_iff_ne.2 c2
            clear a b c1 c2 HQ
            go_wp2_with fail
            go_quiet (fail)
            go_wp2
            go_ret
            exact ⟨rfl, At.drewN HA4.out _, ⟨HF4.out.os, HF4.out.tape, HF4.out.output, HF4.out.size, HF4.out.block⟩⟩
          · have p2 : (bt N 1 == 114) = false := beq_eq_false_iff_ne.2 b
            have p3 : (bt N 1 == 82) = true := beq_iff_eq.2 b2
            have p4 : (bt N 2 == 108) = false := beq_eq_false_iff_ne.2 c1
            have p5 : (bt N 2 == 76) = false := beq_eq_false_iff_ne.2 c2
            clear a b c1 c2 HQ b2
            go_wp2_with fail
            go_quiet (fail)
            go_wp2
            go_ret
            exact ⟨rfl, At.drewN HA4.out _, ⟨HF4.out.os, HF4.out.tape, HF4.out.output, HF4.out.size, HF4.out.block⟩⟩
        · have p0 : (bt N 0 == 117) = false := beq_eq_false_iff_ne.2 a
          have p1 : (bt N 0 == 85) = true := beq_iff_eq.2 a2
          rcases b with b | ⟨b, b2⟩
          · have p2 : (bt N 1 == 114) = true := beq_iff_eq.2 b
            have p4 : (bt N 2 == 108) = false := beq_eq_false_iff_ne.2 c1
            have p5 : (bt N 2 == 76) = false := beq_eq_false_iff_ne.2 c2
            clear a b c1 c2 HQ a2
            go_wp2_with fail
            go_quiet (fail)
            go_wp2
            go_ret
            exact ⟨rfl, At.drewN HA4.out _, ⟨HF4.out.os, HF4.out.tape, HF4.out.output, HF4.out.size, HF4.out.block⟩⟩
          · have p2 : (bt N 1 == 114) = false := beq_eq_false_iff_ne.2 b
            have p3 : (bt N 1 == 82) = true := beq_iff_eq.2 b2
            have p4 : (bt N 2 == 108) = false := beq_eq_false_iff_ne.2 c1
            have p5 : (bt N 2 == 76) = false := beq_eq_false_iff_ne.2 c2
            clear a b c1 c2 HQ a2 b2
            go_wp2_with fail
            go_quiet (fail)
            go_wp2
            go_ret
            exact ⟨rfl, At.drewN HA4.out _, ⟨HF4.out.os, HF4.out.tape, HF4.out.output, HF4.out.size, HF4.out.block⟩⟩
    · have t3 : (((s.extract q E).size : Int) == 3) = false := beq_eq_false_iff_ne.2 (by omega)
      clear hxs l3
      generalize s.extract q E = N at *
      go_wp2_with fail
      go_ret
      exact ⟨rfl, HA4.out, HF4.out⟩
  · have hI : I = (E, 29) := by rw [HI.out, if_neg c40]
    subst hI
    have c35 := HA1.out.cl.c35
    have t40 : (cpOf s E == 40) = false := beq_eq_false_iff_ne.2 c40
    clear HI c40
    go_wp2_with fail
    go_ret
    exact ⟨rfl, HA1.out, HF1.out⟩
end Go.Proofs.YtcljenkgbbbfpaaDoor.Ze
