/-
  Proved: consumeName where no backslash comes. Conditions: those that each theorem names as its hypotheses, and no others.
-/
import Derived.Test.YtcljenkgbbbfpaaDoorZb
namespace Go.Proofs.YtcljenkgbbbfpaaDoor.Zc
open Go.RowKit Go.PlainAid Str Mem De Lu Dw Cu Rws Za Zb
set_option linter.unusedVariables false
set_option linter.unusedSimpArgs false
theorem keepT {w W W1 : World} {g : Nat} {ts tl : Int} (hg : g < w.heap.size) (h1 : Below W.heap.size W W1)
    (h : W.cell? ⟨g, 36, none⟩ = some (.int .i32 ts) ∧ W.cell? ⟨g, 37, none⟩ = some (.int .i32 tl) ∧ Below w.heap.size w W) : W1.cell? ⟨g, 36, none⟩ = some (.int .i32 ts) ∧ W1.cell? ⟨g, 37, none⟩ = some (.int .i32 tl) ∧ Below w.heap.size w W1 := by
  obtain ⟨a, b, c⟩ := h
  have hz := c.size
  exact ⟨(h1.cell (p := ⟨g, 36, none⟩) (by show g < W.heap.size; omega)).trans a, (h1.cell (p := ⟨g, 37, none⟩) (by show g < W.heap.size; omega)).trans b, c.trans (h1.mono hz)⟩
set_option maxRecDepth 100000 in
set_option maxHeartbeats 8000000 in
/-- consumeName where no backslash comes. -/
theorem name69 (g : Nat) (u : ByteArray) (r0 r1 : Int) (s : ByteArray) (ts q : Nat) (un kd fl : Int) (w : World) (h : At g u r0 r1 s q ts un kd fl w) (hq : q ≤ s.size) (htq : ts ≤ q) (hb : NoB s q) (hT : Lib.Utf8Tabs 1 2 w) (hg : 3 ≤ g) (hw : 3 ≤ w.heap.size) (hs : s.size ≤ 1048580) :
    Calls Tryd.prog 69 #[.pointer (some ⟨g, 0, none⟩)] w (Named g u r0 r1 s ts q un kd fl w) := by
  have hc := h.cl
  have HA := Lib.hid h
  have HT := Lib.hid hT
  have HB := Lib.hid hb
  have c10 := hc.c10
  have c33 := hc.c33
  have c35 := hc.c35
  have fz := hc.fz
  have hrng := cp_rng s q hq
  have HNE := Lib.hid (ne_le hq)
  clear h hT hb hc
  go_enter Tryd.func69, Tryd.ntmps69
  go_wp2_with fail
  refine (cont67 (cpOf s q) _).mono ?_
  rintro e w1 ⟨rfl, rfl⟩
  cases hn : ncB (cpOf s q)
  · have e0 : ne s q = q := by unfold ne; rw [hn]; rfl
    have HNE := Lib.hid (show ts ≤ q ∧ q ≤ s.size ∧ s.size ≤ 1048580 ∧ q ≤ q from ⟨htq, hq, hs, Nat.le_refl _⟩)
    have HE0 := Lib.hid e0
    have HF := Lib.hid (Fr.refl g w)
    clear hn c10 c33 c35 hrng e0 htq hq hs
    go_wp2_with fail
    have hc9 := HA.out.cl
    have d10 := hc9.c10
    have d35 := hc9.c35
    have d36 := hc9.c36
    have d37 := hc9.c37
    have hgl := HA.out.lt
    have i0 : (0 : Int) ≤ (ts : Int) := by omega
    have i1 : (ts : Int) ≤ ((q : Nat) : Int) := by have := HNE.out; omega
    have i2 : ((q : Nat) : Int) ≤ (s.size : Int) := by have := HNE.out; omega
    have e9 : (ts : Int) + (((q : Nat) : Int) - (ts : Int)) = ((q : Nat) : Int) := by omega
    have hne : cpOf s q ≠ 92 := cp_nob HB.out (by have := HNE.out; omega)
    have HC9 := Lib.hid hne
    have b0 : (0 : Int) ≤ ((q : Nat) : Int) - (ts : Int) := by omega
    have b1 : ((q : Nat) : Int) - (ts : Int) ≤ 100000000 := by have := HNE.out; omega
    have b2 : (ts : Int) ≤ 100000000 := by have := HNE.out; omega
    clear hc9 hne
    go_region_held3 (fun V => V.cell? ⟨g, 36, none⟩ = some (.int .i32 (ts : Int)) ∧ V.cell? ⟨g, 37, none⟩ = some (.int .i32 (((q : Nat) : Int) - (ts : Int))) ∧ Below (w).heap.size (w) V)
      (first | with_reducible exact keepT hgl hb1 (by assumption) | exact ⟨d36, d37, below_drew (Below.refl _ _)⟩)
      (first | (go_at_call 44; refine (end44 (ts : Int) (((q : Nat) : Int) - (ts : Int)) i0 b2 b0 b1 _).mono ?_; rintro e w8 ⟨rfl, hb1⟩; rw [e9]))
    have HA8 := Lib.hid (At.below (w := w) HA.out ((below_drew (Below.refl _ _)).trans (hb1.mono (Nat.le_refl _))))
    have HF8 := Lib.hid (Fr.bel HF.out ((below_drew (Below.refl _ _)).trans (hb1.mono (Nat.le_refl _))))
    have d35' := HA8.out.cl.c35
    clear hb1 d10 d35 d36 d37 HA HF e9 i0 i1 i2 b0 b1 b2 fz
    go_wp2_with fail
    refine (esc61 g (cpOf s q) _ d35' HC9.out).mono ?_
    rintro e w7 ⟨rfl, rfl⟩
    go_wp2_with fail
    go_ret
    unfold Named
    rw [HE0.out]
    exact ⟨rfl, HA8.out, HF8.out⟩
  · have e0 : ne s q = bscan s (s.size - (q + wdOf s q)) (q + wdOf s q) := by unfold ne; rw [if_pos hn]
    have HE0 := Lib.hid e0
    have hle := bscan_le (s := s) (s.size - (q + wdOf s q)) (q + wdOf s q)
    have hin := bscan_in (s := s) (s.size - (q + wdOf s q)) (q + wdOf s q)
    have HNE := Lib.hid (show ts ≤ q ∧ bscan s (s.size - (q + wdOf s q)) (q + wdOf s q) ≤ s.size ∧ s.size ≤ 1048580 ∧ q ≤ bscan s (s.size - (q + wdOf s q)) (q + wdOf s q) ∧ q + wdOf s q ≤ bscan s (s.size - (q + wdOf s q)) (q + wdOf s q) from ⟨htq, by omega, hs, by omega, by omega⟩)
    have HIN := Lib.hid hin
    have hgb := get_bt s
    have hz : q + wdOf s q ≤ s.size := hrng.2.2
    clear hn e0 hle hin hrng c35
    generalize hK : bscan s (s.size - (q + wdOf s q)) (q + wdOf s q) = K at *
    have hnl : ∀ j, q + wdOf s q ≤ j → j < K → bt s j ≠ 10 := fun j a b => nc_nl (HIN.out j a b)
    have HNL := Lib.hid hnl
    clear hnl HIN
    go_wp2_with fail
    go_loopw [5] (fun v5 wr => ∃ i : Nat, v5 = .int .i64 (i : Int) ∧ Hid (q + wdOf s q ≤ i ∧ i ≤ s.size ∧ bscan s (s.size - i) i = K) ∧ w = wr) (fun v5 _ => s.size - (intOf v5).toNat)
    case atStart => exact ⟨q + wdOf s q, rfl, Lib.hid ⟨Nat.le_refl _, hz, hK⟩, rfl⟩
    case round =>
      obtain ⟨i, rfl, HI, rfl⟩ := hrel
      obtain ⟨a1, a2, a3⟩ := HI.out
      have y0 : (0 : Int) ≤ (i : Int) := by omega
      by_cases hlt : i < s.size
      · have t1 : decide ((i : Int) < (s.size : Int)) = true := decide_eq_true (by omega)
        have y1 : (i : Int) < (s.size : Int) := by omega
        have hb0 := bt_nonneg s i
        have hb1 := bt_le s i
        have he : bscan s (s.size - i) i = if ncB (bt s i) = true then bscan s (s.size - (i + 1)) (i + 1) else i := by
          rw [show s.size - i = (s.size - (i + 1)) + 1 by omega]; rfl
        rw [he] at a3
        have HI2 := Lib.hid (And.intro a1 (And.intro a2 a3))
        have HLT := Lib.hid hlt
        clear a1 a2 a3 he HI hlt
        cases hn : ncB (bt s i)
        · have hcn := hn
          have HCN := Lib.hid hcn
          clear hn hcn
          have hk : i = K := by have := HI2.out.2.2; rw [HCN.out] at this; exact this
          subst hk
          go_wp2_with (go_at_call 67; refine (cont67 (bt s i) _).mono ?_; rintro e w9 ⟨rfl, rfl⟩; rw [HCN.out])
          clear t1 y0 y1 hb0 hb1 HI2 HCN HLT
          have HNE2 := Lib.hid (show ts ≤ i ∧ i ≤ s.size ∧ s.size ≤ 1048580 ∧ q ≤ i ∧ q + wdOf s q ≤ i from by have h9 := HNE.out; omega)
          clear HNE
          have HNE := HNE2
          have hon := HA.out.on i HNE.out.2.2.2.2 HNL.out
          have HON := Lib.hid hon
          have HF0 := Lib.hid (Fr.setc (Fr.refl g w) 33 (.int .i64 (i : Int)))
          clear hon
          go_wp2_with fail
          refine (stepO g u r0 r1 s i _ (ts : Int) _ un kd fl _ HON.out (tabs_fr HT.out hg hw HF0.out) (by rw [World.size_setCell]; exact hw) hs HNE.out.2.1 (by omega) (by have := HNE.out; omega)).mono ?_
          rintro e w2 ⟨rfl, hA2, hF2⟩
          have HA2 := Lib.hid hA2
          have HF2 := Lib.hid (Fr.trans HF0.out hF2)
          clear hA2 hF2 HON HF0 HNL HA c10 c33 hgb htq hq hs hz
          go_wp2_with fail
          have hc9 := HA2.out.cl
          have d10 := hc9.c10
          have d35 := hc9.c35
          have d36 := hc9.c36
          have d37 := hc9.c37
          have hgl := HA2.out.lt
          have i0 : (0 : Int) ≤ (ts : Int) := by omega
          have i1 : (ts : Int) ≤ ((i : Nat) : Int) := by have := HNE.out; omega
          have i2 : ((i : Nat) : Int) ≤ (s.size : Int) := by have := HNE.out; omega
          have e9 : (ts : Int) + (((i : Nat) : Int) - (ts : Int)) = ((i : Nat) : Int) := by omega
          have hne : cpOf s i ≠ 92 := cp_nob HB.out (by have := HNE.out; omega)
          have HC9 := Lib.hid hne
          have b0 : (0 : Int) ≤ ((i : Nat) : Int) - (ts : Int) := by omega
          have b1 : ((i : Nat) : Int) - (ts : Int) ≤ 100000000 := by have := HNE.out; omega
          have b2 : (ts : Int) ≤ 100000000 := by have := HNE.out; omega
          clear hc9 hne
          go_region_held3 (fun V => V.cell? ⟨g, 36, none⟩ = some (.int .i32 (ts : Int)) ∧ V.cell? ⟨g, 37, none⟩ = some (.int .i32 (((i : Nat) : Int) - (ts : Int))) ∧ Below (w2).heap.size (w2) V)
            (first | with_reducible exact keepT hgl hb1 (by assumption) | exact ⟨d36, d37, below_drew (Below.refl _ _)⟩)
            (first | (go_at_call 44; refine (end44 (ts : Int) (((i : Nat) : Int) - (ts : Int)) i0 b2 b0 b1 _).mono ?_; rintro e w8 ⟨rfl, hb1⟩; rw [e9]))
          have HA8 := Lib.hid (At.below (w := w2) HA2.out ((below_drew (Below.refl _ _)).trans (hb1.mono (Nat.le_refl _))))
          have HF8 := Lib.hid (Fr.bel HF2.out ((below_drew (Below.refl _ _)).trans (hb1.mono (Nat.le_refl _))))
          have d35' := HA8.out.cl.c35
          clear hb1 d10 d35 d36 d37 HA2 HF2 e9 i0 i1 i2 b0 b1 b2 fz
          go_wp2_with fail
          refine (esc61 g (cpOf s i) _ d35' HC9.out).mono ?_
          rintro e w7 ⟨rfl, rfl⟩
          go_wp2_with fail
          go_ret
          unfold Named
          rw [HE0.out]
          exact ⟨rfl, HA8.out, HF8.out⟩
        · have hcn := hn
          have HCN := Lib.hid hcn
          clear hn hcn
          go_wp2_with (go_at_call 67; refine (cont67 (bt s i) _).mono ?_; rintro e w9 ⟨rfl, rfl⟩; rw [HCN.out])
          go_roundw
          case rel => exact ⟨i + 1, by go_num, Lib.hid ⟨by have := HI2.out.1; omega, by have := HLT.out; omega, by have := HI2.out.2.2; rw [if_pos HCN.out] at this; exact this⟩, by first | rfl | trivial⟩
          case measure => have := HLT.out; simp [intOf]; omega
      · have t1 : decide ((i : Int) < (s.size : Int)) = false := decide_eq_false (by omega)
        have hk : i = K := by rw [show s.size - i = 0 by omega] at a3; exact a3
        subst hk
        have y1 : ¬ ((i : Int) < (s.size : Int)) := by omega
        clear a1 a2 a3 HI hlt
        go_wp2_with fail
        clear t1 y0 y1
        have HNE2 := Lib.hid (show ts ≤ i ∧ i ≤ s.size ∧ s.size ≤ 1048580 ∧ q ≤ i ∧ q + wdOf s q ≤ i from by have h9 := HNE.out; omega)
        clear HNE
        have HNE := HNE2
        have hon := HA.out.on i HNE.out.2.2.2.2 HNL.out
        have HON := Lib.hid hon
        have HF0 := Lib.hid (Fr.setc (Fr.refl g w) 33 (.int .i64 (i : Int)))
        clear hon
        go_wp2_with fail
        refine (stepO g u r0 r1 s i _ (ts : Int) _ un kd fl _ HON.out (tabs_fr HT.out hg hw HF0.out) (by rw [World.size_setCell]; exact hw) hs HNE.out.2.1 (by omega) (by have := HNE.out; omega)).mono ?_
        rintro e w2 ⟨rfl, hA2, hF2⟩
        have HA2 := Lib.hid hA2
        have HF2 := Lib.hid (Fr.trans HF0.out hF2)
        clear hA2 hF2 HON HF0 HNL HA c10 c33 hgb htq hq hs hz
        go_wp2_with fail
        have hc9 := HA2.out.cl
        have d10 := hc9.c10
        have d35 := hc9.c35
        have d36 := hc9.c36
        have d37 := hc9.c37
        have hgl := HA2.out.lt
        have i0 : (0 : Int) ≤ (ts : Int) := by omega
        have i1 : (ts : Int) ≤ ((i : Nat) : Int) := by have := HNE.out; omega
        have i2 : ((i : Nat) : Int) ≤ (s.size : Int) := by have := HNE.out; omega
        have e9 : (ts : Int) + (((i : Nat) : Int) - (ts : Int)) = ((i : Nat) : Int) := by omega
        have hne : cpOf s i ≠ 92 := cp_nob HB.out (by have := HNE.out; omega)
        have HC9 := Lib.hid hne
        have b0 : (0 : Int) ≤ ((i : Nat) : Int) - (ts : Int) := by omega
        have b1 : ((i : Nat) : Int) - (ts : Int) ≤ 100000000 := by have := HNE.out; omega
        have b2 : (ts : Int) ≤ 100000000 := by have := HNE.out; omega
        clear hc9 hne
        go_region_held3 (fun V => V.cell? ⟨g, 36, none⟩ = some (.int .i32 (ts : Int)) ∧ V.cell? ⟨g, 37, none⟩ = some (.int .i32 (((i : Nat) : Int) - (ts : Int))) ∧ Below (w2).heap.size (w2) V)
          (first | with_reducible exact keepT hgl hb1 (by assumption) | exact ⟨d36, d37, below_drew (Below.refl _ _)⟩)
          (first | (go_at_call 44; refine (end44 (ts : Int) (((i : Nat) : Int) - (ts : Int)) i0 b2 b0 b1 _).mono ?_; rintro e w8 ⟨rfl, hb1⟩; rw [e9]))
        have HA8 := Lib.hid (At.below (w := w2) HA2.out ((below_drew (Below.refl _ _)).trans (hb1.mono (Nat.le_refl _))))
        have HF8 := Lib.hid (Fr.bel HF2.out ((below_drew (Below.refl _ _)).trans (hb1.mono (Nat.le_refl _))))
        have d35' := HA8.out.cl.c35
        clear hb1 d10 d35 d36 d37 HA2 HF2 e9 i0 i1 i2 b0 b1 b2 fz
        go_wp2_with fail
        refine (esc61 g (cpOf s i) _ d35' HC9.out).mono ?_
        rintro e w7 ⟨rfl, rfl⟩
        go_wp2_with fail
        go_ret
        unfold Named
        rw [HE0.out]
        exact ⟨rfl, HA8.out, HF8.out⟩

end Go.Proofs.YtcljenkgbbbfpaaDoor.Zc
