/-
  Proved: markPartLiveForTreeShaking and markFileLiveForTreeShaking, from any state of marks, add exactly what a search from their node adds.
  Conditions: those that each theorem names as its hypotheses, and no others.
-/
import Derived.Test.YtmjfdhgfpgeboacGg
namespace Go.Proofs.Ytmjfdhgfpgeboac.Gh
open Go.RowKit Go.PlainAid Mem Ho Rws Orw Dg Fs Ga Gb Gc Fil Gd Ge Gg
set_option linter.unusedVariables false
set_option linter.unusedSimpArgs false
theorem run_assert {P : Program} {w : World} (t xT e : TypeId) (v : Value) (h : P.underlying t = some (.pointer e)) : (Instr.typeAssert (.iface t v) xT t false).run P w = .ok v w := by
  simp [Instr.typeAssert, run_underlying h, go_sem, Result.andThen]
/-- sizes and the dependencies' truth -/
structure Fit (n : Nat) (g : G) : Prop where
  fn : n ≤ 1048576
  fp : ∀ i, i < n → g.np i ≤ 1048576
  fd : ∀ i, i < n → ∀ j, j < g.np i → g.nd i j ≤ 1048576
  fe : ∀ i, i < n → ∀ j, j < g.np i → ∀ k, k < g.nd i j → (g.dep i j k).1 < n ∧ (g.dep i j k).2 < g.np (g.dep i j k).1
set_option maxRecDepth 100000 in
set_option maxHeartbeats 4000000 in
theorem part17 {lo lc op lf n : Nat} {g : G} {rb pt : Nat → Nat} {db : Nat → Nat → Nat} (hfit : Fit n g) (N : Nat)
    (ih18 : ∀ (f : Nat) (l : L) (w : World), f < n → Ln w lo lc op lf n g rb pt db l → lo ≤ w.heap.size → cnt g l n < N → Calls Try.prog 18 #[.pointer (some ⟨lc, 0, none⟩), .int .u32 (f : Int)] w (Did lo lc op lf n g rb pt db l (.file f) w))
    (ih17 : ∀ (f p : Nat) (l : L) (w : World), f < n → p < g.np f → Ln w lo lc op lf n g rb pt db l → lo ≤ w.heap.size → cnt g l n < N → Calls Try.prog 17 #[.pointer (some ⟨lc, 0, none⟩), .int .u32 (f : Int), .int .u32 (p : Int)] w (Did lo lc op lf n g rb pt db l (.part f p) w))
    (f p : Nat) (l : L) (w : World) (hf : f < n) (hp : p < g.np f) (hL : Ln w lo lc op lf n g rb pt db l) (hlo : lo ≤ w.heap.size) (hc : cnt g l n ≤ N) : Calls Try.prog 17 #[.pointer (some ⟨lc, 0, none⟩), .int .u32 (f : Int), .int .u32 (p : Int)] w (Did lo lc op lf n g rb pt db l (.part f p) w) := by
  have HI8 := Lib.hid ih18
  have HI7 := Lib.hid ih17
  have HL := Lib.hid hL
  have HX := Lib.hid hfit
  have hn := hfit.fn
  have hnp := hfit.fp f hf
  have hnd := hfit.fd f hf p hp
  have HFP := Lib.hid (And.intro hf hp)
  obtain ⟨cx, ox, x0, x10⟩ := hL.ctx
  obtain ⟨cf, of_, hcf⟩ := hL.files
  obtain ⟨cr, or_, r20, r63⟩ := hL.reprs f hf
  obtain ⟨cp, op_, hcp⟩ := hL.parts f hf
  obtain ⟨np, hnpe⟩ : ∃ np, np = g.np f := ⟨_, rfl⟩
  obtain ⟨nd, hnde⟩ : ∃ nd, nd = g.nd f p := ⟨_, rfl⟩
  obtain ⟨rf, hrf⟩ : ∃ rf, rf = rb f := ⟨_, rfl⟩
  obtain ⟨pf, hpf⟩ : ∃ pf, pf = pt f := ⟨_, rfl⟩
  obtain ⟨df, hdf⟩ : ∃ df, df = db f p := ⟨_, rfl⟩
  obtain ⟨lv, hlv⟩ : ∃ lv, lv = l (.part f p) := ⟨_, rfl⟩
  have a0 : w.cell? ⟨lc, 10, none⟩ = some (.slice (some ⟨lf, 0, none⟩) n n) := (ox.cell _).trans x10
  have a1 : w.cell? ⟨lf, f * 24 + 2, none⟩ = some (.iface 120 (.pointer (some ⟨rf, 0, none⟩))) := (of_.cell _).trans (by rw [hrf]; exact (hcf f hf).1)
  have a2 : w.cell? ⟨rf, 20, none⟩ = some (.slice (some ⟨pf, 0, none⟩) np np) := by rw [hrf, hpf, hnpe]; exact (or_.cell _).trans r20
  have a3 : w.cell? ⟨pf, p * 11 + 10, none⟩ = some (.bool lv) := by rw [hpf, hlv]; exact (op_.cell _).trans (hcp p hp 10 (by decide))
  have a4 : w.frozen? ⟨pf, p * 11 + 10, none⟩ = false := by rw [hpf]; exact op_.frozen _
  have hta := fun (W : World) (v : Value) => run_assert (P := Try.prog) (w := W) 120 159 _ v Try.underlying120
  have q0 : (0 : Int) ≤ (f : Int) := by omega
  have q1 : (f : Int) < (n : Int) := by omega
  have q2 : (0 : Int) ≤ (p : Int) := by omega
  have q3 : (p : Int) < (np : Int) := by rw [hnpe]; omega
  rw [← hnde] at hnd
  have HNP := Lib.hid hnpe
  have HND := Lib.hid hnde
  have HPF := Lib.hid hpf
  have HDF := Lib.hid hdf
  have HLV := Lib.hid hlv
  clear hfit ih18 ih17 hL hf hp ox x0 x10 of_ hcf or_ r20 r63 op_ hcp hrf hnpe hnde hpf hdf hlv
  cases lv with
  | true =>
    go_enter Try.func17, Try.ntmps17
    go_wp2_with fail
    go_end0
    exact ⟨rfl, l, HL.out, Adv.skip HLV.out.symm, Below.refl _ _⟩
  | false =>
    go_enter Try.func17, Try.ntmps17
    go_upto_region 5 with fail
    generalize hW : w.setCell _ _ = W
    have HL1 : Hid (Ln W lo lc op lf n g rb pt db (Dg.mark l (.part f p))) := Lib.hid (by rw [← hW, HPF.out]; exact HL.out.markP HFP.out.1 HFP.out.2)
    have HB1 : Hid (Below lo w W) := Lib.hid (by rw [← hW]; exact (Below.refl _ _).setCell (p := ⟨pf, p * 11 + 10, none⟩) (by rw [HPF.out]; exact HL.out.low.2 f HFP.out.1) _)
    have HC1 : Hid (cnt g (Dg.mark l (.part f p)) n + 1 ≤ cnt g l n) := Lib.hid (cnt_markP HLV.out.symm HFP.out.2 n HFP.out.1)
    have HI8b := Lib.hid (HI8.out f _ W HFP.out.1 HL1.out (Nat.le_trans hlo HB1.out.size) (by have := HC1.out; omega))
    clear hW a0 a1 a2 a3 a4
    go_wp2_with fail
    refine HI8b.out.mono ?_
    rintro e w1 ⟨rfl, l1, hL1, hA1, hb1⟩
    have HL2 := Lib.hid hL1
    have HM2 := Lib.hid (Mid.next (g := g) (l := l) Mid.start (.own f p) hA1)
    have HB2 := Lib.hid (HB1.out.trans hb1)
    obtain ⟨cp, op_, hcp⟩ := hL1.parts f HFP.out.1
    have b7 : w1.cell? ⟨pf, p * 11 + 7, none⟩ = some (.slice (some ⟨df, 0, none⟩) nd nd) := by rw [HPF.out, HDF.out, HND.out]; exact (op_.cell _).trans (hcp p HFP.out.2 7 (by decide))
    clear hL1 hA1 hb1 HI8b op_ hcp
    go_wp2_with fail
    clear b7
    go_loopw [46] (fun i wr => ∃ (k : Nat) (l2 : L), i = .int .i64 k ∧ k ≤ nd ∧ Hid (Ln wr lo lc op lf n g rb pt db l2) ∧ Hid (Mid g l (.part f p) (fun z => z = .file f ∨ ∃ k', k' < k ∧ z = .part (g.dep f p k').1 (g.dep f p k').2) l2) ∧ Hid (Below lo w wr)) (fun i _ => nd - (intOf i).toNat)
    case atStart => exact ⟨0, l1, rfl, by omega, HL2, Lib.hid (HM2.out.imp fun z hz => hz.elim (fun h => .inr h) (fun ⟨k', h, _⟩ => absurd h (by omega))), HB2⟩
    case round =>
      clear HL2 HM2 HB2 HL1 HB1
      obtain ⟨k, l2, rfl, hk, HLk, HMk, HBk⟩ := hrel
      obtain ⟨wo, rfl⟩ : ∃ wo : World, wo = wr := ⟨_, rfl⟩
      by_cases hlt : k < nd
      · obtain ⟨cd, od, hcd⟩ := HLk.out.deps f HFP.out.1 p HFP.out.2
        have hkd : k < g.nd f p := by rw [← HND.out]; exact hlt
        have hdv := HX.out.fe f HFP.out.1 p HFP.out.2 k hkd
        have hd0 := (od.cell _).trans (hcd k hkd).1
        have hd1 := (od.cell _).trans (hcd k hkd).2
        rw [← HDF.out] at hd0 hd1
        obtain ⟨dx, hdx⟩ : ∃ dx, dx = g.dep f p k := ⟨_, rfl⟩
        rw [← hdx] at hd0 hd1 hdv
        have HDX := Lib.hid hdx
        have HDV := Lib.hid hdv
        have o0 : (0 : Int) ≤ (k : Int) := by omega
        have o1 : (k : Int) < (nd : Int) := by omega
        clear od hcd hkd hdv hdx
        go_upto_region 9 with fail
        generalize hWa : wo.alloc _ = Wa
        have hba : Below wo.heap.size wo Wa := by rw [← hWa]; exact (Below.refl _ _).alloc (Nat.le_refl _) _
        have hoa : Own Wa wo.heap.size 110 #[.int .u32 (dx.1 : Int), .int .u32 (dx.2 : Int)] := by rw [← hWa]; exact Own.new _ _ _
        have c0 : Wa.cell? ⟨wo.heap.size, 0, none⟩ = some (.int .u32 (dx.1 : Int)) := (hoa.cell 0).trans rfl
        have c1 : Wa.cell? ⟨wo.heap.size, 1, none⟩ = some (.int .u32 (dx.2 : Int)) := (hoa.cell 1).trans rfl
        have hlow : lo ≤ wo.heap.size := Nat.le_trans hlo HBk.out.size
        have HBa := Lib.hid (HBk.out.trans (hba.mono hlow))
        have HIk := Lib.hid (HI7.out dx.1 dx.2 l2 Wa HDV.out.1 HDV.out.2 (HLk.out.below hba) (Nat.le_trans hlow hba.size) (by
          have h1 := cnt_mono (g := g) (l := Dg.mark l (.part f p)) (l' := l2) (fun y hy => by
            by_cases e : y = .part f p
            · subst e; exact HMk.out.at_
            · rw [mark_other e] at hy; exact HMk.out.mono y hy) n
          have := HC1.out
          omega))
        clear hWa hba hoa hd0 hd1
        go_wp2_with fail
        refine HIk.out.mono ?_
        rintro e w3 ⟨rfl, l3, hL3, hA3, hb3⟩
        have HL3 := Lib.hid hL3
        have HM3 := Lib.hid (HMk.out.next (.dep f p k (by rw [← HND.out]; exact hlt)) (by rw [← HDX.out]; exact hA3))
        have HB3 := Lib.hid (HBa.out.trans hb3)
        clear hL3 hA3 hb3 HIk c0 c1
        go_wp2_with fail
        go_roundw
        case rel =>
          exact ⟨k + 1, l3, by go_num, by omega, HL3, Lib.hid (HM3.out.imp fun z hz => by
            rcases hz with h | ⟨k', h1, h2⟩
            · exact .inl (.inl h)
            · rcases Nat.lt_or_ge k' k with h3 | h3
              · exact .inl (.inr ⟨k', h3, h2⟩)
              · obtain rfl : k' = k := by omega
                exact .inr h2), HB3⟩
        case measure => simp [intOf]; omega
      · obtain rfl : nd = k := by omega
        have y0 : decide ((nd : Int) < nd) = false := decide_eq_false (by omega)
        go_wp2_with fail
        go_end0
        refine ⟨rfl, l2, HLk.out, HMk.out.stop HLV.out.symm (fun z hs => ?_), HBk.out⟩
        cases hs with
        | own => exact .inl rfl
        | dep _ _ k' hk' => exact .inr ⟨k', by rw [HND.out]; exact hk', rfl⟩
theorem run_assert_ok {P : Program} {w : World} (t xT e : TypeId) (v : Value) (h : P.underlying t = some (.pointer e)) : (Instr.typeAssert (.iface t v) xT t true).run P w = .ok (.tuple #[v, .bool true]) w := by
  simp [Instr.typeAssert, run_underlying h, go_sem, Result.andThen]
set_option maxRecDepth 100000 in
set_option maxHeartbeats 4000000 in
theorem file18 {lo lc op lf n : Nat} {g : G} {rb pt : Nat → Nat} {db : Nat → Nat → Nat} (hfit : Fit n g) (N : Nat)
    (ih17 : ∀ (f p : Nat) (l : L) (w : World), f < n → p < g.np f → Ln w lo lc op lf n g rb pt db l → lo ≤ w.heap.size → cnt g l n < N → Calls Try.prog 17 #[.pointer (some ⟨lc, 0, none⟩), .int .u32 (f : Int), .int .u32 (p : Int)] w (Did lo lc op lf n g rb pt db l (.part f p) w))
    (f : Nat) (l : L) (w : World) (hf : f < n) (hL : Ln w lo lc op lf n g rb pt db l) (hlo : lo ≤ w.heap.size) (hc : cnt g l n ≤ N) : Calls Try.prog 18 #[.pointer (some ⟨lc, 0, none⟩), .int .u32 (f : Int)] w (Did lo lc op lf n g rb pt db l (.file f) w) := by
  have HI7 := Lib.hid ih17
  have HL := Lib.hid hL
  have HX := Lib.hid hfit
  have hn := hfit.fn
  have hnp := hfit.fp f hf
  have HF := Lib.hid hf
  obtain ⟨cx, ox, x0, x10⟩ := hL.ctx
  obtain ⟨cf, of_, hcf⟩ := hL.files
  obtain ⟨np, hnpe⟩ : ∃ np, np = g.np f := ⟨_, rfl⟩
  obtain ⟨rf, hrf⟩ : ∃ rf, rf = rb f := ⟨_, rfl⟩
  obtain ⟨pf, hpf⟩ : ∃ pf, pf = pt f := ⟨_, rfl⟩
  obtain ⟨lv, hlv⟩ : ∃ lv, lv = l (.file f) := ⟨_, rfl⟩
  have a0 : w.cell? ⟨lc, 10, none⟩ = some (.slice (some ⟨lf, 0, none⟩) n n) := (ox.cell _).trans x10
  have a3 : w.cell? ⟨lf, f * 24 + 23, none⟩ = some (.bool lv) := (of_.cell _).trans (by rw [hlv]; exact (hcf f hf).2)
  have a4 : w.frozen? ⟨lf, f * 24 + 23, none⟩ = false := of_.frozen _
  have hta := fun (W : World) (v : Value) => run_assert_ok (P := Try.prog) (w := W) 120 159 _ v Try.underlying120
  have q0 : (0 : Int) ≤ (f : Int) := by omega
  have q1 : (f : Int) < (n : Int) := by omega
  rw [← hnpe] at hnp
  have HNP := Lib.hid hnpe
  have HRF := Lib.hid hrf
  have HPF := Lib.hid hpf
  have HLV := Lib.hid hlv
  clear hfit ih17 hL hf ox x0 x10 of_ hcf hrf hnpe hpf hlv
  cases lv with
  | true =>
    go_enter Try.func18, Try.ntmps18
    go_wp2_with fail
    go_end0
    exact ⟨rfl, l, HL.out, Adv.skip HLV.out.symm, Below.refl _ _⟩
  | false =>
    go_enter Try.func18, Try.ntmps18
    go_upto_region 3 with fail
    generalize hW : w.setCell _ _ = W
    have HL1 : Hid (Ln W lo lc op lf n g rb pt db (Dg.mark l (.file f))) := Lib.hid (by rw [← hW]; exact HL.out.markF HF.out)
    have HB1 : Hid (Below lo w W) := Lib.hid (by rw [← hW]; exact (Below.refl _ _).setCell (p := ⟨lf, f * 24 + 23, none⟩) HL.out.low.1 _)
    have HC1 : Hid (cnt g (Dg.mark l (.file f)) n + 1 ≤ cnt g l n) := Lib.hid (cnt_markF HLV.out.symm n HF.out)
    obtain ⟨cf, of_, hcf⟩ := HL1.out.files
    obtain ⟨cr, or_, r20, r63⟩ := HL1.out.reprs f HF.out
    have b1 : W.cell? ⟨lf, f * 24 + 2, none⟩ = some (.iface 120 (.pointer (some ⟨rf, 0, none⟩))) := (of_.cell _).trans (by rw [HRF.out]; exact (hcf f HF.out).1)
    have b3 : W.cell? ⟨rf, 63, none⟩ = some (.int .u32 0) := by rw [HRF.out]; exact (or_.cell _).trans r63
    clear hW a0 a3 a4 of_ hcf or_ r20 r63
    go_wp2_with fail
    refine (valid19 W).mono ?_
    rintro e w1 ⟨rfl, hb1⟩
    have HL2 := Lib.hid (HL1.out.below hb1)
    have HB2 := Lib.hid (HB1.out.trans (hb1.mono (Nat.le_trans hlo HB1.out.size)))
    obtain ⟨cr, or_, r20, r63⟩ := HL2.out.reprs f HF.out
    have b2 : w1.cell? ⟨rf, 20, none⟩ = some (.slice (some ⟨pf, 0, none⟩) np np) := by rw [HRF.out, HPF.out, HNP.out]; exact (or_.cell _).trans r20
    clear b1 b3 hb1 or_ r20 r63
    go_wp2_with fail
    clear b2
    go_loopw [57] (fun i wr => ∃ (j : Nat) (l2 : L), i = .int .i64 j ∧ j ≤ np ∧ Hid (Ln wr lo lc op lf n g rb pt db l2) ∧ Hid (Mid g l (.file f) (fun z => ∃ j', j' < j ∧ g.kp f j' = true ∧ z = .part f j') l2) ∧ Hid (Below lo w wr)) (fun i _ => np - (intOf i).toNat)
    case atStart => exact ⟨0, _, rfl, by omega, HL2, Lib.hid (Mid.start.imp fun z hz => by obtain ⟨j', h, _⟩ := hz; omega), HB2⟩
    case round =>
      clear HL2 HB2 HL1 HB1
      obtain ⟨j, l2, rfl, hj, HLj, HMj, HBj⟩ := hrel
      obtain ⟨wo, rfl⟩ : ∃ wo : World, wo = wr := ⟨_, rfl⟩
      by_cases hjl : j < np
      · have hjp : j < g.np f := by rw [← HNP.out]; exact hjl
        obtain ⟨cp, op_, hcp⟩ := HLj.out.parts f HF.out
        obtain ⟨cx, ox, x0, x10⟩ := HLj.out.ctx
        obtain ⟨co, oo, o94⟩ := HLj.out.opt
        obtain ⟨kp, hkp⟩ : ∃ kp, kp = g.kp f j := ⟨_, rfl⟩
        obtain ⟨lvj, hlvj⟩ : ∃ lvj, lvj = l2 (.part f j) := ⟨_, rfl⟩
        obtain ⟨dj, hdj⟩ : ∃ dj, dj = db f j := ⟨_, rfl⟩
        obtain ⟨ndj, hndj⟩ : ∃ ndj, ndj = g.nd f j := ⟨_, rfl⟩
        have r0 : wo.cell? ⟨pf, j * 11, none⟩ = some (.slice none 0 0) := by rw [HPF.out]; exact (op_.cell _).trans (hcp j hjp 0 (by decide))
        have r1 : wo.cell? ⟨pf, j * 11 + 1, none⟩ = some (.slice none 0 0) := by rw [HPF.out]; exact (op_.cell _).trans (hcp j hjp 1 (by decide))
        have r2 : wo.cell? ⟨pf, j * 11 + 2, none⟩ = some (.slice none 0 0) := by rw [HPF.out]; exact (op_.cell _).trans (hcp j hjp 2 (by decide))
        have r3 : wo.cell? ⟨pf, j * 11 + 3, none⟩ = some (.slice none 0 0) := by rw [HPF.out]; exact (op_.cell _).trans (hcp j hjp 3 (by decide))
        have r4 : wo.cell? ⟨pf, j * 11 + 4, none⟩ = some (.map none) := by rw [HPF.out]; exact (op_.cell _).trans (hcp j hjp 4 (by decide))
        have r5 : wo.cell? ⟨pf, j * 11 + 5, none⟩ = some (.map none) := by rw [HPF.out]; exact (op_.cell _).trans (hcp j hjp 5 (by decide))
        have r6 : wo.cell? ⟨pf, j * 11 + 6, none⟩ = some (.map none) := by rw [HPF.out]; exact (op_.cell _).trans (hcp j hjp 6 (by decide))
        have r7 : wo.cell? ⟨pf, j * 11 + 7, none⟩ = some (.slice (some ⟨dj, 0, none⟩) ndj ndj) := by rw [HPF.out, hdj, hndj]; exact (op_.cell _).trans (hcp j hjp 7 (by decide))
        have r8 : wo.cell? ⟨pf, j * 11 + 8, none⟩ = some (.bool (!kp)) := by rw [HPF.out, hkp]; exact (op_.cell _).trans (hcp j hjp 8 (by decide))
        have r9 : wo.cell? ⟨pf, j * 11 + 9, none⟩ = some (.bool false) := by rw [HPF.out]; exact (op_.cell _).trans (hcp j hjp 9 (by decide))
        have r10 : wo.cell? ⟨pf, j * 11 + 10, none⟩ = some (.bool lvj) := by rw [HPF.out, hlvj]; exact (op_.cell _).trans (hcp j hjp 10 (by decide))
        have HKP := Lib.hid hkp
        have HJP := Lib.hid hjp
        have p0 : (0 : Int) ≤ (j : Int) := by omega
        have p1 : (j : Int) < (np : Int) := by omega
        clear hcp hkp hlvj hdj hndj hjp op_
        go_upto_region 11 with fail
        generalize hWa : wo.alloc _ = Wa
        have hba : Below wo.heap.size wo Wa := by rw [← hWa]; exact (Below.refl _ _).alloc (Nat.le_refl _) _
        have hoa : Own Wa wo.heap.size 119 #[.slice none 0 0, .slice none 0 0, .slice none 0 0, .slice none 0 0, .map none, .map none, .map none, .slice (some ⟨dj, 0, none⟩) ndj ndj, .bool (!kp), .bool false, .bool lvj] := by rw [← hWa]; exact Own.new _ _ _
        have c2 : Wa.cell? ⟨wo.heap.size, 2, none⟩ = some (.slice none 0 0) := (hoa.cell 2).trans rfl
        have c8 : Wa.cell? ⟨wo.heap.size, 8, none⟩ = some (.bool (!kp)) := (hoa.cell 8).trans rfl
        have c9 : Wa.cell? ⟨wo.heap.size, 9, none⟩ = some (.bool false) := (hoa.cell 9).trans rfl
        have k0 : Wa.cell? ⟨lc, 0, none⟩ = some (.pointer (some ⟨op, 0, none⟩)) := ((ox.below hba ox.lt).cell 0).trans x0
        have k1 : Wa.cell? ⟨op, 94, none⟩ = some (.bool true) := ((oo.below hba oo.lt).cell 94).trans o94
        have hlow : lo ≤ wo.heap.size := Nat.le_trans hlo HBj.out.size
        have HBa := Lib.hid (HBj.out.trans (hba.mono hlow))
        have HLa := Lib.hid (HLj.out.below hba)
        have HIj := Lib.hid (HI7.out f j l2 Wa HF.out HJP.out HLa.out (Nat.le_trans hlow hba.size) (by
          have h1 := cnt_mono (g := g) (l := Dg.mark l (.file f)) (l' := l2) (fun y hy => by
            by_cases e : y = .file f
            · subst e; exact HMj.out.at_
            · rw [mark_other e] at hy; exact HMj.out.mono y hy) n
          have := HC1.out
          omega))
        clear hWa hba hoa ox x0 x10 oo o94 r0 r1 r2 r3 r4 r5 r6 r7 r8 r9 r10
        cases kp with
        | true =>
          go_wp2_with fail
          refine wp_loop_rounds 1 ?_
          rw [rounds_succ]
          go_wp2_with fail
          refine HIj.out.mono ?_
          rintro e w3 ⟨rfl, l3, hL3, hA3, hb3⟩
          have HL3 := Lib.hid hL3
          have HM3 := Lib.hid (HMj.out.next (.keep f j HJP.out HKP.out.symm) hA3)
          have HB3 := Lib.hid (HBa.out.trans hb3)
          clear hL3 hA3 hb3 HIj c2 c8 c9 k0 k1
          go_wp2_with fail
          go_roundw
          case rel =>
            exact ⟨j + 1, l3, by go_num, by omega, HL3, Lib.hid (HM3.out.imp fun z hz => by
              obtain ⟨j', h1, h2, h3⟩ := hz
              rcases Nat.lt_or_ge j' j with h4 | h4
              · exact .inl ⟨j', h4, h2, h3⟩
              · obtain rfl : j' = j := by omega
                exact .inr h3), HB3⟩
          case measure => simp [intOf]; omega
        | false =>
          go_wp2_with fail
          refine wp_loop_rounds 1 ?_
          rw [rounds_succ]
          go_wp2_with fail
          go_roundw
          case rel =>
            exact ⟨j + 1, l2, by go_num, by omega, HLa, Lib.hid (HMj.out.imp fun z hz => by
              obtain ⟨j', h1, h2, h3⟩ := hz
              rcases Nat.lt_or_ge j' j with h4 | h4
              · exact ⟨j', h4, h2, h3⟩
              · obtain rfl : j' = j := by omega
                rw [← HKP.out] at h2
                cases h2), HBa⟩
          case measure => simp [intOf]; omega
      · obtain rfl : np = j := by omega
        have y0 : decide ((np : Int) < np) = false := decide_eq_false (by omega)
        go_wp2_with fail
        go_end0
        refine ⟨rfl, l2, HLj.out, HMj.out.stop HLV.out.symm (fun z hs => ?_), HBj.out⟩
        cases hs with
        | keep _ j' hj' hk' => exact ⟨j', by rw [HNP.out]; exact hj', hk', rfl⟩
/-- both, for every state -/
theorem marks {lo lc op lf n : Nat} {g : G} {rb pt : Nat → Nat} {db : Nat → Nat → Nat} (hfit : Fit n g) : ∀ N : Nat,
    (∀ (f : Nat) (l : L) (w : World), f < n → Ln w lo lc op lf n g rb pt db l → lo ≤ w.heap.size → cnt g l n < N → Calls Try.prog 18 #[.pointer (some ⟨lc, 0, none⟩), .int .u32 (f : Int)] w (Did lo lc op lf n g rb pt db l (.file f) w)) ∧
    (∀ (f p : Nat) (l : L) (w : World), f < n → p < g.np f → Ln w lo lc op lf n g rb pt db l → lo ≤ w.heap.size → cnt g l n < N → Calls Try.prog 17 #[.pointer (some ⟨lc, 0, none⟩), .int .u32 (f : Int), .int .u32 (p : Int)] w (Did lo lc op lf n g rb pt db l (.part f p) w))
  | 0 => ⟨fun f l w _ _ _ h => absurd h (by omega), fun f p l w _ _ _ _ h => absurd h (by omega)⟩
  | N + 1 => by
    obtain ⟨h8, h7⟩ := marks hfit N
    exact ⟨fun f l w hf hL hlo hc => file18 hfit N h7 f l w hf hL hlo (by omega), fun f p l w hf hp hL hlo hc => part17 hfit N h8 h7 f p l w hf hp hL hlo (by omega)⟩
end Go.Proofs.Ytmjfdhgfpgeboac.Gh
