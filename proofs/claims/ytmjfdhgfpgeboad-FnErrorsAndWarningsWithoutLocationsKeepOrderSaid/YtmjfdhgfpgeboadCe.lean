/-
  Proved: convertErrorsAndWarningsToInternal and convertMessagesToInternal give the rows of messages that the law asks, and msgEq answers true on
  equal messages. Conditions: those that each theorem names as its hypotheses, and no others.
-/
import Derived.Test.YtmjfdhgfpgeboadCv
import Derived.Test.YtmjfdhgfpgeboadSm
import Derived.BigQuiet
namespace Go.Proofs.Ytmjfdhgfpgeboad.Ce
open Go.RowKit Go.PlainAid Mem Ho Rws Orw Lcs Msr Pg Idp Ct Lp Cl Bm Cv
set_option linter.unusedVariables false
set_option linter.unusedSimpArgs false
def mr0 : MR := ⟨none, 0, 0, ⟨#[]⟩, ⟨#[]⟩, 0, 0⟩
def Got (M1 M2 : Nat → Ms) (n1 n2 : Nat) (w : World) (e : Ending) (w' : World) : Prop :=
  ∃ A c R, e = .returned (.slice A (n1 + n2) c) ∧ w'.ownsRow w.heap.size 43 8 (.slice A (n1 + n2) c) (n1 + n2) (flatR R (n1 + n2)) ∧ (∀ i, i < n1 → Ct.Good w' 0 (M1 i) (R i)) ∧ (∀ i, i < n2 → Ct.Good w' 1 (M2 i) (R (n1 + i))) ∧ Below w.heap.size w w' ∧ (n1 + n2 = 0 → A = none ∧ c = 0)
theorem cat_left {n i : Nat} {R S : Nat → MR} (h : i < n) : catR n R S i = R i := if_pos h
theorem cat_right {n i : Nat} {R S : Nat → MR} : catR n R S (n + i) = S i := by
  unfold catR
  rw [if_neg (by omega), show n + i - n = i by omega]
theorem row_n {W : World} {lo sz n : Nat} {e : TypeId} {v : Value} {xs : List Value} (h : W.ownsRow lo e sz v n xs) : ∃ A c, v = .slice A n c := by
  rcases h.2 with ⟨rfl, rfl⟩ | ⟨g, cap, cur, rfl, _⟩
  · exact ⟨_, _, rfl⟩
  · exact ⟨_, _, rfl⟩
set_option maxRecDepth 100000 in
set_option maxHeartbeats 4000000 in
theorem conv12 (g1 n1 c1 g2 n2 c2 : Nat) (M1 M2 : Nat → Ms) (w : World) (h1 : AMs w g1 n1 M1) (h2 : AMs w g2 n2 M2) (hn : n1 + n2 ≤ 1048576) (hm1 : ∀ i, i < n1 → (M1 i).nn ≤ 1048576) (hm2 : ∀ i, i < n2 → (M2 i).nn ≤ 1048576) :
    Calls Try.prog 12 #[.slice (some ⟨g1, 0, none⟩) n1 c1, .slice (some ⟨g2, 0, none⟩) n2 c2] w (Got M1 M2 n1 n2 w) := by
  by_cases hz : n1 + n2 = 0
  · obtain ⟨rfl, rfl⟩ : n1 = 0 ∧ n2 = 0 := by omega
    clear h1 h2 hm1 hm2
    go_enter Try.func12, Try.ntmps12
    go_wp2
    go_ret
    exact ⟨none, 0, fun _ => mr0, rfl, ⟨rfl, .inl ⟨rfl, rfl⟩⟩, fun i hi => absurd hi (by omega), fun i hi => absurd hi (by omega), Below.refl _ _, fun _ => ⟨rfl, rfl⟩⟩
  · obtain ⟨im, him, hzm, hsm, hbm⟩ := info_parts info43
    obtain ⟨wm, hmk, hown, hgr⟩ := run_make_own (P := Try.prog) w w.heap.size 55 43 im _ 8 Try.underlying55 him hzm hsm .i64 .i64 (n1 + n2) (by rw [hbm]; omega) (by unfold maxLen; omega) (Nat.le_refl _)
    have hbw : Below w.heap.size w wm := Below.ofGrown (Below.refl _ _) hgr (Nat.le_refl _) (fun k hk => by cases hk)
    have H1 := Lib.hid (conv14 0 M1 w.heap.size 0 n1 g1 c1 _ [] wm hown hbw.size (h1.kp (Kp.of hbw)) (by omega) hm1)
    have H2 := Lib.hid (h2.kp (Kp.of hbw))
    have HM2 := Lib.hid hm2
    have HBw := Lib.hid hbw
    rw [Int.natCast_add] at hmk
    have z0 : decide ((0 : Int) < (n1 : Int) + (n2 : Int)) = true := decide_eq_true (by omega)
    clear h1 h2 hm1 hm2 hown hgr hbw
    go_enter Try.func12, Try.ntmps12
    go_wp2_with fail
    refine H1.out.mono ?_
    rintro e w1 ⟨v1, R1, rfl, hr1, hg1, hb1, hk1⟩
    have H3 := Lib.hid (conv14 1 M2 w.heap.size (0 + n1) n2 g2 c2 v1 ([] ++ flatR R1 n1) w1 hr1 (Nat.le_trans HBw.out.size hb1.size) (H2.out.kp hk1) (by omega) HM2.out)
    have HG1 := Lib.hid hg1
    have HB1 := Lib.hid hb1
    clear hr1 hg1 hb1 hk1 H1 H2
    go_wp2_with fail
    refine H3.out.mono ?_
    rintro e w2 ⟨v2, R2, rfl, hr2, hg2, hb2, hk2⟩
    rw [List.nil_append, Nat.zero_add, flat_cat] at hr2
    obtain ⟨A, c, rfl⟩ := row_n hr2
    have HS := Lib.hid (Sm.stable16 A _ (n1 + n2) c _ w2 hr2 (noL_flat _ _) (by omega))
    have HR2 := Lib.hid hr2
    have HG2 := Lib.hid hg2
    have HG3 := Lib.hid (fun i (hi : i < n1) => (HG1.out i hi).kp hk2)
    have HB2 := Lib.hid ((HBw.out.trans HB1.out).trans hb2)
    clear hr2 hg2 hb2 hk2 H3 HG1 HB1
    go_wp2_with fail
    refine HS.out.mono ?_
    rintro e w3 ⟨rfl, hb3⟩
    have HR3 := Lib.hid (row_below (B := 0) HR2.out hb3)
    have hk3 : Kp w2 w3 := Kp.of hb3
    have HG4 := Lib.hid (fun i (hi : i < n1) => (HG3.out i hi).kp hk3)
    have HG5 := Lib.hid (fun i (hi : i < n2) => (HG2.out i hi).kp hk3)
    have HB3 := Lib.hid (HB2.out.trans (hb3.mono HB2.out.size))
    clear hb3 hk3
    go_wp2_with fail
    go_ret
    exact ⟨A, c, catR n1 R1 R2, rfl, HR3.out, fun i hi => by rw [cat_left hi]; exact HG4.out i hi, fun i hi => by rw [cat_right]; exact HG5.out i hi, HB3.out, fun h => absurd h hz⟩
theorem conv7 (g1 n1 c1 g2 n2 c2 : Nat) (M1 M2 : Nat → Ms) (w : World) (h1 : AMs w g1 n1 M1) (h2 : AMs w g2 n2 M2) (hn : n1 + n2 ≤ 1048576) (hm1 : ∀ i, i < n1 → (M1 i).nn ≤ 1048576) (hm2 : ∀ i, i < n2 → (M2 i).nn ≤ 1048576) :
    Calls Try.prog 7 #[.slice (some ⟨g1, 0, none⟩) n1 c1, .slice (some ⟨g2, 0, none⟩) n2 c2] w (Got M1 M2 n1 n2 w) := by
  have H := Lib.hid (conv12 g1 n1 c1 g2 n2 c2 M1 M2 w h1 h2 hn hm1 hm2)
  clear h1 h2 hm1 hm2
  go_enter Try.func7, Try.ntmps7
  go_wp2_with fail
  refine H.out.mono ?_
  rintro e w3 ⟨A, c, R, rfl, hr⟩
  have HR := Lib.hid hr
  clear hr
  go_wp2_with fail
  go_ret
  exact ⟨A, c, R, rfl, HR.out⟩
theorem conv9 (kd : Int) (M : Nat → Ms) (lo n m g mcap : Nat) (v : Value) (xs : List Value) (w : World) (hr : w.ownsRow lo 43 8 v n xs) (hlo : lo ≤ w.heap.size) (hg : AMs w g m M) (hn : n + m ≤ 1048576) (hnn : ∀ i, i < m → (M i).nn ≤ 1048576) :
    Calls Try.prog 9 #[v, .int .u8 kd, .slice (some ⟨g, 0, none⟩) m mcap] w (Conv kd M lo n m xs w) := by
  have H := Lib.hid (conv14 kd M lo n m g mcap v xs w hr hlo hg hn hnn)
  clear hr hg hnn
  go_enter Try.func9, Try.ntmps9
  go_wp2_with fail
  refine H.out.mono ?_
  rintro e w3 ⟨A, R, rfl, hr⟩
  have HR := Lib.hid hr
  clear hr
  go_wp2_with fail
  go_ret
  exact ⟨A, R, rfl, HR.out⟩
def Yes (w : World) (e : Ending) (w' : World) : Prop := e = .returned (.bool true) ∧ Below w.heap.size w w'
set_option maxRecDepth 100000 in
set_option maxHeartbeats 4000000 in
theorem eq10 (kd : Int) (m : Ms) (r s : MR) (w : World) (hr : Ct.Good w kd m r) (hs : Ct.Good w kd m s) (hmn : m.nn ≤ 1048576) : Calls Try.prog 10 #[.agg r.cells.toArray, .agg s.cells.toArray] w (Yes w) := by
  obtain ⟨rA, rn, rc, rp, rt, rk, ri⟩ := r
  obtain ⟨sA, sn, sc, sp, st, sk, si⟩ := s
  obtain ⟨id, pl, tx, lc, nA, nn, nc, nt⟩ := m
  obtain ⟨h1, h2, h3, h4, h5⟩ := hr
  obtain ⟨k1, k2, k3, k4, k5⟩ := hs
  have hid := Ks_one h4 k4
  simp only [] at h1 h2 h3 h5 k1 k2 k3 k5 hid
  subst h1 h2 h3 k1 k2 k3 hid
  obtain ⟨hl, hz, ha⟩ := h5
  obtain ⟨kl, kz, ka⟩ := k5
  simp only [] at hmn
  subst hl kl
  have HA := Lib.hid ha
  have KA := Lib.hid ka
  have e0 : rA.isNone = sA.isNone := by
    rcases Nat.eq_zero_or_pos sn with h | h
    · rw [hz.2 h, kz.2 h]
    · obtain ⟨g, cs, Q, e, _⟩ := ha h
      obtain ⟨g', cs', Q', e', _⟩ := ka h
      rw [e, e']
      rfl
  have hnr := fun W => Lib.run_eql_slice_nil (P := Try.prog) W 38 41 rA sn rc 0 0 Try.underlying38
  have hns := fun W => Lib.run_eql_slice_nil (P := Try.prog) W 38 41 sA sn sc 0 0 Try.underlying38
  rw [e0] at hnr
  generalize sA.isNone = bb at hnr hns
  have HZ := Lib.hid (And.intro hz kz)
  clear h4 k4 e0 ha ka hz kz
  simp only [MR.cells]
  go_enter Try.func10, Try.ntmps10
  go_upto_region 1 with fail
  generalize hW : World.alloc _ _ = W
  have hb : Below w.heap.size w W := by rw [← hW]; go_grown
  have ho1 : Own W w.heap.size 43 #[.slice rA sn rc, .string sp, .nilIface, .pointer none, .string st, .bool false, .int .u8 sk, .int .u8 ri] := by rw [← hW]; exact (Own.new _ _ _).alloc _
  have ho2 : Own W (w.heap.size + 1) 43 #[.slice sA sn sc, .string sp, .nilIface, .pointer none, .string st, .bool false, .int .u8 sk, .int .u8 ri] := by rw [← hW]; exact new2 _ _ _ _
  have a0 : W.cell? ⟨w.heap.size, 0, none⟩ = some (.slice rA sn rc) := (ho1.cell 0).trans rfl
  have a1 : W.cell? ⟨w.heap.size, 1, none⟩ = some (.string sp) := (ho1.cell 1).trans rfl
  have a2 : W.cell? ⟨w.heap.size, 2, none⟩ = some (.nilIface) := (ho1.cell 2).trans rfl
  have a3 : W.cell? ⟨w.heap.size, 3, none⟩ = some (.pointer none) := (ho1.cell 3).trans rfl
  have a4 : W.cell? ⟨w.heap.size, 4, none⟩ = some (.string st) := (ho1.cell 4).trans rfl
  have a6 : W.cell? ⟨w.heap.size, 6, none⟩ = some (.int .u8 sk) := (ho1.cell 6).trans rfl
  have a7 : W.cell? ⟨w.heap.size, 7, none⟩ = some (.int .u8 ri) := (ho1.cell 7).trans rfl
  have b0 : W.cell? ⟨w.heap.size + 1, 0, none⟩ = some (.slice sA sn sc) := (ho2.cell 0).trans rfl
  have b1 : W.cell? ⟨w.heap.size + 1, 1, none⟩ = some (.string sp) := (ho2.cell 1).trans rfl
  have b2 : W.cell? ⟨w.heap.size + 1, 2, none⟩ = some (.nilIface) := (ho2.cell 2).trans rfl
  have b3 : W.cell? ⟨w.heap.size + 1, 3, none⟩ = some (.pointer none) := (ho2.cell 3).trans rfl
  have b4 : W.cell? ⟨w.heap.size + 1, 4, none⟩ = some (.string st) := (ho2.cell 4).trans rfl
  have b6 : W.cell? ⟨w.heap.size + 1, 6, none⟩ = some (.int .u8 sk) := (ho2.cell 6).trans rfl
  have b7 : W.cell? ⟨w.heap.size + 1, 7, none⟩ = some (.int .u8 ri) := (ho2.cell 7).trans rfl
  have HO1 := Lib.hid ho1
  have HO2 := Lib.hid ho2
  have HB := Lib.hid hb
  clear hW ho1 ho2 hb
  go_wp2_with fail
  refine (eq15 ⟨false, ⟨#[]⟩, ⟨#[]⟩, 0, 0, 0, ⟨#[]⟩, ⟨#[]⟩⟩ none none _ (.inl ⟨rfl, rfl⟩) (.inl ⟨rfl, rfl⟩)).mono ?_
  rintro e w3 ⟨rfl, nd, rfl⟩
  have ho1 := HO1.out.drewN nd
  have ho2 := HO2.out.drewN nd
  have hb := below_drewN HB.out nd
  clear a0 a1 a2 a3 a4 a6 a7 b0 b1 b2 b3 b4 b6 b7 HO1 HO2 HB
  generalize W.drewN nd = W1 at *
  have a0 : W1.cell? ⟨w.heap.size, 0, none⟩ = some (.slice rA sn rc) := (ho1.cell 0).trans rfl
  have b0 : W1.cell? ⟨w.heap.size + 1, 0, none⟩ = some (.slice sA sn sc) := (ho2.cell 0).trans rfl
  have a2 : W1.cell? ⟨w.heap.size, 2, none⟩ = some (.nilIface) := (ho1.cell 2).trans rfl
  have b2 : W1.cell? ⟨w.heap.size + 1, 2, none⟩ = some (.nilIface) := (ho2.cell 2).trans rfl
  have HO1 := Lib.hid ho1
  have HO2 := Lib.hid ho2
  have HB := Lib.hid hb
  clear ho1 ho2 hb
  go_upto_region 5 with fail
  go_quiet (fail)
  have ho1 := HO1.out.drewN nq
  have ho2 := HO2.out.drewN nq
  have hb := below_drewN HB.out nq
  clear a0 a2 b0 b2 HO1 HO2 HB
  generalize W1.drewN nq = W2 at *
  have a0 : W2.cell? ⟨w.heap.size, 0, none⟩ = some (.slice rA sn rc) := (ho1.cell 0).trans rfl
  have b0 : W2.cell? ⟨w.heap.size + 1, 0, none⟩ = some (.slice sA sn sc) := (ho2.cell 0).trans rfl
  have a2 : W2.cell? ⟨w.heap.size, 2, none⟩ = some (.nilIface) := (ho1.cell 2).trans rfl
  have b2 : W2.cell? ⟨w.heap.size + 1, 2, none⟩ = some (.nilIface) := (ho2.cell 2).trans rfl
  have HO1 := Lib.hid ho1
  have HO2 := Lib.hid ho2
  have HB := Lib.hid hb
  clear ho1 ho2 hb
  go_wp2_with fail
  clear a0 a2 b0 b2
  go_loopw [5] (fun i wr => ∃ j : Nat, i = .int .i64 j ∧ j ≤ sn ∧ Hid (Below W2.heap.size W2 wr)) (fun i _ => sn - (intOf i).toNat)
  case atStart => exact ⟨0, rfl, by omega, Lib.hid (Below.refl _ _)⟩
  case round =>
    obtain ⟨j, rfl, hj, HBj⟩ := hrel
    obtain ⟨wi, rfl⟩ : ∃ wi : World, wi = wr := ⟨_, rfl⟩
    have a0 : wi.cell? ⟨w.heap.size, 0, none⟩ = some (.slice rA sn rc) := ((HO1.out.below HBj.out HO1.out.lt).cell 0).trans rfl
    have b0 : wi.cell? ⟨w.heap.size + 1, 0, none⟩ = some (.slice sA sn sc) := ((HO2.out.below HBj.out HO2.out.lt).cell 0).trans rfl
    have HBi := Lib.hid (HB.out.trans (HBj.out.mono HB.out.size))
    by_cases hjl : j < sn
    · obtain ⟨g, cs, Q, rfl, hco, hcr⟩ := HA.out (by omega)
      obtain ⟨g', cs', Q', rfl, hco', hcr'⟩ := KA.out (by omega)
      obtain ⟨_, n1, n2, _, hp⟩ := hcr j hjl
      obtain ⟨_, n1', n2', _, hp'⟩ := hcr' j hjl
      obtain ⟨q, hq⟩ : ∃ q, q = Q j := ⟨_, rfl⟩
      obtain ⟨q', hq'⟩ : ∃ q', q' = Q' j := ⟨_, rfl⟩
      obtain ⟨ntx, hntx⟩ : ∃ ntx, ntx = (nt j).tx := ⟨_, rfl⟩
      rw [← hq] at n1 hp
      rw [← hq'] at n1' hp'
      rw [← hntx] at n2 n2'
      have s1 : wi.cell? ⟨g, j * 4 + 1, none⟩ = some (.pointer q) := ((hco.below HBi.out hco.lt).cell _).trans n1
      have s2 : wi.cell? ⟨g, j * 4 + 2, none⟩ = some (.string ntx) := ((hco.below HBi.out hco.lt).cell _).trans n2
      have t1 : wi.cell? ⟨g', j * 4 + 1, none⟩ = some (.pointer q') := ((hco'.below HBi.out hco'.lt).cell _).trans n1'
      have t2 : wi.cell? ⟨g', j * 4 + 2, none⟩ = some (.string ntx) := ((hco'.below HBi.out hco'.lt).cell _).trans n2'
      have HP1 := Lib.hid (hp.keep fun p cs o => o.below HBi.out o.lt)
      have HP2 := Lib.hid (hp'.keep fun p cs o => o.below HBi.out o.lt)
      have p0 : (0 : Int) ≤ (j : Int) := by omega
      have p1 : (j : Int) < (sn : Int) := by omega
      clear hcr hcr' hco hco' hp hp' n1 n2 n1' n2' hq hq' hntx
      go_upto_region 12 with fail
      go_quiet (exact Calls.quiet_of (eq15 (nt j).lc q q' _ (HP1.out.keep fun p cs o => o.drewN _) (HP2.out.keep fun p cs o => o.drewN _)))
      have HB5 := Lib.hid (below_drewN HBj.out nq)
      go_wp2_with fail
      go_roundw
      case rel => exact ⟨j + 1, by go_num, by omega, HB5⟩
      case measure => simp [intOf]; omega
    · obtain rfl : sn = j := by omega
      have y0 : decide ((sn : Int) < sn) = false := decide_eq_false (by omega)
      go_wp2_with fail
      go_ret
      exact ⟨rfl, HBi.out⟩
end Go.Proofs.Ytmjfdhgfpgeboad.Ce
