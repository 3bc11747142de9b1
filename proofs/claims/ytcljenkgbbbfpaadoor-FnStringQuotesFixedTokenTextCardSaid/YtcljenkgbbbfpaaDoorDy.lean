/-
  Contract of decodeEscapesInToken (the walk). Conditions: the text's size; a backslash is its first special byte; no newline stands behind a backslash; the two tables of unicode/utf8.
-/
import Derived.Test.YtcljenkgbbbfpaaDoorDx
namespace Go.Proofs.YtcljenkgbbbfpaaDoor.Dy
open Go.RowKit Go.PlainAid Str Mem De Dw Dx
set_option linter.unusedVariables false
set_option maxRecDepth 100000 in
set_option maxHeartbeats 16000000 in
theorem decodes (s : ByteArray) (hs : s.size ≤ 4194304) (p : Nat) (hp : p < s.size) (h92 : bt s p = 92) (hpre : ∀ j, j < p → bt s j ≠ 92 ∧ bt s j ≠ 0)
    (hnl : ∀ i, i + 1 < s.size → bt s i = 92 → bt s (i + 1) ≠ 10 ∧ bt s (i + 1) ≠ 12 ∧ bt s (i + 1) ≠ 13) (w : World) (hT : Lib.Utf8Tabs 1 2 w) (hw : 3 ≤ w.heap.size) :
    Calls Tryd.prog 43 #[.string s] w (Ret (pre s p ++ D s p) w) := by
  have hgb := get_bt s
  have HPRE := Lib.hid hpre
  have HNL := Lib.hid hnl
  have HT := Lib.hid hT
  have H92 := Lib.hid h92
  obtain ⟨all, hall⟩ : ∃ all, all = pre s p ++ D s p := ⟨_, rfl⟩
  have hlen : all.length ≤ 4 * s.size + p := by
    have := D_len s s.size p
    rw [hall, List.length_append, show (pre s p).length = p by simp [pre]]
    show p + (decD s s.size p).length ≤ _
    omega
  have hrange : ∀ c ∈ all, 0 ≤ c ∧ c < 256 := by
    intro c hc
    rw [hall] at hc
    rcases List.mem_append.1 hc with h | h
    · obtain ⟨j, hj, rfl⟩ := List.mem_map.1 h
      have := bt_nonneg s j
      have := bt_le s j
      omega
    · exact D_range s s.size p c h
  rw [← hall]
  have HALL := Lib.hid hall
  have HRG := Lib.hid hrange
  have HLEN := Lib.hid hlen
  clear hpre hnl hT h92 hall hrange hlen
  go_enter Tryd.func43, Tryd.ntmps43
  go_wp2
  go_loop [3] (fun i => ∃ j : Nat, j ≤ p ∧ i = .int .i64 j) (fun i => p + 1 - (intOf i).toNat)
  case atStart => exact ⟨0, Nat.zero_le _, rfl⟩
  case round =>
    obtain ⟨j, hj, rfl⟩ := hrel
    have j0 : decide (j < s.size) = true := decide_eq_true (by omega)
    by_cases hlt : j < p
    · obtain ⟨a1, a2⟩ := HPRE.out j hlt
      have t1 : (bt s j == 92) = false := beq_eq_false_iff_ne.2 a1
      have t2 : (bt s j == 0) = false := beq_eq_false_iff_ne.2 a2
      clear a1 a2
      go_wp2
      go_round
      case rel => exact ⟨j + 1, by omega, by go_num⟩
      case measure => simp [intOf]; omega
    · obtain rfl : j = p := by omega
      have t1 : (bt s j == 92) = true := beq_iff_eq.2 H92.out
      have t2 : ((j : Int) == (s.size : Int)) = false := beq_eq_false_iff_ne.2 (by omega)
      have z1 : (j : Int) ≤ (s.size : Int) := by omega
      have z0 : (0 : Int) ≤ (j : Int) := by omega
      have esz : (s.extract 0 j).size = j := by rw [size_extract]; omega
      go_wp2_with fail
      have hfresh : Lib.IsBuilderF 102 5 w.heap.size w.heap.size [] (w.alloc (.cells #[.pointer none, .slice none 0 0] 102)) := by
        exact Lib.IsBuilderF.of (Lib.fresh_isBuilder _ _ w)
      refine (Bl.writeString w.heap.size w.heap.size [] (s.extract 0 j) _ hfresh (by rw [esz]; simp; omega) (by simp)).mono ?_
      rintro e w1 ⟨rfl, hb1, hw1⟩
      rw [strCells_pre s j (by omega), List.nil_append] at hb1
      have HS : Hid (St w w.heap.size s all j (pre s j) w1) := Lib.hid ⟨by omega, HALL.out, .inr hb1, ((Below.refl _ w).alloc (Nat.le_refl _) _).trans hw1⟩
      clear hb1 hw1 hfresh esz
      have hgb' := hgb
      clear hgb
      go_wp2_with fail
      go_loopw [0] (fun v wr => ∃ (i : Nat) (out : List Int), v = .string (s.extract i s.size) ∧ Hid (St w w.heap.size s all i out wr)) (fun v _ => match v with | .string t => t.size | _ => 0)
      case atStart => exact ⟨j, pre s j, rfl, HS⟩
      case round =>
        clear HS
        obtain ⟨i, out, rfl, HS⟩ := hrel
        have hi := HS.out.hi
        have hbz := HS.out.be.size
        have hol := len_le HLEN.out HS.out.eq
        obtain ⟨t, ht⟩ : ∃ t, t = s.extract i s.size := ⟨_, rfl⟩
        have hts := size_t ht
        rw [← ht]
        have HTT := Lib.hid ht
        have HTS := Lib.hid hts
        clear ht hts
        by_cases hge : s.size ≤ i
        · have z : decide (0 < t.size) = false := decide_eq_false (by rw [HTS.out]; omega)
          go_wp2_with fail
          have hout : all = out := by rw [HS.out.eq, D_end (by omega), List.append_nil]
          obtain ⟨u1, u2⟩ := toU out (by rw [← hout]; exact HRG.out)
          have hbl := HS.out.bl
          rw [u1] at hbl
          refine (Tryd.Builder_String_any_f w.heap.size w.heap.size _ _ hbl hbz).mono ?_
          rintro e w2 ⟨rfl, _, hw2⟩
          have HR : Hid (Ret all w (.returned (.string ⟨(out.map fun c => c.toNat.toUInt8).toArray⟩)) w2) := Lib.hid ⟨_, rfl, by rw [u2, hout], HS.out.be.trans hw2⟩
          clear u1 u2 hbl hw2 hout
          generalize (⟨(out.map fun c => c.toNat.toUInt8).toArray⟩ : ByteArray) = R at *
          go_wp2_with fail
          go_ret
          exact HR.out
        have hlt : i < s.size := by omega
        have z : decide (0 < t.size) = true := decide_eq_true (by rw [HTS.out]; omega)
        obtain ⟨b0, b1, b2⟩ := rd_bounds s i hi
        have hpos := rw_pos hlt
        obtain ⟨t1, ht1⟩ : ∃ t1, t1 = s.extract (i + rw' s i) s.size := ⟨_, rfl⟩
        have e1 : t.extract (rw' s i) t.size = t1 := by rw [ht1]; exact ext_t HTT.out b2
        have y0 : (0 : Int) ≤ ((rw' s i : Nat) : Int) := by omega
        have y1 : ((rw' s i : Nat) : Int) ≤ (t.size : Int) := by have := HTS.out; omega
        have HT1 := Lib.hid ht1
        have HZ1 := Lib.hid (size_t ht1)
        clear ht1
        go_wp2_with fail
        refine (dec s i t HTT.out _ (tabs_of HT.out hw HS.out.be)).mono ?_
        rintro e w2 ⟨rfl, hw2⟩
        have HS2 := Lib.hid (HS.out.below hw2)
        have hbz2 := HS2.out.be.size
        clear hw2 HS hbz
        by_cases hc : rc s i ≠ 92
        · have q92 : (rc s i != 92) = true := bne_iff_ne.2 hc
          by_cases hc0 : rc s i = 0
          · have q0 : (rc s i == 0) = true := beq_iff_eq.2 hc0
            have HE : Hid (stepD s i = (i + rw' s i, 65533)) := Lib.hid (by unfold stepD; rw [if_neg hc, if_pos hc0])
            clear hc hc0
            go_wp2_with fail
            refine (Bl.writeRune w.heap.size w.heap.size _ 65533 (by decide) (by decide) _ HS2.out.bl (by rw [bytesV_len]; omega) hbz2).mono ?_
            rintro e w3 ⟨rfl, hb3, hw3⟩
            have HS3 := Lib.hid (HS2.out.next hlt HE.out hb3 (HS2.out.be.trans hw3))
            clear hb3 hw3
            go_wp2_with fail
            go_roundw
            case rel => exact ⟨i + rw' s i, _, by rw [HT1.out], HS3⟩
            case measure => show t1.size < t.size; rw [HZ1.out, HTS.out]; omega
          · have q0 : (rc s i == 0) = false := beq_eq_false_iff_ne.2 hc0
            have HE : Hid (stepD s i = (i + rw' s i, rc s i)) := Lib.hid (by unfold stepD; rw [if_neg hc, if_neg hc0])
            clear hc hc0
            go_wp2_with fail
            refine (Bl.writeRune w.heap.size w.heap.size _ (rc s i) (by omega) (by omega) _ HS2.out.bl (by rw [bytesV_len]; omega) hbz2).mono ?_
            rintro e w3 ⟨rfl, hb3, hw3⟩
            have HS3 := Lib.hid (HS2.out.next hlt HE.out hb3 (HS2.out.be.trans hw3))
            clear hb3 hw3
            go_wp2_with fail
            go_roundw
            case rel => exact ⟨i + rw' s i, _, by rw [HT1.out], HS3⟩
            case measure => show t1.size < t.size; rw [HZ1.out, HTS.out]; omega
        have hc' : rc s i = 92 := Classical.not_not.1 hc
        have q92 : (rc s i != 92) = false := bne_eq_false_iff_eq.2 hc'
        have hk1 := (rc_92 hlt hc').2
        by_cases hge2 : s.size ≤ i + rw' s i
        · have HE : Hid (stepD s i = (i + rw' s i, 65533)) := Lib.hid (by unfold stepD; rw [if_pos hc', if_neg (by omega)])
          have z1' : ((t1.size : Int) == 0) = true := beq_iff_eq.2 (by rw [HZ1.out]; omega)
          clear hc hc' hk1
          go_wp2_with fail
          refine (Bl.writeRune w.heap.size w.heap.size _ 65533 (by decide) (by decide) _ HS2.out.bl (by rw [bytesV_len]; omega) hbz2).mono ?_
          rintro e w3 ⟨rfl, hb3, hw3⟩
          have HS3 := Lib.hid (HS2.out.next hlt HE.out hb3 (HS2.out.be.trans hw3))
          clear hb3 hw3
          go_wp2_with fail
          go_roundw
          case rel => exact ⟨i + rw' s i, _, by rw [HT1.out], HS3⟩
          case measure => show t1.size < t.size; rw [HZ1.out, HTS.out]; omega
        have hlt2 : i + rw' s i < s.size := by omega
        have z1' : ((t1.size : Int) == 0) = false := beq_eq_false_iff_ne.2 (by rw [HZ1.out]; omega)
        obtain ⟨d0, d1, d2⟩ := rd_bounds s (i + rw' s i) b2
        have hpos2 := rw_pos hlt2
        have hnl2 := rc_nl hlt2 (by rw [hk1]; exact HNL.out i (by omega) (rc_92 hlt hc').1)
        have HST := Lib.hid (show stepD s i = (if 0 ≤ hexV (rc s (i + rw' s i)) then (skipWs s (hexRun s 5 (i + rw' s i + rw' s (i + rw' s i)) (hexV (rc s (i + rw' s i)))).1, fixR (hexRun s 5 (i + rw' s i + rw' s (i + rw' s i)) (hexV (rc s (i + rw' s i)))).2) else (i + rw' s i + rw' s (i + rw' s i), rc s (i + rw' s i))) by unfold stepD; rw [if_pos hc', if_pos hlt2])
        have HCC := Lib.hid hc'
        clear hc hc' hk1
        generalize hm1 : i + rw' s i = m1 at *
        generalize hm2 : m1 + rw' s m1 = m2 at *
        have hm1' : i < m1 := by omega
        have hm2' : m1 < m2 := by omega
        have d2' : m2 ≤ s.size := by omega
        obtain ⟨t2, ht2⟩ : ∃ t2, t2 = s.extract m2 s.size := ⟨_, rfl⟩
        have e2 : t1.extract (rw' s m1) t1.size = t2 := by rw [ht2, ← hm2]; exact ext_t HT1.out (by omega)
        have y2 : (0 : Int) ≤ ((rw' s m1 : Nat) : Int) := by omega
        have y3 : ((rw' s m1 : Nat) : Int) ≤ (t1.size : Int) := by have := HZ1.out; omega
        have HT2 := Lib.hid ht2
        have HZ2 := Lib.hid (size_t ht2)
        clear ht2 hm1 hm2
        go_wp2_with fail
        refine (dec s m1 t1 HT1.out _ (tabs_of HT.out hw HS2.out.be)).mono ?_
        rintro e w3 ⟨rfl, hw3⟩
        have HS3 := Lib.hid (HS2.out.below hw3)
        have hbz3 := HS3.out.be.size
        clear hw3 HS2 hbz2
        go_wp2_with fail
        refine (isHex (rc s m1) (by omega) (by omega) _).mono ?_
        rintro e w4 ⟨rfl, rfl⟩
        by_cases hx : 0 ≤ hexV (rc s m1)
        · have hxv := hexV_range (rc s m1)
          have e3 : hexB (rc s m1) = true := decide_eq_true hx
          have e4 : hexR (rc s m1) = hexV (rc s m1) := if_pos hx
          have HE : Hid (stepD s i = (skipWs s (hexRun s 5 m2 (hexV (rc s m1))).1, fixR (hexRun s 5 m2 (hexV (rc s m1))).2)) := Lib.hid (by rw [HST.out, if_pos hx])
          rw [e3, e4]
          clear e3 e4 HST
          generalize hexV (rc s m1) = H0 at *
          have HH : Hid (Hx w w.heap.size s all i out m2 H0 m2 0 H0 w3) := Lib.hid ⟨d2', Nat.le_refl _, by omega, hx, by omega, rfl, HS3.out⟩
          have hit := HS3.out.hi
          clear HS3 hbz3 hx hxv
          go_wp2_with fail
          go_loopw [0, 8, 10] (fun v8 v9 v10 wr => ∃ (q n : Nat) (h : Int), v8 = .string (s.extract q s.size) ∧ v9 = .int .i64 h ∧ v10 = .int .i64 n ∧ Hid (Hx w w.heap.size s all i out m2 H0 q n h wr)) (fun _ _ v10 _ => 5 - (intOf v10).toNat)
          case atStart => exact ⟨m2, 0, H0, by rw [HT2.out], rfl, rfl, HH⟩
          case round =>
            clear HH
            obtain ⟨q, n, h, rfl, rfl, rfl, HH⟩ := hrel
            have hq := HH.out.hq
            have hmq := HH.out.hm
            have hn5 := HH.out.n5
            have hh0 := HH.out.h0
            have hh1 := pow_le hn5 HH.out.h1
            have hbz := HH.out.st.be.size
            obtain ⟨tq, htq⟩ : ∃ tq, tq = s.extract q s.size := ⟨_, rfl⟩
            have HZQ := Lib.hid (size_t htq)
            rw [← htq]
            have HTQ := Lib.hid htq
            clear htq
            obtain ⟨f0, f1, f2⟩ := rd_bounds s q hq
            obtain ⟨tr, htr⟩ : ∃ tr, tr = s.extract (q + rw' s q) s.size := ⟨_, rfl⟩
            have e5 : tq.extract (rw' s q) tq.size = tr := by rw [htr]; exact ext_t HTQ.out f2
            have y4 : (0 : Int) ≤ ((rw' s q : Nat) : Int) := by omega
            have y5 : ((rw' s q : Nat) : Int) ≤ (tq.size : Int) := by have := HZQ.out; omega
            have HTR := Lib.hid htr
            have HZR := Lib.hid (size_t htr)
            clear htr
            by_cases hgo : n < 5 ∧ q < s.size ∧ 0 ≤ hexV (rc s q)
            · obtain ⟨g1, g2, g3⟩ := hgo
              have c1 : decide ((n : Int) < 5) = true := decide_eq_true (by omega)
              have c2 : decide (0 < tq.size) = true := decide_eq_true (by rw [HZQ.out]; omega)
              have e3 : hexB (rc s q) = true := decide_eq_true g3
              have e4 : hexR (rc s q) = hexV (rc s q) := if_pos g3
              have hxv := hexV_range (rc s q)
              have HN : Hid (∀ w', Below w3.heap.size w3 w' → True) := Lib.hid fun _ _ => trivial
              go_wp2_with fail
              refine (dec s q tq HTQ.out _ (tabs_of HT.out hw HH.out.st.be)).mono ?_
              rintro e w5 ⟨rfl, hw5⟩
              have HH5 : Hid (Hx w w.heap.size s all i out m2 H0 (q + rw' s q) (n + 1) (h * 16 + hexV (rc s q)) w5) := Lib.hid ⟨f2, by omega, by omega, by omega, pow_step hh0 HH.out.h1 g3 hxv.2, HH.out.run.trans (hexRun_go g1 g2 g3), HH.out.st.below hw5⟩
              clear hw5 HH hbz
              go_wp2_with fail
              refine (isHex (rc s q) (by omega) (by omega) _).mono ?_
              rintro e w6 ⟨rfl, rfl⟩
              rw [e3, e4]
              clear e3 e4 g3
              generalize hexV (rc s q) = hv at *
              go_wp2_with fail
              go_roundw
              case rel => exact ⟨q + rw' s q, n + 1, _, by rw [HTR.out], rfl, by go_num, HH5⟩
              case measure => simp [intOf]; omega
            have HRUN : Hid (hexRun s 5 m2 H0 = (q, h)) := Lib.hid (HH.out.run.trans (hexRun_halt hn5 (by omega)))
            have HST5 := Lib.hid HH.out.st
            clear HH
            by_cases hn : n = 5
            · have c1 : decide ((n : Int) < 5) = false := decide_eq_false (by omega)
              clear hgo hn
              by_cases hge3 : s.size ≤ q
              · have c2 : decide (0 < tq.size) = false := decide_eq_false (by rw [HZQ.out]; omega)
                have HSK : Hid (skipWs s q = q) := Lib.hid (by unfold skipWs; rw [if_neg (by omega)])
                obtain hf | hf | hf | hf | hf : h = 0 ∨ (55296 ≤ h ∧ h ≤ 57343) ∨ 1114111 < h ∨ (h < 55296 ∧ h ≠ 0) ∨ (57343 < h ∧ h ≤ 1114111) := by omega
                · have HFX : Hid (fixR h = 65533) := Lib.hid (by subst hf; rfl)
                  have k0 : (h == 0) = true := beq_iff_eq.2 hf
                  clear hf
                  have HE2 : Hid (stepD s i = (q, 65533)) := Lib.hid (by rw [HE.out, HRUN.out, HFX.out]; exact congrArg (fun x => (x, (65533 : Int))) HSK.out)
                  go_wp2_with fail
                  have HST6 := HST5
                  have hbz6 := HST6.out.be.size
                  refine (Bl.writeRune w.heap.size w.heap.size _ 65533 (by omega) (by omega) _ HST6.out.bl (by rw [bytesV_len]; omega) hbz6).mono ?_
                  rintro e w9 ⟨rfl, hb9, hw9⟩
                  have HS9 := Lib.hid (HST6.out.next hlt HE2.out hb9 (HST6.out.be.trans hw9))
                  clear hb9 hw9
                  go_wp2_with fail
                  go_roundw
                  case rel => exact ⟨q, _, by rw [HTQ.out], HS9⟩
                  case measure => show tq.size < t.size; rw [HZQ.out, HTS.out]; omega
                · have HFX : Hid (fixR h = 65533) := Lib.hid (by unfold fixR; rw [if_pos (by omega)])
                  have k0 : (h == 0) = false := beq_eq_false_iff_ne.2 (by omega)
                  have k1 : decide (55296 ≤ h) = true := decide_eq_true (by omega)
                  have k2 : decide (h ≤ 57343) = true := decide_eq_true (by omega)
                  clear hf
                  have HE2 : Hid (stepD s i = (q, 65533)) := Lib.hid (by rw [HE.out, HRUN.out, HFX.out]; exact congrArg (fun x => (x, (65533 : Int))) HSK.out)
                  go_wp2_with fail
                  have HST6 := HST5
                  have hbz6 := HST6.out.be.size
                  refine (Bl.writeRune w.heap.size w.heap.size _ 65533 (by omega) (by omega) _ HST6.out.bl (by rw [bytesV_len]; omega) hbz6).mono ?_
                  rintro e w9 ⟨rfl, hb9, hw9⟩
                  have HS9 := Lib.hid (HST6.out.next hlt HE2.out hb9 (HST6.out.be.trans hw9))
                  clear hb9 hw9
                  go_wp2_with fail
                  go_roundw
                  case rel => exact ⟨q, _, by rw [HTQ.out], HS9⟩
                  case measure => show tq.size < t.size; rw [HZQ.out, HTS.out]; omega
                · have HFX : Hid (fixR h = 65533) := Lib.hid (by unfold fixR; rw [if_pos (by omega)])
                  have k0 : (h == 0) = false := beq_eq_false_iff_ne.2 (by omega)
                  have k1 : decide (55296 ≤ h) = true := decide_eq_true (by omega)
                  have k2 : decide (h ≤ 57343) = false := decide_eq_false (by omega)
                  have k3 : decide (1114111 < h) = true := decide_eq_true (by omega)
                  clear hf
                  have HE2 : Hid (stepD s i = (q, 65533)) := Lib.hid (by rw [HE.out, HRUN.out, HFX.out]; exact congrArg (fun x => (x, (65533 : Int))) HSK.out)
                  go_wp2_with fail
                  have HST6 := HST5
                  have hbz6 := HST6.out.be.size
                  refine (Bl.writeRune w.heap.size w.heap.size _ 65533 (by omega) (by omega) _ HST6.out.bl (by rw [bytesV_len]; omega) hbz6).mono ?_
                  rintro e w9 ⟨rfl, hb9, hw9⟩
                  have HS9 := Lib.hid (HST6.out.next hlt HE2.out hb9 (HST6.out.be.trans hw9))
                  clear hb9 hw9
                  go_wp2_with fail
                  go_roundw
                  case rel => exact ⟨q, _, by rw [HTQ.out], HS9⟩
                  case measure => show tq.size < t.size; rw [HZQ.out, HTS.out]; omega
                · have HFX : Hid (fixR h = h) := Lib.hid (by unfold fixR; rw [if_neg (by omega)])
                  have k0 : (h == 0) = false := beq_eq_false_iff_ne.2 (by omega)
                  have k1 : decide (55296 ≤ h) = false := decide_eq_false (by omega)
                  have k3 : decide (1114111 < h) = false := decide_eq_false (by omega)
                  clear hf
                  have HE2 : Hid (stepD s i = (q, h)) := Lib.hid (by rw [HE.out, HRUN.out, HFX.out]; exact congrArg (fun x => (x, (h : Int))) HSK.out)
                  go_wp2_with fail
                  have HST6 := HST5
                  have hbz6 := HST6.out.be.size
                  refine (Bl.writeRune w.heap.size w.heap.size _ h (by omega) (by omega) _ HST6.out.bl (by rw [bytesV_len]; omega) hbz6).mono ?_
                  rintro e w9 ⟨rfl, hb9, hw9⟩
                  have HS9 := Lib.hid (HST6.out.next hlt HE2.out hb9 (HST6.out.be.trans hw9))
                  clear hb9 hw9
                  go_wp2_with fail
                  go_roundw
                  case rel => exact ⟨q, _, by rw [HTQ.out], HS9⟩
                  case measure => show tq.size < t.size; rw [HZQ.out, HTS.out]; omega
                · have HFX : Hid (fixR h = h) := Lib.hid (by unfold fixR; rw [if_neg (by omega)])
                  have k0 : (h == 0) = false := beq_eq_false_iff_ne.2 (by omega)
                  have k1 : decide (55296 ≤ h) = true := decide_eq_true (by omega)
                  have k2 : decide (h ≤ 57343) = false := decide_eq_false (by omega)
                  have k3 : decide (1114111 < h) = false := decide_eq_false (by omega)
                  clear hf
                  have HE2 : Hid (stepD s i = (q, h)) := Lib.hid (by rw [HE.out, HRUN.out, HFX.out]; exact congrArg (fun x => (x, (h : Int))) HSK.out)
                  go_wp2_with fail
                  have HST6 := HST5
                  have hbz6 := HST6.out.be.size
                  refine (Bl.writeRune w.heap.size w.heap.size _ h (by omega) (by omega) _ HST6.out.bl (by rw [bytesV_len]; omega) hbz6).mono ?_
                  rintro e w9 ⟨rfl, hb9, hw9⟩
                  have HS9 := Lib.hid (HST6.out.next hlt HE2.out hb9 (HST6.out.be.trans hw9))
                  clear hb9 hw9
                  go_wp2_with fail
                  go_roundw
                  case rel => exact ⟨q, _, by rw [HTQ.out], HS9⟩
                  case measure => show tq.size < t.size; rw [HZQ.out, HTS.out]; omega
              · have g2 : q < s.size := by omega
                have c2 : decide (0 < tq.size) = true := decide_eq_true (by rw [HZQ.out]; omega)
                cases hws : wsB (rc s q)
                · have HSK : Hid (skipWs s q = q) := Lib.hid (by unfold skipWs; rw [if_neg (by rw [hws]; simp)])
                  have HWS := Lib.hid hws
                  clear hws
                  obtain hf | hf | hf | hf | hf : h = 0 ∨ (55296 ≤ h ∧ h ≤ 57343) ∨ 1114111 < h ∨ (h < 55296 ∧ h ≠ 0) ∨ (57343 < h ∧ h ≤ 1114111) := by omega
                  · have HFX : Hid (fixR h = 65533) := Lib.hid (by subst hf; rfl)
                    have k0 : (h == 0) = true := beq_iff_eq.2 hf
                    clear hf
                    have HE2 : Hid (stepD s i = (q, 65533)) := Lib.hid (by rw [HE.out, HRUN.out, HFX.out]; exact congrArg (fun x => (x, (65533 : Int))) HSK.out)
                    go_wp2_with fail
                    refine (dec s q tq HTQ.out _ (tabs_of HT.out hw HST5.out.be)).mono ?_
                    rintro e w7 ⟨rfl, hw7⟩
                    have HST6 := Lib.hid (HST5.out.below hw7)
                    have hbz6 := HST6.out.be.size
                    clear hw7 HST5
                    go_wp2_with fail
                    refine (isWs (rc s q) _).mono ?_
                    rintro e w8 ⟨rfl, rfl⟩
                    rw [HWS.out]
                    go_wp2_with fail
                    refine (Bl.writeRune w.heap.size w.heap.size _ 65533 (by omega) (by omega) _ HST6.out.bl (by rw [bytesV_len]; omega) hbz6).mono ?_
                    rintro e w9 ⟨rfl, hb9, hw9⟩
                    have HS9 := Lib.hid (HST6.out.next hlt HE2.out hb9 (HST6.out.be.trans hw9))
                    clear hb9 hw9
                    go_wp2_with fail
                    go_roundw
                    case rel => exact ⟨q, _, by rw [HTQ.out], HS9⟩
                    case measure => show tq.size < t.size; rw [HZQ.out, HTS.out]; omega
                  · have HFX : Hid (fixR h = 65533) := Lib.hid (by unfold fixR; rw [if_pos (by omega)])
                    have k0 : (h == 0) = false := beq_eq_false_iff_ne.2 (by omega)
                    have k1 : decide (55296 ≤ h) = true := decide_eq_true (by omega)
                    have k2 : decide (h ≤ 57343) = true := decide_eq_true (by omega)
                    clear hf
                    have HE2 : Hid (stepD s i = (q, 65533)) := Lib.hid (by rw [HE.out, HRUN.out, HFX.out]; exact congrArg (fun x => (x, (65533 : Int))) HSK.out)
                    go_wp2_with fail
                    refine (dec s q tq HTQ.out _ (tabs_of HT.out hw HST5.out.be)).mono ?_
                    rintro e w7 ⟨rfl, hw7⟩
                    have HST6 := Lib.hid (HST5.out.below hw7)
                    have hbz6 := HST6.out.be.size
                    clear hw7 HST5
                    go_wp2_with fail
                    refine (isWs (rc s q) _).mono ?_
                    rintro e w8 ⟨rfl, rfl⟩
                    rw [HWS.out]
                    go_wp2_with fail
                    refine (Bl.writeRune w.heap.size w.heap.size _ 65533 (by omega) (by omega) _ HST6.out.bl (by rw [bytesV_len]; omega) hbz6).mono ?_
                    rintro e w9 ⟨rfl, hb9, hw9⟩
                    have HS9 := Lib.hid (HST6.out.next hlt HE2.out hb9 (HST6.out.be.trans hw9))
                    clear hb9 hw9
                    go_wp2_with fail
                    go_roundw
                    case rel => exact ⟨q, _, by rw [HTQ.out], HS9⟩
                    case measure => show tq.size < t.size; rw [HZQ.out, HTS.out]; omega
                  · have HFX : Hid (fixR h = 65533) := Lib.hid (by unfold fixR; rw [if_pos (by omega)])
                    have k0 : (h == 0) = false := beq_eq_false_iff_ne.2 (by omega)
                    have k1 : decide (55296 ≤ h) = true := decide_eq_true (by omega)
                    have k2 : decide (h ≤ 57343) = false := decide_eq_false (by omega)
                    have k3 : decide (1114111 < h) = true := decide_eq_true (by omega)
                    clear hf
                    have HE2 : Hid (stepD s i = (q, 65533)) := Lib.hid (by rw [HE.out, HRUN.out, HFX.out]; exact congrArg (fun x => (x, (65533 : Int))) HSK.out)
                    go_wp2_with fail
                    refine (dec s q tq HTQ.out _ (tabs_of HT.out hw HST5.out.be)).mono ?_
                    rintro e w7 ⟨rfl, hw7⟩
                    have HST6 := Lib.hid (HST5.out.below hw7)
                    have hbz6 := HST6.out.be.size
                    clear hw7 HST5
                    go_wp2_with fail
                    refine (isWs (rc s q) _).mono ?_
                    rintro e w8 ⟨rfl, rfl⟩
                    rw [HWS.out]
                    go_wp2_with fail
                    refine (Bl.writeRune w.heap.size w.heap.size _ 65533 (by omega) (by omega) _ HST6.out.bl (by rw [bytesV_len]; omega) hbz6).mono ?_
                    rintro e w9 ⟨rfl, hb9, hw9⟩
                    have HS9 := Lib.hid (HST6.out.next hlt HE2.out hb9 (HST6.out.be.trans hw9))
                    clear hb9 hw9
                    go_wp2_with fail
                    go_roundw
                    case rel => exact ⟨q, _, by rw [HTQ.out], HS9⟩
                    case measure => show tq.size < t.size; rw [HZQ.out, HTS.out]; omega
                  · have HFX : Hid (fixR h = h) := Lib.hid (by unfold fixR; rw [if_neg (by omega)])
                    have k0 : (h == 0) = false := beq_eq_false_iff_ne.2 (by omega)
                    have k1 : decide (55296 ≤ h) = false := decide_eq_false (by omega)
                    have k3 : decide (1114111 < h) = false := decide_eq_false (by omega)
                    clear hf
                    have HE2 : Hid (stepD s i = (q, h)) := Lib.hid (by rw [HE.out, HRUN.out, HFX.out]; exact congrArg (fun x => (x, (h : Int))) HSK.out)
                    go_wp2_with fail
                    refine (dec s q tq HTQ.out _ (tabs_of HT.out hw HST5.out.be)).mono ?_
                    rintro e w7 ⟨rfl, hw7⟩
                    have HST6 := Lib.hid (HST5.out.below hw7)
                    have hbz6 := HST6.out.be.size
                    clear hw7 HST5
                    go_wp2_with fail
                    refine (isWs (rc s q) _).mono ?_
                    rintro e w8 ⟨rfl, rfl⟩
                    rw [HWS.out]
                    go_wp2_with fail
                    refine (Bl.writeRune w.heap.size w.heap.size _ h (by omega) (by omega) _ HST6.out.bl (by rw [bytesV_len]; omega) hbz6).mono ?_
                    rintro e w9 ⟨rfl, hb9, hw9⟩
                    have HS9 := Lib.hid (HST6.out.next hlt HE2.out hb9 (HST6.out.be.trans hw9))
                    clear hb9 hw9
                    go_wp2_with fail
                    go_roundw
                    case rel => exact ⟨q, _, by rw [HTQ.out], HS9⟩
                    case measure => show tq.size < t.size; rw [HZQ.out, HTS.out]; omega
                  · have HFX : Hid (fixR h = h) := Lib.hid (by unfold fixR; rw [if_neg (by omega)])
                    have k0 : (h == 0) = false := beq_eq_false_iff_ne.2 (by omega)
                    have k1 : decide (55296 ≤ h) = true := decide_eq_true (by omega)
                    have k2 : decide (h ≤ 57343) = false := decide_eq_false (by omega)
                    have k3 : decide (1114111 < h) = false := decide_eq_false (by omega)
                    clear hf
                    have HE2 : Hid (stepD s i = (q, h)) := Lib.hid (by rw [HE.out, HRUN.out, HFX.out]; exact congrArg (fun x => (x, (h : Int))) HSK.out)
                    go_wp2_with fail
                    refine (dec s q tq HTQ.out _ (tabs_of HT.out hw HST5.out.be)).mono ?_
                    rintro e w7 ⟨rfl, hw7⟩
                    have HST6 := Lib.hid (HST5.out.below hw7)
                    have hbz6 := HST6.out.be.size
                    clear hw7 HST5
                    go_wp2_with fail
                    refine (isWs (rc s q) _).mono ?_
                    rintro e w8 ⟨rfl, rfl⟩
                    rw [HWS.out]
                    go_wp2_with fail
                    refine (Bl.writeRune w.heap.size w.heap.size _ h (by omega) (by omega) _ HST6.out.bl (by rw [bytesV_len]; omega) hbz6).mono ?_
                    rintro e w9 ⟨rfl, hb9, hw9⟩
                    have HS9 := Lib.hid (HST6.out.next hlt HE2.out hb9 (HST6.out.be.trans hw9))
                    clear hb9 hw9
                    go_wp2_with fail
                    go_roundw
                    case rel => exact ⟨q, _, by rw [HTQ.out], HS9⟩
                    case measure => show tq.size < t.size; rw [HZQ.out, HTS.out]; omega
                · have HSK : Hid (skipWs s q = q + rw' s q) := Lib.hid (by unfold skipWs; rw [if_pos ⟨by omega, hws⟩])
                  have HWS := Lib.hid hws
                  clear hws
                  obtain hf | hf | hf | hf | hf : h = 0 ∨ (55296 ≤ h ∧ h ≤ 57343) ∨ 1114111 < h ∨ (h < 55296 ∧ h ≠ 0) ∨ (57343 < h ∧ h ≤ 1114111) := by omega
                  · have HFX : Hid (fixR h = 65533) := Lib.hid (by subst hf; rfl)
                    have k0 : (h == 0) = true := beq_iff_eq.2 hf
                    clear hf
                    have HE2 : Hid (stepD s i = (q + rw' s q, 65533)) := Lib.hid (by rw [HE.out, HRUN.out, HFX.out]; exact congrArg (fun x => (x, (65533 : Int))) HSK.out)
                    go_wp2_with fail
                    refine (dec s q tq HTQ.out _ (tabs_of HT.out hw HST5.out.be)).mono ?_
                    rintro e w7 ⟨rfl, hw7⟩
                    have HST6 := Lib.hid (HST5.out.below hw7)
                    have hbz6 := HST6.out.be.size
                    clear hw7 HST5
                    go_wp2_with fail
                    refine (isWs (rc s q) _).mono ?_
                    rintro e w8 ⟨rfl, rfl⟩
                    rw [HWS.out]
                    go_wp2_with fail
                    refine (Bl.writeRune w.heap.size w.heap.size _ 65533 (by omega) (by omega) _ HST6.out.bl (by rw [bytesV_len]; omega) hbz6).mono ?_
                    rintro e w9 ⟨rfl, hb9, hw9⟩
                    have HS9 := Lib.hid (HST6.out.next hlt HE2.out hb9 (HST6.out.be.trans hw9))
                    clear hb9 hw9
                    go_wp2_with fail
                    go_roundw
                    case rel => exact ⟨q + rw' s q, _, by rw [HTR.out], HS9⟩
                    case measure => show tr.size < t.size; rw [HZR.out, HTS.out]; omega
                  · have HFX : Hid (fixR h = 65533) := Lib.hid (by unfold fixR; rw [if_pos (by omega)])
                    have k0 : (h == 0) = false := beq_eq_false_iff_ne.2 (by omega)
                    have k1 : decide (55296 ≤ h) = true := decide_eq_true (by omega)
                    have k2 : decide (h ≤ 57343) = true := decide_eq_true (by omega)
                    clear hf
                    have HE2 : Hid (stepD s i = (q + rw' s q, 65533)) := Lib.hid (by rw [HE.out, HRUN.out, HFX.out]; exact congrArg (fun x => (x, (65533 : Int))) HSK.out)
                    go_wp2_with fail
                    refine (dec s q tq HTQ.out _ (tabs_of HT.out hw HST5.out.be)).mono ?_
                    rintro e w7 ⟨rfl, hw7⟩
                    have HST6 := Lib.hid (HST5.out.below hw7)
                    have hbz6 := HST6.out.be.size
                    clear hw7 HST5
                    go_wp2_with fail
                    refine (isWs (rc s q) _).mono ?_
                    rintro e w8 ⟨rfl, rfl⟩
                    rw [HWS.out]
                    go_wp2_with fail
                    refine (Bl.writeRune w.heap.size w.heap.size _ 65533 (by omega) (by omega) _ HST6.out.bl (by rw [bytesV_len]; omega) hbz6).mono ?_
                    rintro e w9 ⟨rfl, hb9, hw9⟩
                    have HS9 := Lib.hid (HST6.out.next hlt HE2.out hb9 (HST6.out.be.trans hw9))
                    clear hb9 hw9
                    go_wp2_with fail
                    go_roundw
                    case rel => exact ⟨q + rw' s q, _, by rw [HTR.out], HS9⟩
                    case measure => show tr.size < t.size; rw [HZR.out, HTS.out]; omega
                  · have HFX : Hid (fixR h = 65533) := Lib.hid (by unfold fixR; rw [if_pos (by omega)])
                    have k0 : (h == 0) = false := beq_eq_false_iff_ne.2 (by omega)
                    have k1 : decide (55296 ≤ h) = true := decide_eq_true (by omega)
                    have k2 : decide (h ≤ 57343) = false := decide_eq_false (by omega)
                    have k3 : decide (1114111 < h) = true := decide_eq_true (by omega)
                    clear hf
                    have HE2 : Hid (stepD s i = (q + rw' s q, 65533)) := Lib.hid (by rw [HE.out, HRUN.out, HFX.out]; exact congrArg (fun x => (x, (65533 : Int))) HSK.out)
                    go_wp2_with fail
                    refine (dec s q tq HTQ.out _ (tabs_of HT.out hw HST5.out.be)).mono ?_
                    rintro e w7 ⟨rfl, hw7⟩
                    have HST6 := Lib.hid (HST5.out.below hw7)
                    have hbz6 := HST6.out.be.size
                    clear hw7 HST5
                    go_wp2_with fail
                    refine (isWs (rc s q) _).mono ?_
                    rintro e w8 ⟨rfl, rfl⟩
                    rw [HWS.out]
                    go_wp2_with fail
                    refine (Bl.writeRune w.heap.size w.heap.size _ 65533 (by omega) (by omega) _ HST6.out.bl (by rw [bytesV_len]; omega) hbz6).mono ?_
                    rintro e w9 ⟨rfl, hb9, hw9⟩
                    have HS9 := Lib.hid (HST6.out.next hlt HE2.out hb9 (HST6.out.be.trans hw9))
                    clear hb9 hw9
                    go_wp2_with fail
                    go_roundw
                    case rel => exact ⟨q + rw' s q, _, by rw [HTR.out], HS9⟩
                    case measure => show tr.size < t.size; rw [HZR.out, HTS.out]; omega
                  · have HFX : Hid (fixR h = h) := Lib.hid (by unfold fixR; rw [if_neg (by omega)])
                    have k0 : (h == 0) = false := beq_eq_false_iff_ne.2 (by omega)
                    have k1 : decide (55296 ≤ h) = false := decide_eq_false (by omega)
                    have k3 : decide (1114111 < h) = false := decide_eq_false (by omega)
                    clear hf
                    have HE2 : Hid (stepD s i = (q + rw' s q, h)) := Lib.hid (by rw [HE.out, HRUN.out, HFX.out]; exact congrArg (fun x => (x, (h : Int))) HSK.out)
                    go_wp2_with fail
                    refine (dec s q tq HTQ.out _ (tabs_of HT.out hw HST5.out.be)).mono ?_
                    rintro e w7 ⟨rfl, hw7⟩
                    have HST6 := Lib.hid (HST5.out.below hw7)
                    have hbz6 := HST6.out.be.size
                    clear hw7 HST5
                    go_wp2_with fail
                    refine (isWs (rc s q) _).mono ?_
                    rintro e w8 ⟨rfl, rfl⟩
                    rw [HWS.out]
                    go_wp2_with fail
                    refine (Bl.writeRune w.heap.size w.heap.size _ h (by omega) (by omega) _ HST6.out.bl (by rw [bytesV_len]; omega) hbz6).mono ?_
                    rintro e w9 ⟨rfl, hb9, hw9⟩
                    have HS9 := Lib.hid (HST6.out.next hlt HE2.out hb9 (HST6.out.be.trans hw9))
                    clear hb9 hw9
                    go_wp2_with fail
                    go_roundw
                    case rel => exact ⟨q + rw' s q, _, by rw [HTR.out], HS9⟩
                    case measure => show tr.size < t.size; rw [HZR.out, HTS.out]; omega
                  · have HFX : Hid (fixR h = h) := Lib.hid (by unfold fixR; rw [if_neg (by omega)])
                    have k0 : (h == 0) = false := beq_eq_false_iff_ne.2 (by omega)
                    have k1 : decide (55296 ≤ h) = true := decide_eq_true (by omega)
                    have k2 : decide (h ≤ 57343) = false := decide_eq_false (by omega)
                    have k3 : decide (1114111 < h) = false := decide_eq_false (by omega)
                    clear hf
                    have HE2 : Hid (stepD s i = (q + rw' s q, h)) := Lib.hid (by rw [HE.out, HRUN.out, HFX.out]; exact congrArg (fun x => (x, (h : Int))) HSK.out)
                    go_wp2_with fail
                    refine (dec s q tq HTQ.out _ (tabs_of HT.out hw HST5.out.be)).mono ?_
                    rintro e w7 ⟨rfl, hw7⟩
                    have HST6 := Lib.hid (HST5.out.below hw7)
                    have hbz6 := HST6.out.be.size
                    clear hw7 HST5
                    go_wp2_with fail
                    refine (isWs (rc s q) _).mono ?_
                    rintro e w8 ⟨rfl, rfl⟩
                    rw [HWS.out]
                    go_wp2_with fail
                    refine (Bl.writeRune w.heap.size w.heap.size _ h (by omega) (by omega) _ HST6.out.bl (by rw [bytesV_len]; omega) hbz6).mono ?_
                    rintro e w9 ⟨rfl, hb9, hw9⟩
                    have HS9 := Lib.hid (HST6.out.next hlt HE2.out hb9 (HST6.out.be.trans hw9))
                    clear hb9 hw9
                    go_wp2_with fail
                    go_roundw
                    case rel => exact ⟨q + rw' s q, _, by rw [HTR.out], HS9⟩
                    case measure => show tr.size < t.size; rw [HZR.out, HTS.out]; omega
            have c1 : decide ((n : Int) < 5) = true := decide_eq_true (by omega)
            by_cases hge3 : s.size ≤ q
            · clear hgo
              have c2 : decide (0 < tq.size) = false := decide_eq_false (by rw [HZQ.out]; omega)
              have HSK : Hid (skipWs s q = q) := Lib.hid (by unfold skipWs; rw [if_neg (by omega)])
              obtain hf | hf | hf | hf | hf : h = 0 ∨ (55296 ≤ h ∧ h ≤ 57343) ∨ 1114111 < h ∨ (h < 55296 ∧ h ≠ 0) ∨ (57343 < h ∧ h ≤ 1114111) := by omega
              · have HFX : Hid (fixR h = 65533) := Lib.hid (by subst hf; rfl)
                have k0 : (h == 0) = true := beq_iff_eq.2 hf
                clear hf
                have HE2 : Hid (stepD s i = (q, 65533)) := Lib.hid (by rw [HE.out, HRUN.out, HFX.out]; exact congrArg (fun x => (x, (65533 : Int))) HSK.out)
                go_wp2_with fail
                have HST6 := HST5
                have hbz6 := HST6.out.be.size
                refine (Bl.writeRune w.heap.size w.heap.size _ 65533 (by omega) (by omega) _ HST6.out.bl (by rw [bytesV_len]; omega) hbz6).mono ?_
                rintro e w9 ⟨rfl, hb9, hw9⟩
                have HS9 := Lib.hid (HST6.out.next hlt HE2.out hb9 (HST6.out.be.trans hw9))
                clear hb9 hw9
                go_wp2_with fail
                go_roundw
                case rel => exact ⟨q, _, by rw [HTQ.out], HS9⟩
                case measure => show tq.size < t.size; rw [HZQ.out, HTS.out]; omega
              · have HFX : Hid (fixR h = 65533) := Lib.hid (by unfold fixR; rw [if_pos (by omega)])
                have k0 : (h == 0) = false := beq_eq_false_iff_ne.2 (by omega)
                have k1 : decide (55296 ≤ h) = true := decide_eq_true (by omega)
                have k2 : decide (h ≤ 57343) = true := decide_eq_true (by omega)
                clear hf
                have HE2 : Hid (stepD s i = (q, 65533)) := Lib.hid (by rw [HE.out, HRUN.out, HFX.out]; exact congrArg (fun x => (x, (65533 : Int))) HSK.out)
                go_wp2_with fail
                have HST6 := HST5
                have hbz6 := HST6.out.be.size
                refine (Bl.writeRune w.heap.size w.heap.size _ 65533 (by omega) (by omega) _ HST6.out.bl (by rw [bytesV_len]; omega) hbz6).mono ?_
                rintro e w9 ⟨rfl, hb9, hw9⟩
                have HS9 := Lib.hid (HST6.out.next hlt HE2.out hb9 (HST6.out.be.trans hw9))
                clear hb9 hw9
                go_wp2_with fail
                go_roundw
                case rel => exact ⟨q, _, by rw [HTQ.out], HS9⟩
                case measure => show tq.size < t.size; rw [HZQ.out, HTS.out]; omega
              · have HFX : Hid (fixR h = 65533) := Lib.hid (by unfold fixR; rw [if_pos (by omega)])
                have k0 : (h == 0) = false := beq_eq_false_iff_ne.2 (by omega)
                have k1 : decide (55296 ≤ h) = true := decide_eq_true (by omega)
                have k2 : decide (h ≤ 57343) = false := decide_eq_false (by omega)
                have k3 : decide (1114111 < h) = true := decide_eq_true (by omega)
                clear hf
                have HE2 : Hid (stepD s i = (q, 65533)) := Lib.hid (by rw [HE.out, HRUN.out, HFX.out]; exact congrArg (fun x => (x, (65533 : Int))) HSK.out)
                go_wp2_with fail
                have HST6 := HST5
                have hbz6 := HST6.out.be.size
                refine (Bl.writeRune w.heap.size w.heap.size _ 65533 (by omega) (by omega) _ HST6.out.bl (by rw [bytesV_len]; omega) hbz6).mono ?_
                rintro e w9 ⟨rfl, hb9, hw9⟩
                have HS9 := Lib.hid (HST6.out.next hlt HE2.out hb9 (HST6.out.be.trans hw9))
                clear hb9 hw9
                go_wp2_with fail
                go_roundw
                case rel => exact ⟨q, _, by rw [HTQ.out], HS9⟩
                case measure => show tq.size < t.size; rw [HZQ.out, HTS.out]; omega
              · have HFX : Hid (fixR h = h) := Lib.hid (by unfold fixR; rw [if_neg (by omega)])
                have k0 : (h == 0) = false := beq_eq_false_iff_ne.2 (by omega)
                have k1 : decide (55296 ≤ h) = false := decide_eq_false (by omega)
                have k3 : decide (1114111 < h) = false := decide_eq_false (by omega)
                clear hf
                have HE2 : Hid (stepD s i = (q, h)) := Lib.hid (by rw [HE.out, HRUN.out, HFX.out]; exact congrArg (fun x => (x, (h : Int))) HSK.out)
                go_wp2_with fail
                have HST6 := HST5
                have hbz6 := HST6.out.be.size
                refine (Bl.writeRune w.heap.size w.heap.size _ h (by omega) (by omega) _ HST6.out.bl (by rw [bytesV_len]; omega) hbz6).mono ?_
                rintro e w9 ⟨rfl, hb9, hw9⟩
                have HS9 := Lib.hid (HST6.out.next hlt HE2.out hb9 (HST6.out.be.trans hw9))
                clear hb9 hw9
                go_wp2_with fail
                go_roundw
                case rel => exact ⟨q, _, by rw [HTQ.out], HS9⟩
                case measure => show tq.size < t.size; rw [HZQ.out, HTS.out]; omega
              · have HFX : Hid (fixR h = h) := Lib.hid (by unfold fixR; rw [if_neg (by omega)])
                have k0 : (h == 0) = false := beq_eq_false_iff_ne.2 (by omega)
                have k1 : decide (55296 ≤ h) = true := decide_eq_true (by omega)
                have k2 : decide (h ≤ 57343) = false := decide_eq_false (by omega)
                have k3 : decide (1114111 < h) = false := decide_eq_false (by omega)
                clear hf
                have HE2 : Hid (stepD s i = (q, h)) := Lib.hid (by rw [HE.out, HRUN.out, HFX.out]; exact congrArg (fun x => (x, (h : Int))) HSK.out)
                go_wp2_with fail
                have HST6 := HST5
                have hbz6 := HST6.out.be.size
                refine (Bl.writeRune w.heap.size w.heap.size _ h (by omega) (by omega) _ HST6.out.bl (by rw [bytesV_len]; omega) hbz6).mono ?_
                rintro e w9 ⟨rfl, hb9, hw9⟩
                have HS9 := Lib.hid (HST6.out.next hlt HE2.out hb9 (HST6.out.be.trans hw9))
                clear hb9 hw9
                go_wp2_with fail
                go_roundw
                case rel => exact ⟨q, _, by rw [HTQ.out], HS9⟩
                case measure => show tq.size < t.size; rw [HZQ.out, HTS.out]; omega
            have g2 : q < s.size := by omega
            have HNX : Hid (hexB (rc s q) = false) := Lib.hid (decide_eq_false (by omega))
            clear hgo
            skip
            have c2 : decide (0 < tq.size) = true := decide_eq_true (by rw [HZQ.out]; omega)
            cases hws : wsB (rc s q)
            · have HSK : Hid (skipWs s q = q) := Lib.hid (by unfold skipWs; rw [if_neg (by rw [hws]; simp)])
              have HWS := Lib.hid hws
              clear hws
              obtain hf | hf | hf | hf | hf : h = 0 ∨ (55296 ≤ h ∧ h ≤ 57343) ∨ 1114111 < h ∨ (h < 55296 ∧ h ≠ 0) ∨ (57343 < h ∧ h ≤ 1114111) := by omega
              · have HFX : Hid (fixR h = 65533) := Lib.hid (by subst hf; rfl)
                have k0 : (h == 0) = true := beq_iff_eq.2 hf
                clear hf
                have HE2 : Hid (stepD s i = (q, 65533)) := Lib.hid (by rw [HE.out, HRUN.out, HFX.out]; exact congrArg (fun x => (x, (65533 : Int))) HSK.out)
                go_wp2_with fail
                refine (dec s q tq HTQ.out _ (tabs_of HT.out hw HST5.out.be)).mono ?_
                rintro e w5 ⟨rfl, hw5⟩
                have HST7 := Lib.hid (HST5.out.below hw5)
                clear hw5 HST5
                have HST5 := HST7
                clear HST7
                go_wp2_with fail
                refine (isHex (rc s q) (by omega) (by omega) _).mono ?_
                rintro e w6 ⟨rfl, rfl⟩
                rw [HNX.out]
                go_wp2_with fail
                refine (dec s q tq HTQ.out _ (tabs_of HT.out hw HST5.out.be)).mono ?_
                rintro e w7 ⟨rfl, hw7⟩
                have HST6 := Lib.hid (HST5.out.below hw7)
                have hbz6 := HST6.out.be.size
                clear hw7 HST5
                go_wp2_with fail
                refine (isWs (rc s q) _).mono ?_
                rintro e w8 ⟨rfl, rfl⟩
                rw [HWS.out]
                go_wp2_with fail
                refine (Bl.writeRune w.heap.size w.heap.size _ 65533 (by omega) (by omega) _ HST6.out.bl (by rw [bytesV_len]; omega) hbz6).mono ?_
                rintro e w9 ⟨rfl, hb9, hw9⟩
                have HS9 := Lib.hid (HST6.out.next hlt HE2.out hb9 (HST6.out.be.trans hw9))
                clear hb9 hw9
                go_wp2_with fail
                go_roundw
                case rel => exact ⟨q, _, by rw [HTQ.out], HS9⟩
                case measure => show tq.size < t.size; rw [HZQ.out, HTS.out]; omega
              · have HFX : Hid (fixR h = 65533) := Lib.hid (by unfold fixR; rw [if_pos (by omega)])
                have k0 : (h == 0) = false := beq_eq_false_iff_ne.2 (by omega)
                have k1 : decide (55296 ≤ h) = true := decide_eq_true (by omega)
                have k2 : decide (h ≤ 57343) = true := decide_eq_true (by omega)
                clear hf
                have HE2 : Hid (stepD s i = (q, 65533)) := Lib.hid (by rw [HE.out, HRUN.out, HFX.out]; exact congrArg (fun x => (x, (65533 : Int))) HSK.out)
                go_wp2_with fail
                refine (dec s q tq HTQ.out _ (tabs_of HT.out hw HST5.out.be)).mono ?_
                rintro e w5 ⟨rfl, hw5⟩
                have HST7 := Lib.hid (HST5.out.below hw5)
                clear hw5 HST5
                have HST5 := HST7
                clear HST7
                go_wp2_with fail
                refine (isHex (rc s q) (by omega) (by omega) _).mono ?_
                rintro e w6 ⟨rfl, rfl⟩
                rw [HNX.out]
                go_wp2_with fail
                refine (dec s q tq HTQ.out _ (tabs_of HT.out hw HST5.out.be)).mono ?_
                rintro e w7 ⟨rfl, hw7⟩
                have HST6 := Lib.hid (HST5.out.below hw7)
                have hbz6 := HST6.out.be.size
                clear hw7 HST5
                go_wp2_with fail
                refine (isWs (rc s q) _).mono ?_
                rintro e w8 ⟨rfl, rfl⟩
                rw [HWS.out]
                go_wp2_with fail
                refine (Bl.writeRune w.heap.size w.heap.size _ 65533 (by omega) (by omega) _ HST6.out.bl (by rw [bytesV_len]; omega) hbz6).mono ?_
                rintro e w9 ⟨rfl, hb9, hw9⟩
                have HS9 := Lib.hid (HST6.out.next hlt HE2.out hb9 (HST6.out.be.trans hw9))
                clear hb9 hw9
                go_wp2_with fail
                go_roundw
                case rel => exact ⟨q, _, by rw [HTQ.out], HS9⟩
                case measure => show tq.size < t.size; rw [HZQ.out, HTS.out]; omega
              · have HFX : Hid (fixR h = 65533) := Lib.hid (by unfold fixR; rw [if_pos (by omega)])
                have k0 : (h == 0) = false := beq_eq_false_iff_ne.2 (by omega)
                have k1 : decide (55296 ≤ h) = true := decide_eq_true (by omega)
                have k2 : decide (h ≤ 57343) = false := decide_eq_false (by omega)
                have k3 : decide (1114111 < h) = true := decide_eq_true (by omega)
                clear hf
                have HE2 : Hid (stepD s i = (q, 65533)) := Lib.hid (by rw [HE.out, HRUN.out, HFX.out]; exact congrArg (fun x => (x, (65533 : Int))) HSK.out)
                go_wp2_with fail
                refine (dec s q tq HTQ.out _ (tabs_of HT.out hw HST5.out.be)).mono ?_
                rintro e w5 ⟨rfl, hw5⟩
                have HST7 := Lib.hid (HST5.out.below hw5)
                clear hw5 HST5
                have HST5 := HST7
                clear HST7
                go_wp2_with fail
                refine (isHex (rc s q) (by omega) (by omega) _).mono ?_
                rintro e w6 ⟨rfl, rfl⟩
                rw [HNX.out]
                go_wp2_with fail
                refine (dec s q tq HTQ.out _ (tabs_of HT.out hw HST5.out.be)).mono ?_
                rintro e w7 ⟨rfl, hw7⟩
                have HST6 := Lib.hid (HST5.out.below hw7)
                have hbz6 := HST6.out.be.size
                clear hw7 HST5
                go_wp2_with fail
                refine (isWs (rc s q) _).mono ?_
                rintro e w8 ⟨rfl, rfl⟩
                rw [HWS.out]
                go_wp2_with fail
                refine (Bl.writeRune w.heap.size w.heap.size _ 65533 (by omega) (by omega) _ HST6.out.bl (by rw [bytesV_len]; omega) hbz6).mono ?_
                rintro e w9 ⟨rfl, hb9, hw9⟩
                have HS9 := Lib.hid (HST6.out.next hlt HE2.out hb9 (HST6.out.be.trans hw9))
                clear hb9 hw9
                go_wp2_with fail
                go_roundw
                case rel => exact ⟨q, _, by rw [HTQ.out], HS9⟩
                case measure => show tq.size < t.size; rw [HZQ.out, HTS.out]; omega
              · have HFX : Hid (fixR h = h) := Lib.hid (by unfold fixR; rw [if_neg (by omega)])
                have k0 : (h == 0) = false := beq_eq_false_iff_ne.2 (by omega)
                have k1 : decide (55296 ≤ h) = false := decide_eq_false (by omega)
                have k3 : decide (1114111 < h) = false := decide_eq_false (by omega)
                clear hf
                have HE2 : Hid (stepD s i = (q, h)) := Lib.hid (by rw [HE.out, HRUN.out, HFX.out]; exact congrArg (fun x => (x, (h : Int))) HSK.out)
                go_wp2_with fail
                refine (dec s q tq HTQ.out _ (tabs_of HT.out hw HST5.out.be)).mono ?_
                rintro e w5 ⟨rfl, hw5⟩
                have HST7 := Lib.hid (HST5.out.below hw5)
                clear hw5 HST5
                have HST5 := HST7
                clear HST7
                go_wp2_with fail
                refine (isHex (rc s q) (by omega) (by omega) _).mono ?_
                rintro e w6 ⟨rfl, rfl⟩
                rw [HNX.out]
                go_wp2_with fail
                refine (dec s q tq HTQ.out _ (tabs_of HT.out hw HST5.out.be)).mono ?_
                rintro e w7 ⟨rfl, hw7⟩
                have HST6 := Lib.hid (HST5.out.below hw7)
                have hbz6 := HST6.out.be.size
                clear hw7 HST5
                go_wp2_with fail
                refine (isWs (rc s q) _).mono ?_
                rintro e w8 ⟨rfl, rfl⟩
                rw [HWS.out]
                go_wp2_with fail
                refine (Bl.writeRune w.heap.size w.heap.size _ h (by omega) (by omega) _ HST6.out.bl (by rw [bytesV_len]; omega) hbz6).mono ?_
                rintro e w9 ⟨rfl, hb9, hw9⟩
                have HS9 := Lib.hid (HST6.out.next hlt HE2.out hb9 (HST6.out.be.trans hw9))
                clear hb9 hw9
                go_wp2_with fail
                go_roundw
                case rel => exact ⟨q, _, by rw [HTQ.out], HS9⟩
                case measure => show tq.size < t.size; rw [HZQ.out, HTS.out]; omega
              · have HFX : Hid (fixR h = h) := Lib.hid (by unfold fixR; rw [if_neg (by omega)])
                have k0 : (h == 0) = false := beq_eq_false_iff_ne.2 (by omega)
                have k1 : decide (55296 ≤ h) = true := decide_eq_true (by omega)
                have k2 : decide (h ≤ 57343) = false := decide_eq_false (by omega)
                have k3 : decide (1114111 < h) = false := decide_eq_false (by omega)
                clear hf
                have HE2 : Hid (stepD s i = (q, h)) := Lib.hid (by rw [HE.out, HRUN.out, HFX.out]; exact congrArg (fun x => (x, (h : Int))) HSK.out)
                go_wp2_with fail
                refine (dec s q tq HTQ.out _ (tabs_of HT.out hw HST5.out.be)).mono ?_
                rintro e w5 ⟨rfl, hw5⟩
                have HST7 := Lib.hid (HST5.out.below hw5)
                clear hw5 HST5
                have HST5 := HST7
                clear HST7
                go_wp2_with fail
                refine (isHex (rc s q) (by omega) (by omega) _).mono ?_
                rintro e w6 ⟨rfl, rfl⟩
                rw [HNX.out]
                go_wp2_with fail
                refine (dec s q tq HTQ.out _ (tabs_of HT.out hw HST5.out.be)).mono ?_
                rintro e w7 ⟨rfl, hw7⟩
                have HST6 := Lib.hid (HST5.out.below hw7)
                have hbz6 := HST6.out.be.size
                clear hw7 HST5
                go_wp2_with fail
                refine (isWs (rc s q) _).mono ?_
                rintro e w8 ⟨rfl, rfl⟩
                rw [HWS.out]
                go_wp2_with fail
                refine (Bl.writeRune w.heap.size w.heap.size _ h (by omega) (by omega) _ HST6.out.bl (by rw [bytesV_len]; omega) hbz6).mono ?_
                rintro e w9 ⟨rfl, hb9, hw9⟩
                have HS9 := Lib.hid (HST6.out.next hlt HE2.out hb9 (HST6.out.be.trans hw9))
                clear hb9 hw9
                go_wp2_with fail
                go_roundw
                case rel => exact ⟨q, _, by rw [HTQ.out], HS9⟩
                case measure => show tq.size < t.size; rw [HZQ.out, HTS.out]; omega
            · have HSK : Hid (skipWs s q = q + rw' s q) := Lib.hid (by unfold skipWs; rw [if_pos ⟨by omega, hws⟩])
              have HWS := Lib.hid hws
              clear hws
              obtain hf | hf | hf | hf | hf : h = 0 ∨ (55296 ≤ h ∧ h ≤ 57343) ∨ 1114111 < h ∨ (h < 55296 ∧ h ≠ 0) ∨ (57343 < h ∧ h ≤ 1114111) := by omega
              · have HFX : Hid (fixR h = 65533) := Lib.hid (by subst hf; rfl)
                have k0 : (h == 0) = true := beq_iff_eq.2 hf
                clear hf
                have HE2 : Hid (stepD s i = (q + rw' s q, 65533)) := Lib.hid (by rw [HE.out, HRUN.out, HFX.out]; exact congrArg (fun x => (x, (65533 : Int))) HSK.out)
                go_wp2_with fail
                refine (dec s q tq HTQ.out _ (tabs_of HT.out hw HST5.out.be)).mono ?_
                rintro e w5 ⟨rfl, hw5⟩
                have HST7 := Lib.hid (HST5.out.below hw5)
                clear hw5 HST5
                have HST5 := HST7
                clear HST7
                go_wp2_with fail
                refine (isHex (rc s q) (by omega) (by omega) _).mono ?_
                rintro e w6 ⟨rfl, rfl⟩
                rw [HNX.out]
                go_wp2_with fail
                refine (dec s q tq HTQ.out _ (tabs_of HT.out hw HST5.out.be)).mono ?_
                rintro e w7 ⟨rfl, hw7⟩
                have HST6 := Lib.hid (HST5.out.below hw7)
                have hbz6 := HST6.out.be.size
                clear hw7 HST5
                go_wp2_with fail
                refine (isWs (rc s q) _).mono ?_
                rintro e w8 ⟨rfl, rfl⟩
                rw [HWS.out]
                go_wp2_with fail
                refine (Bl.writeRune w.heap.size w.heap.size _ 65533 (by omega) (by omega) _ HST6.out.bl (by rw [bytesV_len]; omega) hbz6).mono ?_
                rintro e w9 ⟨rfl, hb9, hw9⟩
                have HS9 := Lib.hid (HST6.out.next hlt HE2.out hb9 (HST6.out.be.trans hw9))
                clear hb9 hw9
                go_wp2_with fail
                go_roundw
                case rel => exact ⟨q + rw' s q, _, by rw [HTR.out], HS9⟩
                case measure => show tr.size < t.size; rw [HZR.out, HTS.out]; omega
              · have HFX : Hid (fixR h = 65533) := Lib.hid (by unfold fixR; rw [if_pos (by omega)])
                have k0 : (h == 0) = false := beq_eq_false_iff_ne.2 (by omega)
                have k1 : decide (55296 ≤ h) = true := decide_eq_true (by omega)
                have k2 : decide (h ≤ 57343) = true := decide_eq_true (by omega)
                clear hf
                have HE2 : Hid (stepD s i = (q + rw' s q, 65533)) := Lib.hid (by rw [HE.out, HRUN.out, HFX.out]; exact congrArg (fun x => (x, (65533 : Int))) HSK.out)
                go_wp2_with fail
                refine (dec s q tq HTQ.out _ (tabs_of HT.out hw HST5.out.be)).mono ?_
                rintro e w5 ⟨rfl, hw5⟩
                have HST7 := Lib.hid (HST5.out.below hw5)
                clear hw5 HST5
                have HST5 := HST7
                clear HST7
                go_wp2_with fail
                refine (isHex (rc s q) (by omega) (by omega) _).mono ?_
                rintro e w6 ⟨rfl, rfl⟩
                rw [HNX.out]
                go_wp2_with fail
                refine (dec s q tq HTQ.out _ (tabs_of HT.out hw HST5.out.be)).mono ?_
                rintro e w7 ⟨rfl, hw7⟩
                have HST6 := Lib.hid (HST5.out.below hw7)
                have hbz6 := HST6.out.be.size
                clear hw7 HST5
                go_wp2_with fail
                refine (isWs (rc s q) _).mono ?_
                rintro e w8 ⟨rfl, rfl⟩
                rw [HWS.out]
                go_wp2_with fail
                refine (Bl.writeRune w.heap.size w.heap.size _ 65533 (by omega) (by omega) _ HST6.out.bl (by rw [bytesV_len]; omega) hbz6).mono ?_
                rintro e w9 ⟨rfl, hb9, hw9⟩
                have HS9 := Lib.hid (HST6.out.next hlt HE2.out hb9 (HST6.out.be.trans hw9))
                clear hb9 hw9
                go_wp2_with fail
                go_roundw
                case rel => exact ⟨q + rw' s q, _, by rw [HTR.out], HS9⟩
                case measure => show tr.size < t.size; rw [HZR.out, HTS.out]; omega
              · have HFX : Hid (fixR h = 65533) := Lib.hid (by unfold fixR; rw [if_pos (by omega)])
                have k0 : (h == 0) = false := beq_eq_false_iff_ne.2 (by omega)
                have k1 : decide (55296 ≤ h) = true := decide_eq_true (by omega)
                have k2 : decide (h ≤ 57343) = false := decide_eq_false (by omega)
                have k3 : decide (1114111 < h) = true := decide_eq_true (by omega)
                clear hf
                have HE2 : Hid (stepD s i = (q + rw' s q, 65533)) := Lib.hid (by rw [HE.out, HRUN.out, HFX.out]; exact congrArg (fun x => (x, (65533 : Int))) HSK.out)
                go_wp2_with fail
                refine (dec s q tq HTQ.out _ (tabs_of HT.out hw HST5.out.be)).mono ?_
                rintro e w5 ⟨rfl, hw5⟩
                have HST7 := Lib.hid (HST5.out.below hw5)
                clear hw5 HST5
                have HST5 := HST7
                clear HST7
                go_wp2_with fail
                refine (isHex (rc s q) (by omega) (by omega) _).mono ?_
                rintro e w6 ⟨rfl, rfl⟩
                rw [HNX.out]
                go_wp2_with fail
                refine (dec s q tq HTQ.out _ (tabs_of HT.out hw HST5.out.be)).mono ?_
                rintro e w7 ⟨rfl, hw7⟩
                have HST6 := Lib.hid (HST5.out.below hw7)
                have hbz6 := HST6.out.be.size
                clear hw7 HST5
                go_wp2_with fail
                refine (isWs (rc s q) _).mono ?_
                rintro e w8 ⟨rfl, rfl⟩
                rw [HWS.out]
                go_wp2_with fail
                refine (Bl.writeRune w.heap.size w.heap.size _ 65533 (by omega) (by omega) _ HST6.out.bl (by rw [bytesV_len]; omega) hbz6).mono ?_
                rintro e w9 ⟨rfl, hb9, hw9⟩
                have HS9 := Lib.hid (HST6.out.next hlt HE2.out hb9 (HST6.out.be.trans hw9))
                clear hb9 hw9
                go_wp2_with fail
                go_roundw
                case rel => exact ⟨q + rw' s q, _, by rw [HTR.out], HS9⟩
                case measure => show tr.size < t.size; rw [HZR.out, HTS.out]; omega
              · have HFX : Hid (fixR h = h) := Lib.hid (by unfold fixR; rw [if_neg (by omega)])
                have k0 : (h == 0) = false := beq_eq_false_iff_ne.2 (by omega)
                have k1 : decide (55296 ≤ h) = false := decide_eq_false (by omega)
                have k3 : decide (1114111 < h) = false := decide_eq_false (by omega)
                clear hf
                have HE2 : Hid (stepD s i = (q + rw' s q, h)) := Lib.hid (by rw [HE.out, HRUN.out, HFX.out]; exact congrArg (fun x => (x, (h : Int))) HSK.out)
                go_wp2_with fail
                refine (dec s q tq HTQ.out _ (tabs_of HT.out hw HST5.out.be)).mono ?_
                rintro e w5 ⟨rfl, hw5⟩
                have HST7 := Lib.hid (HST5.out.below hw5)
                clear hw5 HST5
                have HST5 := HST7
                clear HST7
                go_wp2_with fail
                refine (isHex (rc s q) (by omega) (by omega) _).mono ?_
                rintro e w6 ⟨rfl, rfl⟩
                rw [HNX.out]
                go_wp2_with fail
                refine (dec s q tq HTQ.out _ (tabs_of HT.out hw HST5.out.be)).mono ?_
                rintro e w7 ⟨rfl, hw7⟩
                have HST6 := Lib.hid (HST5.out.below hw7)
                have hbz6 := HST6.out.be.size
                clear hw7 HST5
                go_wp2_with fail
                refine (isWs (rc s q) _).mono ?_
                rintro e w8 ⟨rfl, rfl⟩
                rw [HWS.out]
                go_wp2_with fail
                refine (Bl.writeRune w.heap.size w.heap.size _ h (by omega) (by omega) _ HST6.out.bl (by rw [bytesV_len]; omega) hbz6).mono ?_
                rintro e w9 ⟨rfl, hb9, hw9⟩
                have HS9 := Lib.hid (HST6.out.next hlt HE2.out hb9 (HST6.out.be.trans hw9))
                clear hb9 hw9
                go_wp2_with fail
                go_roundw
                case rel => exact ⟨q + rw' s q, _, by rw [HTR.out], HS9⟩
                case measure => show tr.size < t.size; rw [HZR.out, HTS.out]; omega
              · have HFX : Hid (fixR h = h) := Lib.hid (by unfold fixR; rw [if_neg (by omega)])
                have k0 : (h == 0) = false := beq_eq_false_iff_ne.2 (by omega)
                have k1 : decide (55296 ≤ h) = true := decide_eq_true (by omega)
                have k2 : decide (h ≤ 57343) = false := decide_eq_false (by omega)
                have k3 : decide (1114111 < h) = false := decide_eq_false (by omega)
                clear hf
                have HE2 : Hid (stepD s i = (q + rw' s q, h)) := Lib.hid (by rw [HE.out, HRUN.out, HFX.out]; exact congrArg (fun x => (x, (h : Int))) HSK.out)
                go_wp2_with fail
                refine (dec s q tq HTQ.out _ (tabs_of HT.out hw HST5.out.be)).mono ?_
                rintro e w5 ⟨rfl, hw5⟩
                have HST7 := Lib.hid (HST5.out.below hw5)
                clear hw5 HST5
                have HST5 := HST7
                clear HST7
                go_wp2_with fail
                refine (isHex (rc s q) (by omega) (by omega) _).mono ?_
                rintro e w6 ⟨rfl, rfl⟩
                rw [HNX.out]
                go_wp2_with fail
                refine (dec s q tq HTQ.out _ (tabs_of HT.out hw HST5.out.be)).mono ?_
                rintro e w7 ⟨rfl, hw7⟩
                have HST6 := Lib.hid (HST5.out.below hw7)
                have hbz6 := HST6.out.be.size
                clear hw7 HST5
                go_wp2_with fail
                refine (isWs (rc s q) _).mono ?_
                rintro e w8 ⟨rfl, rfl⟩
                rw [HWS.out]
                go_wp2_with fail
                refine (Bl.writeRune w.heap.size w.heap.size _ h (by omega) (by omega) _ HST6.out.bl (by rw [bytesV_len]; omega) hbz6).mono ?_
                rintro e w9 ⟨rfl, hb9, hw9⟩
                have HS9 := Lib.hid (HST6.out.next hlt HE2.out hb9 (HST6.out.be.trans hw9))
                clear hb9 hw9
                go_wp2_with fail
                go_roundw
                case rel => exact ⟨q + rw' s q, _, by rw [HTR.out], HS9⟩
                case measure => show tr.size < t.size; rw [HZR.out, HTS.out]; omega
        · have e3 : hexB (rc s m1) = false := decide_eq_false hx
          have HE : Hid (stepD s i = (m2, rc s m1)) := Lib.hid (by rw [HST.out, if_neg hx])
          have n10 : (rc s m1 == 10) = false := beq_eq_false_iff_ne.2 hnl2.1
          have n12 : (rc s m1 == 12) = false := beq_eq_false_iff_ne.2 hnl2.2.1
          have n13 : (rc s m1 == 13) = false := beq_eq_false_iff_ne.2 hnl2.2.2
          rw [e3]
          clear e3 HST hnl2 hx
          go_wp2_with fail
          refine (Bl.writeRune w.heap.size w.heap.size _ (rc s m1) (by omega) (by omega) _ HS3.out.bl (by rw [bytesV_len]; omega) hbz3).mono ?_
          rintro e w5 ⟨rfl, hb5, hw5⟩
          have HS5 := Lib.hid (HS3.out.next hlt HE.out hb5 (HS3.out.be.trans hw5))
          clear hb5 hw5
          go_wp2_with fail
          go_roundw
          case rel => exact ⟨m2, _, by rw [HT2.out], HS5⟩
          case measure => show t2.size < t.size; rw [HZ2.out, HTS.out]; omega
end Go.Proofs.YtcljenkgbbbfpaaDoor.Dy
