/-
  Proved: pdqsort on entries of three cells sorts the range it is given. Conditions: those that each theorem names as its hypotheses, and no others.
-/
import Derived.Test.YtfmeiljapojoiaaSb
import Derived.Test.YtfmeiljapojoiaaSi
import Derived.Sort.AssemblyPlain
import Derived.Sort.LotD3
namespace Go.Proofs.Ytfmeiljapojoiaa.Sj
open Go.RowKit Mem Rws Sa Sc
set_option linter.unusedVariables false
set_option linter.unusedSimpArgs false
/-- The row is sorted on [a, b), a permutation of what it was there; all else as it was. -/
def Srt (g a b : Nat) (d : Array El) (w : World) (e : Ending) (w' : World) : Prop := e = .returned (.tuple #[]) ∧ ∃ d', (Sort.PermIn a b d d' ∧ Sort.SortedIn Sa.lt a b d') ∧ Rw g d' w' ∧ Fr g w w'
/-- The state at the head of a round: [a', b') is left to sort; whatever sorts it sorts the whole. -/
structure Pq (g a b : Nat) (d : Array El) (w : World) (a' b' lim : Nat) (d' : Array El) (W : World) : Prop where
  r : a ≤ a' ∧ a' ≤ b' ∧ b' ≤ b ∧ lim ≤ 64
  bl : Sort.Below Sa.lt a' b' d'
  rw : Rw g d' W
  fr : Fr g w W
  go : ∀ R, Sort.PermIn a' b' d' R → Sort.SortedIn Sa.lt a' b' R → Sort.PermIn a b d R ∧ Sort.SortedIn Sa.lt a b R
/-- The row permuted within [a, b) since d. -/
def St (g a b : Nat) (d d1 : Array El) (w W : World) : Prop := Sort.PermIn a b d d1 ∧ Rw g d1 W ∧ Fr g w W
def Rec (g n : Nat) : Prop := ∀ (a b lim : Nat) (d : Array El) (w : World), b - a < n → a ≤ b → b ≤ 64 → lim ≤ 64 → Sort.Below Sa.lt a b d → Rw g d w → Calls Try.prog 12 #[IV g, .int .i64 (a : Int), .int .i64 (b : Int), .int .i64 (lim : Int)] w (Srt g a b d w)
set_option maxRecDepth 100000 in
set_option maxHeartbeats 64000000 in
theorem step12 (g a b lim : Nat) (d : Array El) (w : World) (ih : Rec g (b - a)) (hab : a ≤ b) (hb : b ≤ 64) (hl : lim ≤ 64) (hB : Sort.Below Sa.lt a b d) (h : Rw g d w) :
    Calls Try.prog 12 #[IV g, .int .i64 (a : Int), .int .i64 (b : Int), .int .i64 (lim : Int)] w (Srt g a b d w) := by
  have IH := Lib.hid ih
  have HP0 : Hid (Pq g a b d w a b lim d w) := Lib.hid ⟨⟨Nat.le_refl _, hab, Nat.le_refl _, hl⟩, hB, h, Fr.refl g w, fun R h1 h2 => ⟨h1, h2⟩⟩
  clear ih hB h hl
  go_enter Try.func12, Try.ntmps12
  go_wp2_with fail
  go_loopw [1, 2, 3, 8, 9, 10, 11, 12, 13, 14, 15, 16, 17, 18] (fun v1 v2 v3 v8 v9 v10 v11 v12 v13 v14 v15 v16 v17 v18 wr => ∃ (a' b' lm : Nat) (wb wp : Bool) (d' : Array El), v1 = .int .i64 (a' : Int) ∧ v2 = .int .i64 (b' : Int) ∧ v3 = .int .i64 (lm : Int) ∧ v8 = .bool wb ∧ v9 = .bool wp ∧ Hid (Pq g a b d w a' b' lm d' wr)) (fun v1 v2 v3 v8 v9 v10 v11 v12 v13 v14 v15 v16 v17 v18 _ => (intOf v2 - intOf v1).toNat)
  case atStart => exact ⟨a, b, lim, true, true, d, rfl, rfl, rfl, rfl, rfl, HP0⟩
  case round =>
    clear HP0
    obtain ⟨a', b', lm, wb, wp, d0, rfl, rfl, rfl, rfl, rfl, HP⟩ := hrel
    obtain ⟨wq, rfl⟩ : ∃ x : World, x = wr := ⟨_, rfl⟩
    have hr := HP.out.r
    have hd0 := HP.out.rw.sz
    obtain ⟨L, hL⟩ : ∃ L, L = b' - a' := ⟨_, rfl⟩
    have EL := Lib.hid (show (b' : Int) - (a' : Int) = (L : Int) by omega)
    have x0 : (0 : Int) ≤ (a' : Int) := by omega
    have x1 : (a' : Int) ≤ 64 := by omega
    have x2 : (0 : Int) ≤ (b' : Int) := by omega
    have x3 : (b' : Int) ≤ 64 := by omega
    have x4 : (0 : Int) ≤ (lm : Int) := by omega
    have x5 : (lm : Int) ≤ 64 := by omega
    have x6 : (0 : Int) ≤ (L : Int) := by omega
    have x7 : (L : Int) ≤ 64 := by omega
    have hLa : L + a' ≤ b' := by omega
    have hLb : b' ≤ L + a' := by omega
    clear hL
    go_upto_region 3 with fail
    rw [EL.out]
    by_cases h12 : L ≤ 12
    · have t1 : decide ((L : Int) ≤ 12) = true := decide_eq_true (by omega)
      have t1' : decide (L ≤ 12) = true := decide_eq_true h12
      go_wp2_with fail
      refine (Sb.ins15 g a' b' d0 _ HP.out.rw (by omega) (by omega)).mono ?_
      rintro e w1 ⟨rfl, hr1, hf1⟩
      have HR1 := Lib.hid (And.intro hr1 (Fr.trans HP.out.fr hf1))
      clear hr1 hf1
      go_wp2_with fail
      go_end0
      obtain ⟨p1, p2⟩ := Sort.insertionSort_holds swo d0 a' b' (by omega) (by omega)
      exact ⟨rfl, _, HP.out.go _ p1 p2, HR1.out.1, HR1.out.2⟩
    have t1 : decide ((L : Int) ≤ 12) = false := decide_eq_false (by omega)
    have t1' : decide (L ≤ 12) = false := decide_eq_false h12
    have t1n : ¬ ((L : Int) ≤ 12) := by omega
    by_cases hl0 : lm = 0
    · subst hl0
      go_wp2_with fail
      refine (Sd.heap16 g a' b' d0 _ HP.out.rw (by omega) (by omega)).mono ?_
      rintro e w1 ⟨rfl, hr1, hf1⟩
      have HR1 := Lib.hid (And.intro hr1 (Fr.trans HP.out.fr hf1))
      clear hr1 hf1
      go_wp2_with fail
      go_end0
      obtain ⟨p1, p2⟩ := Sort.heapSort_holds swo d0 a' b' (by omega) (by omega)
      exact ⟨rfl, _, HP.out.go _ p1 p2, HR1.out.1, HR1.out.2⟩
    have t2 : ((lm : Int) == 0) = false := beq_eq_false_iff_ne.2 (by omega)
    have hL13 : a' + 12 < b' := by omega
    go_upto_if 35 with fail
    go_cut [3] (fun v3 wx => ∃ (lm2 : Nat) (d1 : Array El), v3 = .int .i64 (lm2 : Int) ∧ Hid (lm2 ≤ 64 ∧ St g a' b' d0 d1 w wx))
    case first =>
      cases wb
      · go_wp2_with fail
        refine (Si.brk17 g a' b' d0 _ HP.out.rw hL13 (by omega)).mono ?_
        rintro e w1 ⟨rfl, d1, hp1, hr1, hf1⟩
        have HR1 : Hid (St g a' b' d0 d1 w w1) := Lib.hid ⟨hp1, hr1, Fr.trans HP.out.fr hf1⟩
        clear hp1 hr1 hf1
        go_wp2_with fail
        go_meet
        exact ⟨lm - 1, d1, vi (by omega), Lib.hid ⟨by omega, HR1.out⟩⟩
      · go_wp2_with fail
        go_meet
        exact ⟨lm, d0, rfl, Lib.hid ⟨by omega, Sort.permIn_refl _ _ _, HP.out.rw, HP.out.fr⟩⟩
    case rest =>
      obtain ⟨lm2, d1, rfl, HC⟩ := hcut
      have hlm := HC.out.1
      have H1 := Lib.hid HC.out.2
      clear HC t2 hl0 x4 x5
      have x4 : (0 : Int) ≤ (lm2 : Int) := by omega
      have x5 : (lm2 : Int) ≤ 64 := by omega
      go_wp2_with fail
      refine (Sh.pivot18 g a' b' d1 _ H1.out.2.1 hL13 (by omega)).mono ?_
      rintro e w2 ⟨p, hh, rfl, hpr, hb2⟩
      have H2 : Hid (St g a' b' d0 d1 w w2) := Lib.hid ⟨H1.out.1, H1.out.2.1.below hb2, H1.out.2.2.bel hb2⟩
      clear hb2 H1
      have y0 : (0 : Int) ≤ (p : Int) := by omega
      have y1 : (p : Int) ≤ 64 := by omega
      go_upto_if 50 with fail
      go_cut [11, 12] (fun v11 v12 wx => ∃ (p2 h2 : Nat) (d2 : Array El), v11 = .int .i64 (p2 : Int) ∧ v12 = .int .i64 (h2 : Int) ∧ Hid ((a' ≤ p2 ∧ p2 < b' ∧ h2 ≤ 2) ∧ St g a' b' d0 d2 w wx))
      case first =>
        by_cases hh2 : hh = 2
        · subst hh2
          go_wp2_with fail
          refine (Sd.rev19 g a' b' d1 _ H2.out.2.1 (by omega) (by omega)).mono ?_
          rintro e w3 ⟨rfl, hr3, hf3⟩
          have H3 : Hid (St g a' b' d0 (Sort.reverseRange d1 a' b') w w3) := Lib.hid ⟨Sort.permIn_trans _ _ _ _ _ H2.out.1 (Sort.reverseRange_holds d1 a' b' (by omega) (by have := H2.out.2.1.sz; omega)), hr3, Fr.trans H2.out.2.2 hf3⟩
          clear hr3 hf3
          go_wp2_with fail
          go_meet
          exact ⟨(b' - 1) - (p - a'), 1, _, vi (by omega), rfl, Lib.hid ⟨by omega, H3.out⟩⟩
        · have t3 : ((hh : Int) == 2) = false := beq_eq_false_iff_ne.2 (by omega)
          go_wp2_with fail
          go_meet
          exact ⟨p, hh, d1, rfl, rfl, Lib.hid ⟨hpr, H2.out⟩⟩
      case rest =>
        obtain ⟨p2, h2, d2, rfl, rfl, HC⟩ := hcut
        have hpr2 := HC.out.1
        have H3 := Lib.hid HC.out.2
        clear HC H2 y0 y1 hpr
        have y0 : (0 : Int) ≤ (p2 : Int) := by omega
        have y1 : (p2 : Int) ≤ 64 := by omega
        have HBL := Lib.hid (Sort.Below.perm HP.out.bl (by omega) H3.out.1)
        have hz2 := H3.out.2.1.sz
        go_upto_region 15 with fail
        go_cut [68] (fun v wx => v = .bool (wb && wp && (h2 == 1)) ∧ Hid (St g a' b' d0 d2 w wx))
        case first =>
          by_cases hx : h2 = 1
          · subst hx
            cases wb <;> cases wp
            all_goals
              go_wp2_with fail
              go_meet
              exact ⟨rfl, H3⟩
          · have t4 : ((h2 : Int) == 1) = false := beq_eq_false_iff_ne.2 (by omega)
            have t5 : (h2 == 1) = false := beq_eq_false_iff_ne.2 hx
            cases wb <;> cases wp
            all_goals
              go_wp2_with fail
              go_meet
              exact ⟨by first | (rw [t5]; rfl) | rw [t5], H3⟩
        case rest =>
          obtain ⟨rfl, H4⟩ := hcut
          clear H3
          generalize (wb && wp && (h2 == 1)) = B at *
          go_upto_if 68 with fail
          go_cut [] (fun wx => ∃ d3 : Array El, Hid (St g a' b' d0 d3 w wx ∧ Sort.Below Sa.lt a' b' d3))
          case first =>
            cases B
            · go_wp2_with fail
              go_meet
              exact ⟨d2, Lib.hid ⟨H4.out, HBL.out⟩⟩
            · go_wp2_with fail
              refine (Sg.pins20 g a' b' d2 _ H4.out.2.1 (by omega) (by omega)).mono ?_
              rintro e w5 ⟨rfl, hr5, hf5⟩
              obtain ⟨p1, p2'⟩ := Sort.partialInsertionSort_holds swo d2 a' b' (by omega) (by omega) HBL.out
              have HR5 := Lib.hid (And.intro (Sort.permIn_trans _ _ _ _ _ H4.out.1 p1) (And.intro hr5 (Fr.trans H4.out.2.2 hf5)))
              have HS5 := Lib.hid p2'
              have HB5 := Lib.hid (Sort.Below.perm HBL.out (by omega) p1)
              clear p1 p2' hr5 hf5
              generalize Sort.partialInsertionSort Sa.lt d2 a' b' = PI at *
              obtain ⟨D5, B5⟩ := PI
              dsimp only at HR5 HS5 HB5 ⊢
              cases B5
              · go_wp2_with fail
                go_meet
                exact ⟨D5, Lib.hid ⟨HR5.out, HB5.out⟩⟩
              · go_wp2_with fail
                go_end0
                exact ⟨rfl, D5, HP.out.go _ HR5.out.1 (HS5.out trivial), HR5.out.2.1, HR5.out.2.2⟩
          case rest =>
            obtain ⟨d3, HC⟩ := hcut
            have H5 := Lib.hid HC.out.1
            have HB5 := Lib.hid HC.out.2
            clear HC H4 HBL
            have hz3 := H5.out.2.1.sz
            go_upto_region 17 with fail
            go_cut [82] (fun v wx => ∃ B : Bool, v = .bool B ∧ Hid ((B = true → 0 < a' ∧ Sa.lt d3[a' - 1]! d3[p2]! = false) ∧ St g a' b' d0 d3 w wx))
            case first =>
              by_cases ha0 : a' = 0
              · have t6 : decide ((0 : Int) < (a' : Int)) = false := decide_eq_false (by omega)
                have t6' : decide (0 < a') = false := decide_eq_false (by omega)
                have t6n : ¬ ((0 : Int) < (a' : Int)) := by omega
                have HA0 := Lib.hid ha0
                clear ha0
                go_wp2_with fail
                go_meet
                exact ⟨false, rfl, Lib.hid ⟨(fun h => nomatch h), H5.out⟩⟩
              · have t6 : decide ((0 : Int) < (a' : Int)) = true := decide_eq_true (by omega)
                have t6' : decide (0 < a') = true := decide_eq_true (by omega)
                have E7 := Lib.hid (show (a' : Int) - 1 = ((a' - 1 : Nat) : Int) by omega)
                have HA0 := Lib.hid (show 0 < a' by omega)
                clear ha0
                cases hv : Sa.lt d3[a' - 1]! d3[p2]!
                · have HV := Lib.hid hv
                  clear hv
                  go_wp2_with fail
                  rw [E7.out]
                  refine (less47 g (a' - 1) p2 d3 _ H5.out.2.1 (by omega) (by omega)).mono ?_
                  rintro e w6 ⟨rfl, hb6⟩
                  rw [HV.out]
                  have H6 : Hid (St g a' b' d0 d3 w w6) := Lib.hid ⟨H5.out.1, H5.out.2.1.below hb6, H5.out.2.2.bel hb6⟩
                  clear hb6
                  go_wp2_with fail
                  go_meet
                  exact ⟨true, rfl, Lib.hid ⟨fun _ => ⟨HA0.out, HV.out⟩, H6.out⟩⟩
                · have HV := Lib.hid hv
                  clear hv
                  go_wp2_with fail
                  rw [E7.out]
                  refine (less47 g (a' - 1) p2 d3 _ H5.out.2.1 (by omega) (by omega)).mono ?_
                  rintro e w6 ⟨rfl, hb6⟩
                  rw [HV.out]
                  have H6 : Hid (St g a' b' d0 d3 w w6) := Lib.hid ⟨H5.out.1, H5.out.2.1.below hb6, H5.out.2.2.bel hb6⟩
                  clear hb6
                  go_wp2_with fail
                  go_meet
                  exact ⟨false, rfl, Lib.hid ⟨(fun h => nomatch h), H6.out⟩⟩
            case rest =>
              obtain ⟨B2, rfl, HC⟩ := hcut
              have H6 := Lib.hid HC.out.2
              clear H5
              cases B2
              · clear HC
                go_wp2_with fail
                refine (Se.part22 g a' b' p2 d3 _ H6.out.2.1 (by omega) (by omega) (by omega)).mono ?_
                rintro e w7 ⟨rfl, hr7, hf7⟩
                obtain ⟨mid, ap, d4, hx⟩ : ∃ mid ap d4, Sort.partition Sa.lt d3 a' b' p2 = (mid, ap, d4) := by
                  rcases Sort.partition Sa.lt d3 a' b' p2 with ⟨x, y, z⟩
                  exact ⟨x, y, z, rfl⟩
                rw [hx] at hr7 ⊢
                obtain ⟨m1, m2, m3, m4, m5, m6, m7⟩ := Sort.round_part swo (Sort.partition_holds Sa.lt) hpr2.1 hpr2.2.1 (by omega) HB5.out hx
                have H7 := Lib.hid (And.intro hr7 (Fr.trans H6.out.2.2 hf7))
                have M4 := Lib.hid m4
                have M5 := Lib.hid m5
                have M6 := Lib.hid m6
                have M7 := Lib.hid m7
                have hz4 := hr7.sz
                have z0 : (0 : Int) ≤ (mid : Int) := by omega
                have z1 : (mid : Int) ≤ 64 := by omega
                clear hr7 hf7 hx m3 m4 m5 m6 m7
                by_cases hlr : mid - a' < b' - mid
                · have t7 : decide ((mid : Int) - (a' : Int) < (b' : Int) - (mid : Int)) = true := decide_eq_true (by omega)
                  have t7p : (mid : Int) - (a' : Int) < (b' : Int) - (mid : Int) := by omega
                  have E8 := Lib.hid (show (mid : Int) + 1 = ((mid + 1 : Nat) : Int) by omega)
                  go_wp2_with fail
                  refine (IH.out a' mid lm2 d4 _ (by omega) (by omega) (by omega) (by omega) M4.out H7.out.1).mono ?_
                  rintro e w8 ⟨rfl, dL, ⟨q1, q2⟩, hr8, hf8⟩
                  obtain ⟨n1, n2⟩ := M6.out dL q1 q2
                  have H8 := Lib.hid (And.intro hr8 (Fr.trans H7.out.2 hf8))
                  have N1 := Lib.hid n1
                  have N2 := Lib.hid n2
                  clear q1 q2 hr8 hf8 n1 n2 H7 M4 M5 M6 M7
                  go_wp2_with fail
                  go_roundw
                  case rel => exact ⟨mid + 1, b', lm2, _, ap, dL, by go_num, rfl, rfl, rfl, rfl, Lib.hid ⟨by omega, N1.out, H8.out.1, H8.out.2, fun R h1 h2 => by
                    obtain ⟨u1, u2⟩ := N2.out R h1 h2
                    exact HP.out.go R (Sort.permIn_trans _ _ _ _ _ H6.out.1 u1) u2⟩⟩
                  case measure => simp [intOf] <;> omega
                · have t7 : decide ((mid : Int) - (a' : Int) < (b' : Int) - (mid : Int)) = false := decide_eq_false (by omega)
                  have t7p : ¬ ((mid : Int) - (a' : Int) < (b' : Int) - (mid : Int)) := by omega
                  have E8 := Lib.hid (show (mid : Int) + 1 = ((mid + 1 : Nat) : Int) by omega)
                  go_wp2_with fail
                  rw [E8.out]
                  refine (IH.out (mid + 1) b' lm2 d4 _ (by omega) (by omega) (by omega) (by omega) M5.out H7.out.1).mono ?_
                  rintro e w8 ⟨rfl, dL, ⟨q1, q2⟩, hr8, hf8⟩
                  obtain ⟨n1, n2⟩ := M7.out dL q1 q2
                  have H8 := Lib.hid (And.intro hr8 (Fr.trans H7.out.2 hf8))
                  have N1 := Lib.hid n1
                  have N2 := Lib.hid n2
                  clear q1 q2 hr8 hf8 n1 n2 H7 M4 M5 M6 M7
                  go_wp2_with fail
                  go_roundw
                  case rel => exact ⟨a', mid, lm2, _, ap, dL, rfl, rfl, rfl, rfl, rfl, Lib.hid ⟨by omega, N1.out, H8.out.1, H8.out.2, fun R h1 h2 => by
                    obtain ⟨u1, u2⟩ := N2.out R h1 h2
                    exact HP.out.go R (Sort.permIn_trans _ _ _ _ _ H6.out.1 u1) u2⟩⟩
                  case measure => simp [intOf] <;> omega
              · obtain ⟨ha0, hnl⟩ := HC.out.1 rfl
                have HNL := Lib.hid hnl
                clear HC hnl
                go_wp2_with fail
                refine (Sf.parteq21 g a' b' p2 d3 _ H6.out.2.1 (by omega) (by omega) (by omega)).mono ?_
                rintro e w7 ⟨rfl, hr7, hf7⟩
                obtain ⟨mid, d4, hx⟩ : ∃ mid d4, Sort.partitionEqual Sa.lt d3 a' b' p2 = (mid, d4) := by
                  rcases Sort.partitionEqual Sa.lt d3 a' b' p2 with ⟨x, y⟩
                  exact ⟨x, y, rfl⟩
                rw [hx] at hr7 ⊢
                obtain ⟨m1, m2, m3, m4, m5⟩ := Sort.round_eq swo (Sort.partitionEqual_holds Sa.lt) ha0 hpr2.1 hpr2.2.1 (by omega) HB5.out HNL.out hx
                have H7 := Lib.hid (And.intro hr7 (Fr.trans H6.out.2.2 hf7))
                have M4 := Lib.hid m4
                have M5 := Lib.hid m5
                clear hr7 hf7 hx m3 m4 m5
                go_wp2_with fail
                go_roundw
                case rel => exact ⟨mid, b', lm2, wb, wp, d4, rfl, rfl, rfl, rfl, rfl, Lib.hid ⟨by omega, M4.out, H7.out.1, H7.out.2, fun R h1 h2 => by
                  obtain ⟨u1, u2⟩ := M5.out R h1 h2
                  exact HP.out.go R (Sort.permIn_trans _ _ _ _ _ H6.out.1 u1) u2⟩⟩
                case measure => simp [intOf] <;> omega
theorem pdq12 (g : Nat) : ∀ n, Rec g n
  | 0 => fun a b lim d w h => absurd h (Nat.not_lt_zero _)
  | n + 1 => fun a b lim d w h hab hb hl hB hr => step12 g a b lim d w (fun a' b' lim' d' w' h' => pdq12 g n a' b' lim' d' w' (by omega)) hab hb hl hB hr
end Go.Proofs.Ytfmeiljapojoiaa.Sj
