/-
  Proved: the law FnErrorsAndWarningsWithoutLocationsKeepOrder of folder n011_238 returns true for every argument that its parameter types allow, and leaves its arguments as they were; there is no further condition.
-/
import Derived.Test.YtmjfdhgfpgeboadRows
import Derived.WalkKit
import Derived.ProofKit
import Derived.OpenShut
import Derived.Below
import Derived.Carry
import Derived.ChangeMaps5
import Derived.Handy
import Derived.Lib.Hide
import Derived.WalkSpells
import Derived.OwnWalk
import Derived.Deep.CutRange
import Derived.Deep.QuietTactic
import Derived.Test.YtmjfdhgfpgeboadLw
import Derived.Test.YtmjfdhgfpgeboadZz
namespace Go.Proofs.Ytmjfdhgfpgeboad.fnErrorsAndWarningsWithoutLocationsKeepOrder
open Go.ChangeShapes Go.WideShapes Go.ChangeAt Go.RowKit
set_option linter.unusedVariables false

theorem own : ownKnob Try.prog.godebug = none := by kernel_rfl
theorem laid : laidOutB Try.prog = true := by kernel_rfl
theorem readAll : (Try.f3.params.toList.all fun t => Try.prog.readableRec t && decide (t < Try.prog.types.size)) = true := by kernel_rfl
theorem readEach : ∀ t ∈ Try.f3.params.toList, Try.prog.readableRec t = true ∧ t < Try.prog.types.size := fun t ht => by
  have := List.all_eq_true.1 readAll t ht
  simpa using this
section
variable {H : Type} {enc : TypeId × Value → H} {P : Program}
theorem trodAll_stays (hl : laidOutB P = true) {W W' : World} (hb : Below W.heap.size W W') {sp : Nat → Bool} : ∀ {ts : List TypeId} {vs : List Value} {ds : List (DataW H)} {ps : List MemPlace},
    (∀ t ∈ ts, P.readableRec t = true ∧ t < P.types.size) → DataW.TrodAll enc P W 0 (fun _ => true) true ts vs ds ps → (∀ p ∈ ps, p.block < W.heap.size) → (∀ p ∈ ps, sp p.block = true) → DataW.TrodAll enc P W' 0 sp true ts vs ds ps
  | [], [], [], _, _, h, _, _ => h
  | _ :: _, _ :: _, _ :: _, _, hT, ⟨p, q, h1, h2, e⟩, hlt, hs =>
    ⟨p, q, WideElems.Trod_stays hl (hT _ (List.mem_cons.2 (Or.inl rfl))).1 (hT _ (List.mem_cons.2 (Or.inl rfl))).2 h1 (fun x hx => hb.same (hlt x (by rw [e]; exact List.mem_append_left _ hx))) (fun x hx => hs x (by rw [e]; exact List.mem_append_left _ hx)),
      trodAll_stays hl hb (fun t ht => hT t (List.mem_cons.2 (Or.inr ht))) h2 (fun x hx => hlt x (by rw [e]; exact List.mem_append_right _ hx)) (fun x hx => hs x (by rw [e]; exact List.mem_append_right _ hx)), e⟩

/-- A law's step: the result is true, the arguments are kept, the world has changed in new blocks alone. -/
theorem law_post {f : Func} {s : ChangeSpec} {apart fresh handsOn again : Bool} {W W' : World} {args : Array Value} {ds gs : List (DataW H)} {before : List MemPlace} {tb : TypeId}
    (hl : laidOutB P = true) (hps : ∀ t ∈ f.params.toList, P.readableRec t = true ∧ t < P.types.size) (hv : s.vars = []) (hr : f.resultTypes = #[tb]) (ht : P.underlying tb = some .bool)
    (hs : (s.fn H (ds ++ [])).results = [.lit (.bool true)] ∧ (s.fn H (ds ++ [])).args = ds ∧ (s.fn H (ds ++ [])).vars = [])
    (hW : DataW.Whole enc P f.params.toList s.vars apart W args.toList ds gs before) (hb : Below W.heap.size W W') :
    s.post enc P f apart fresh handsOn again W args (.bool true) W' := by
  have hlt : ∀ p ∈ before, p.block < W.heap.size := fun p hp => hW.lt p hp
  have hold : ∀ p ∈ before, (fun b => decide (b < W.heap.size)) p.block = true := fun p hp => by simpa using hlt p hp
  have hW0 := hW
  obtain ⟨pa, pv, hA, hV, rfl, hz, hn⟩ := hW
  rw [hv] at hV
  obtain ⟨rfl, rfl⟩ := trodVars_none hV
  have hres : ∀ (b : Nat) (sp : Nat → Bool) (hd : Bool), DataW.TrodAll enc P W' b sp hd f.resultTypes.toList ((Value.bool true).resultList f.resultTypes.size) (s.fn H (ds ++ [])).results [] := fun b sp hd => by
    rw [hs.1, hr]; exact trodAll_cons_mk (shut_bool ht _) trodAll_mk0
  have hargs : ∀ sp : Nat → Bool, (∀ p ∈ pa ++ [], sp p.block = true) → DataW.TrodAll enc P W' 0 sp true f.params.toList args.toList (s.fn H (ds ++ [])).args pa := fun sp hsp => by
    rw [hs.2.1]; exact trodAll_stays hl hb hps hA (fun p hp => hlt p (by simpa using hp)) (fun p hp => hsp p (by simpa using hp))
  have hvars : ∀ sp : Nat → Bool, DataW.TrodVars enc P W' sp s.vars (s.fn H (ds ++ [])).vars [] := fun sp => by rw [hv, hs.2.2]; rfl
  refine ⟨ds, [], pa ++ [], [], pa, [], hW0, hres _ _ _, hargs _ hold, hvars _, World.keptBut_mono (fun p hp => ⟨hp, Or.inr (List.mem_append.1 hp)⟩) (hb.frame (· ∈ pa ++ [])), fun _ => ?_⟩
  refine ⟨?_, _, _, ([] ++ pa) ++ [], ⟨[] ++ pa, [], trodAll_append (hargs _ (fun _ _ => rfl)) (hres _ _ _), hvars _, rfl, ?_, ?_⟩, ?_⟩
  · intro j t r h1 h2
    rw [hr] at h1 h2
    match j, h1, h2 with
    | 0, h1, h2 =>
      obtain rfl : tb = t := by simpa using h1
      obtain rfl : Value.bool true = r := by simpa [Value.resultList] using h2
      exact okWide_bool_mk ht _
    | j + 1, h1, _ => simp at h1
  · intro b off hp
    have hp' : MemPlace.cell b off ∈ pa ++ [] := by simpa using hp
    rw [hb.frozen (hlt _ hp')]
    exact hz b off hp'
  · intro ha
    simpa using hn ha
  · intro p hp _
    simpa using hp
end

open Go.PlainAid Mem Ho Rws Orw Lcs Msr Pg Idp Ct Lp Cl Bm Cv Ce Lw Go.Proofs
set_option linter.unusedSimpArgs false
set_option maxRecDepth 10000000 in
set_option maxHeartbeats 40000000 in
theorem walk (A0 : Option Addr) (n0 c0 : Nat) (M0 : Nat → Msr.Ms) (A1 : Option Addr) (n1 c1 : Nat) (M1 : Nat → Msr.Ms) (w : World) (hA0 : Ct.Src w A0 n0 M0) (hc0 : c0 ≤ maxLen) (hn0 : n0 ≤ c0) (hz0 : A0 = none → n0 = 0 ∧ c0 = 0) (hA1 : Ct.Src w A1 n1 M1) (hc1 : c1 ≤ maxLen) (hn1 : n1 ≤ c1) (hz1 : A1 = none → n1 = 0 ∧ c1 = 0) :
    Calls Try.prog 3 #[.slice A0 n0 c0, .slice A1 n1 c1] w fun e w' => e = .returned (.bool true) ∧ Below w.heap.size w w' := by
  have H4 := Lib.hid (Zz.zz4 A0 n0 c0 M0 A1 n1 c1 M1 w hA0 hA1 (Nat.le_trans hn0 hc0) (Nat.le_trans hn1 hc1))
  have HS0 := Lib.hid hA0
  have HS1 := Lib.hid hA1
  have HZ0 := Lib.hid hz0
  have HZ1 := Lib.hid hz1
  clear hA0 hA1 hz0 hz1 hc0 hn0 hc1 hn1
  go_enter Try.func3, Try.ntmps3
  go_wp2_with fail
  refine H4.out.mono ?_
  rintro e w' ⟨rfl, bz, rfl, hok⟩
  cases bz with
  | false =>
    go_wp2_with fail
    go_ret
    exact ⟨rfl, Below.refl _ _⟩
  | true =>
    obtain ⟨hN, hm0, hm1⟩ := hok rfl
    have HM0 := Lib.hid hm0
    have HM1 := Lib.hid hm1
    clear hok hm0 hm1 H4
    go_wp2_with fail
    refine (By.bytes5 A0 n0 c0 M0 w HS0.out (by omega) HM0.out).mono ?_
    rintro e w1 ⟨⟨x1, rfl⟩, hb1⟩
    have HB1 := Lib.hid hb1
    clear hb1
    go_wp2_with fail
    refine (By.bytes5 A1 n1 c1 M1 w1 (HS1.out.below HB1.out) (by omega) HM1.out).mono ?_
    rintro e w2 ⟨⟨x2, rfl⟩, hb2⟩
    have HB2 := Lib.hid (HB1.out.trans (hb2.mono HB1.out.size))
    clear hb2 HB1
    rcases Bool.eq_false_or_eq_true (decide ((1048576 : Int) < wrap64 (x1 + x2))) with t0 | t0
    · go_wp2_with fail
      go_ret
      exact ⟨rfl, HB2.out⟩
    · go_wp2_with fail
      clear t0
      go_loopw [5] (fun i wr => ∃ k : Nat, i = .int .i64 k ∧ k ≤ n0 ∧ wr = w2 ∧ Hid (∀ i, i < k → (M0 i).lc.pr = false)) (fun i _ => n0 - (intOf i).toNat)
      case atStart => exact ⟨0, rfl, by omega, rfl, Lib.hid (fun i hi => absurd hi (by omega))⟩
      case round =>
        obtain ⟨k, rfl, hk, hwr, HK⟩ := hrel
        have hwr2 := hwr.symm
        subst hwr2
        clear hwr
        by_cases hlt : k < n0
        · have hs := HS0.out.below HB2.out
          obtain ⟨a, rfl⟩ : ∃ a, A0 = some a := by
            obtain ⟨b, off, e, _⟩ := hs.1 (by omega)
            exact ⟨_, e⟩
          obtain ⟨b, off, rfl, hbl, hcs⟩ := src_cells hs (by omega)
          have hc := hcs k hlt 3 (by decide)
          clear hcs hs
          obtain ⟨pr, hpr⟩ : ∃ pr, pr = (M0 k).lc.pr := ⟨_, rfl⟩
          have r3 : w2.cell? ⟨b, off + k * 12 + 3, none⟩ = some (.bool pr) := hc.trans (by rw [hpr]; rfl)
          have HP := Lib.hid hpr
          have q0 : (0 : Int) ≤ (k : Int) := by omega
          have q1 : (k : Int) < (n0 : Int) := by omega
          clear hc hpr
          cases pr with
          | true =>
            go_wp2_with fail
            go_ret
            exact ⟨rfl, HB2.out⟩
          | false =>
            go_wp2_with fail
            go_roundw
            case rel =>
              refine ⟨k + 1, by go_num, by omega, (by first | rfl | trivial), Lib.hid fun i hi => ?_⟩
              rcases Nat.lt_or_ge i k with h | h
              · exact HK.out i h
              · obtain rfl : i = k := by omega
                exact HP.out.symm
            case measure => simp [intOf]; omega
        · obtain rfl : n0 = k := by omega
          have z0 : decide ((n0 : Int) < n0) = false := decide_eq_false (by omega)
          have HK0 := HK
          go_wp2_with fail
          clear z0
          go_loopw [6] (fun i wr => ∃ k : Nat, i = .int .i64 k ∧ k ≤ n1 ∧ wr = w2 ∧ Hid (∀ i, i < k → (M1 i).lc.pr = false)) (fun i _ => n1 - (intOf i).toNat)
          case atStart => exact ⟨0, rfl, by omega, rfl, Lib.hid (fun i hi => absurd hi (by omega))⟩
          case round =>
            obtain ⟨k, rfl, hk, hwr, HK⟩ := hrel
            have hwr2 := hwr.symm
            subst hwr2
            clear hwr
            by_cases hlt : k < n1
            · have hs := HS1.out.below HB2.out
              obtain ⟨a, rfl⟩ : ∃ a, A1 = some a := by
                obtain ⟨b, off, e, _⟩ := hs.1 (by omega)
                exact ⟨_, e⟩
              obtain ⟨b, off, rfl, hbl, hcs⟩ := src_cells hs (by omega)
              have hc := hcs k hlt 3 (by decide)
              clear hcs hs
              obtain ⟨pr, hpr⟩ : ∃ pr, pr = (M1 k).lc.pr := ⟨_, rfl⟩
              have r3 : w2.cell? ⟨b, off + k * 12 + 3, none⟩ = some (.bool pr) := hc.trans (by rw [hpr]; rfl)
              have HP := Lib.hid hpr
              have q0 : (0 : Int) ≤ (k : Int) := by omega
              have q1 : (k : Int) < (n1 : Int) := by omega
              clear hc hpr
              cases pr with
              | true =>
                go_wp2_with fail
                go_ret
                exact ⟨rfl, HB2.out⟩
              | false =>
                go_wp2_with fail
                go_roundw
                case rel =>
                  refine ⟨k + 1, by go_num, by omega, (by first | rfl | trivial), Lib.hid fun i hi => ?_⟩
                  rcases Nat.lt_or_ge i k with h | h
                  · exact HK.out i h
                  · obtain rfl : i = k := by omega
                    exact HP.out.symm
                case measure => simp [intOf]; omega
            · obtain rfl : n1 = k := by omega
              have z0 : decide ((n1 : Int) < n1) = false := decide_eq_false (by omega)
              have HK1 := HK
              go_wp2_with fail
              clear z0
              refine (clone6 A0 n0 c0 M0 w2 (HS0.out.below HB2.out) (by omega) HM0.out HZ0.out).mono ?_
              rintro e w3 ⟨B0, d0, C0, rfl, hs3, hp3, hz3, hb3⟩
              have HS3 := Lib.hid hs3
              have HP3 := Lib.hid hp3
              have HZ3 := Lib.hid hz3
              have HB3 := Lib.hid (HB2.out.trans (hb3.mono HB2.out.size))
              have hs1 := HS1.out.below HB3.out
              have HS1b := Lib.hid hs1
              clear hs3 hp3 hz3 hb3 hs1
              go_wp2_with fail
              refine (clone6 A1 n1 c1 M1 w3 HS1b.out (by omega) HM1.out HZ1.out).mono ?_
              rintro e w4 ⟨B1, d1, C1, rfl, hs4, hp4, hz4, hb4⟩
              have HS4 := Lib.hid hs4
              have HP4 := Lib.hid hp4
              have HZ4 := Lib.hid hz4
              have HS3b := Lib.hid (HS3.out.below hb4)
              have HB4 := Lib.hid (HB3.out.trans (hb4.mono HB3.out.size))
              have HC0 : Hid (∀ i, i < n0 → (C0 i).nn ≤ 1048576) := Lib.hid fun i hi => by rw [(HP3.out i hi).2]; exact HM0.out i hi
              have HC1 : Hid (∀ i, i < n1 → (C1 i).nn ≤ 1048576) := Lib.hid fun i hi => by rw [(HP4.out i hi).2]; exact HM1.out i hi
              have HD0 : Hid (∀ i, i < n0 → (C0 i).lc.pr = false) := Lib.hid fun i hi => by rw [(HP3.out i hi).1]; exact HK0.out i hi
              have HD1 : Hid (∀ i, i < n1 → (C1 i).lc.pr = false) := Lib.hid fun i hi => by rw [(HP4.out i hi).1]; exact HK1.out i hi
              clear hs4 hp4 hz4 hb4 HP3 HP4 HS3
              go_wp2_with fail
              refine (build8 B0 n0 d0 C0 w4 HS3b.out (by omega) HC0.out HD0.out HZ3.out).mono ?_
              rintro e w5 ⟨g0, rfl, ha5, hb5⟩
              have HA5 := Lib.hid ha5
              have HS45 := Lib.hid (HS4.out.below hb5)
              have HS35 := Lib.hid (HS3b.out.below hb5)
              have HB5 := Lib.hid (HB4.out.trans (hb5.mono HB4.out.size))
              clear ha5 hb5 HS4 HS3b
              go_wp2_with fail
              refine (build8 B1 n1 d1 C1 w5 HS45.out (by omega) HC1.out HD1.out HZ4.out).mono ?_
              rintro e w6 ⟨g1, rfl, ha6, hb6⟩
              have H7 := Lib.hid (conv7 g0 n0 n0 g1 n1 n1 C0 C1 w6 (HA5.out.kp (Kp.of hb6)) ha6 (by omega) HC0.out HC1.out)
              have HS46 := Lib.hid (HS45.out.below hb6)
              have HS36 := Lib.hid (HS35.out.below hb6)
              have HB6 := Lib.hid (HB5.out.trans (hb6.mono HB5.out.size))
              clear ha6 hb6 HS45 HS35 HA5
              go_wp2_with fail
              refine H7.out.mono ?_
              rintro e w7 ⟨G, gc, R, rfl, hr7, hg7, hg7b, hb7, hz7⟩
              have HR7 := Lib.hid hr7
              have HG7 := Lib.hid hg7
              have HG7b := Lib.hid hg7b
              have HZ7 := Lib.hid hz7
              have HS47 := Lib.hid (HS46.out.below hb7)
              have HS37 := Lib.hid (HS36.out.below hb7)
              have HB7 := Lib.hid (HB6.out.trans (hb7.mono HB6.out.size))
              clear hr7 hg7 hg7b hb7 hz7 H7 HS46 HS36
              by_cases hzero : n0 + n1 = 0
              · obtain ⟨e0, e1⟩ : n0 = 0 ∧ n1 = 0 := by omega
                obtain ⟨rfl, rfl⟩ := HZ7.out hzero
                have hnil := fun W => Lib.run_eql_slice_nil (P := Try.prog) W 31 43 none (n0 + n1) 0 0 0 Try.underlying31
                have z1 : decide ((n0 : Int) + (n1 : Int) = 0) = true := decide_eq_true (by omega)
                subst e0 e1
                go_wp2_with fail
                go_ret
                exact ⟨rfl, HB7.out⟩
              · have z1 : decide ((n0 : Int) + (n1 : Int) = 0) = false := decide_eq_false (by omega)
                have z2 : ¬ ((n0 : Int) + (n1 : Int) = 0) := by omega
                go_wp2_with fail
                clear z1 z2
                refine (build8 B0 n0 d0 C0 w7 HS37.out (by omega) HC0.out HD0.out HZ3.out).mono ?_
                rintro e w8 ⟨g2, rfl, ha8, hb8⟩
                have H9 := Lib.hid (conv9 0 C0 w8.heap.size 0 n0 g2 n0 (.slice none 0 0) [] w8 ⟨rfl, .inl ⟨rfl, rfl⟩⟩ (Nat.le_refl _) ha8 (by omega) HC0.out)
                have HB78 := Lib.hid hb8
                have HS48 := Lib.hid (HS47.out.below hb8)
                clear ha8 hb8 HS47 HS37
                go_wp2_with fail
                refine H9.out.mono ?_
                rintro e w9 ⟨v9, R9, rfl, hr9, hg9, hb9, hk9⟩
                have HR9 := Lib.hid hr9
                have HG9 := Lib.hid hg9
                have HB89 := Lib.hid hb9
                have HK9 := Lib.hid hk9
                have HS49 := Lib.hid (HS48.out.below hb9)
                clear hr9 hg9 hb9 hk9 H9 HS48
                go_wp2_with fail
                refine (build8 B1 n1 d1 C1 w9 HS49.out (by omega) HC1.out HD1.out HZ4.out).mono ?_
                rintro e w10 ⟨g3, rfl, ha10, hb10⟩
                have H11 := Lib.hid (conv9 1 C1 w8.heap.size (0 + n0) n1 g3 n1 v9 ([] ++ flatR R9 n0) w10 (row_below (B := 0) HR9.out hb10) (Nat.le_trans HB89.out.size hb10.size) ha10 (by omega) HC1.out)
                have HB910 := Lib.hid hb10
                clear ha10 hb10 HS49
                go_wp2_with fail
                refine H11.out.mono ?_
                rintro e w11 ⟨v11, R11, rfl, hr11, hg11, hb11, hk11⟩
                rw [List.nil_append, Nat.zero_add, flat_cat] at hr11
                obtain ⟨E, ec, rfl⟩ := row_n hr11
                have k78 : Kp w7 w8 := Kp.of HB78.out
                have k910 : Kp w9 w10 := Kp.of HB910.out
                have HPAIR := Lib.hid (pair (R := R) (S := catR n0 R9 R11) (fun i hi => ((((HG7.out i hi).kp k78).kp HK9.out).kp k910).kp hk11) (fun i hi => ((((HG7b.out i hi).kp k78).kp HK9.out).kp k910).kp hk11)
                  (fun i hi => by rw [cat_left hi]; exact ((HG9.out i hi).kp k910).kp hk11) (fun i hi => by rw [cat_right]; exact hg11 i hi) HC0.out HC1.out)
                have hr7 := row_keep (row_below (B := 0) (row_below (B := 0) (row_below (B := 0) HR7.out HB78.out) HB89.out) HB910.out) hb11 (fun g hg => Nat.lt_of_lt_of_le (HR7.out.lt g hg).2 HB78.out.size)
                have HRa := Lib.hid hr7
                have HRb := Lib.hid hr11
                have HB11 := Lib.hid (HB7.out.trans ((HB78.out.trans ((HB89.out.trans ((HB910.out.mono HB89.out.size).trans hb11)).mono HB78.out.size)).mono HB7.out.size))
                clear hr7 hr11 hg11 hb11 hk11 k78 k910 H11 HR9 HG9 HK9 HG7 HG7b HR7
                obtain ⟨N, hNN⟩ : ∃ N, n0 + n1 = N := ⟨_, rfl⟩
                rw [hNN] at HRa HRb HPAIR hN ⊢
                clear hNN hzero
                go_wp2_with fail
                go_loopw [9] (fun i wr => ∃ k : Nat, i = .int .i64 k ∧ k ≤ N ∧ Hid (Below w11.heap.size w11 wr)) (fun i _ => N - (intOf i).toNat)
                case atStart => exact ⟨0, rfl, by omega, Lib.hid (Below.refl _ _)⟩
                case round =>
                  obtain ⟨k, rfl, hk, HBk⟩ := hrel
                  obtain ⟨wi, rfl⟩ : ∃ wi : World, wi = wr := ⟨_, rfl⟩
                  by_cases hlt : k < N
                  · obtain ⟨ga, rfl, hca⟩ := row_cells (row_below (B := 0) HRa.out HBk.out) hlt
                    obtain ⟨gb, rfl, hcb⟩ := row_cells (row_below (B := 0) HRb.out HBk.out) hlt
                    obtain ⟨kd, m, hga, hgb, hmn⟩ := HPAIR.out k hlt
                    obtain ⟨ra, hra⟩ : ∃ ra, ra = R k := ⟨_, rfl⟩
                    obtain ⟨rb, hrb⟩ : ∃ rb, rb = catR n0 R9 R11 k := ⟨_, rfl⟩
                    rw [← hra] at hca hga
                    rw [← hrb] at hcb hgb
                    clear hra hrb
                    obtain ⟨aA, an, ac, ap, at_, ak, ai⟩ := ra
                    obtain ⟨bA, bn, bc, bp, bt_, bk, bi⟩ := rb
                    have hca2 := (row_below (B := 0) HRa.out HBk.out).lt ga rfl
                    have hcb2 := (row_below (B := 0) HRb.out HBk.out).lt gb rfl
                    have HCA := Lib.hid hca
                    have HCB := Lib.hid hcb
                    have HGA := Lib.hid (hga.kp (Kp.of HBk.out))
                    have HGB := Lib.hid (hgb.kp (Kp.of HBk.out))
                    have HL := Lib.hid (And.intro hca2.2 hcb2.2)
                    have q0 : (0 : Int) ≤ (k : Int) := by omega
                    have q1 : (k : Int) < (N : Int) := by omega
                    clear hca hcb hga hgb hca2 hcb2
                    go_upto_region 27 with fail
                    have hS := Lib.hid (show ∀ W, Below wi.heap.size wi W → (fun W => Below wi.heap.size wi W ∧ W.cell? ⟨ga, k * 8, none⟩ = some (.slice aA an ac) ∧ W.cell? ⟨ga, k * 8 + 1, none⟩ = some (.string ap) ∧ W.cell? ⟨ga, k * 8 + 2, none⟩ = some (.nilIface) ∧ W.cell? ⟨ga, k * 8 + 3, none⟩ = some (.pointer none) ∧ W.cell? ⟨ga, k * 8 + 4, none⟩ = some (.string at_) ∧ W.cell? ⟨ga, k * 8 + 5, none⟩ = some (.bool false) ∧ W.cell? ⟨ga, k * 8 + 6, none⟩ = some (.int .u8 ak) ∧ W.cell? ⟨ga, k * 8 + 7, none⟩ = some (.int .u8 ai) ∧ W.cell? ⟨gb, k * 8, none⟩ = some (.slice bA bn bc) ∧ W.cell? ⟨gb, k * 8 + 1, none⟩ = some (.string bp) ∧ W.cell? ⟨gb, k * 8 + 2, none⟩ = some (.nilIface) ∧ W.cell? ⟨gb, k * 8 + 3, none⟩ = some (.pointer none) ∧ W.cell? ⟨gb, k * 8 + 4, none⟩ = some (.string bt_) ∧ W.cell? ⟨gb, k * 8 + 5, none⟩ = some (.bool false) ∧ W.cell? ⟨gb, k * 8 + 6, none⟩ = some (.int .u8 bk) ∧ W.cell? ⟨gb, k * 8 + 7, none⟩ = some (.int .u8 bi)) W from fun W h => ⟨h, (h.cell (p := ⟨ga, k * 8, none⟩) HL.out.1).trans ((HCA.out 0 (by decide)).trans rfl), (h.cell (p := ⟨ga, k * 8 + 1, none⟩) HL.out.1).trans ((HCA.out 1 (by decide)).trans rfl), (h.cell (p := ⟨ga, k * 8 + 2, none⟩) HL.out.1).trans ((HCA.out 2 (by decide)).trans rfl), (h.cell (p := ⟨ga, k * 8 + 3, none⟩) HL.out.1).trans ((HCA.out 3 (by decide)).trans rfl), (h.cell (p := ⟨ga, k * 8 + 4, none⟩) HL.out.1).trans ((HCA.out 4 (by decide)).trans rfl), (h.cell (p := ⟨ga, k * 8 + 5, none⟩) HL.out.1).trans ((HCA.out 5 (by decide)).trans rfl), (h.cell (p := ⟨ga, k * 8 + 6, none⟩) HL.out.1).trans ((HCA.out 6 (by decide)).trans rfl), (h.cell (p := ⟨ga, k * 8 + 7, none⟩) HL.out.1).trans ((HCA.out 7 (by decide)).trans rfl), (h.cell (p := ⟨gb, k * 8, none⟩) HL.out.2).trans ((HCB.out 0 (by decide)).trans rfl), (h.cell (p := ⟨gb, k * 8 + 1, none⟩) HL.out.2).trans ((HCB.out 1 (by decide)).trans rfl), (h.cell (p := ⟨gb, k * 8 + 2, none⟩) HL.out.2).trans ((HCB.out 2 (by decide)).trans rfl), (h.cell (p := ⟨gb, k * 8 + 3, none⟩) HL.out.2).trans ((HCB.out 3 (by decide)).trans rfl), (h.cell (p := ⟨gb, k * 8 + 4, none⟩) HL.out.2).trans ((HCB.out 4 (by decide)).trans rfl), (h.cell (p := ⟨gb, k * 8 + 5, none⟩) HL.out.2).trans ((HCB.out 5 (by decide)).trans rfl), (h.cell (p := ⟨gb, k * 8 + 6, none⟩) HL.out.2).trans ((HCB.out 6 (by decide)).trans rfl), (h.cell (p := ⟨gb, k * 8 + 7, none⟩) HL.out.2).trans ((HCB.out 7 (by decide)).trans rfl)⟩)
                    go_region_held3 (fun W => Below wi.heap.size wi W ∧ W.cell? ⟨ga, k * 8, none⟩ = some (.slice aA an ac) ∧ W.cell? ⟨ga, k * 8 + 1, none⟩ = some (.string ap) ∧ W.cell? ⟨ga, k * 8 + 2, none⟩ = some (.nilIface) ∧ W.cell? ⟨ga, k * 8 + 3, none⟩ = some (.pointer none) ∧ W.cell? ⟨ga, k * 8 + 4, none⟩ = some (.string at_) ∧ W.cell? ⟨ga, k * 8 + 5, none⟩ = some (.bool false) ∧ W.cell? ⟨ga, k * 8 + 6, none⟩ = some (.int .u8 ak) ∧ W.cell? ⟨ga, k * 8 + 7, none⟩ = some (.int .u8 ai) ∧ W.cell? ⟨gb, k * 8, none⟩ = some (.slice bA bn bc) ∧ W.cell? ⟨gb, k * 8 + 1, none⟩ = some (.string bp) ∧ W.cell? ⟨gb, k * 8 + 2, none⟩ = some (.nilIface) ∧ W.cell? ⟨gb, k * 8 + 3, none⟩ = some (.pointer none) ∧ W.cell? ⟨gb, k * 8 + 4, none⟩ = some (.string bt_) ∧ W.cell? ⟨gb, k * 8 + 5, none⟩ = some (.bool false) ∧ W.cell? ⟨gb, k * 8 + 6, none⟩ = some (.int .u8 bk) ∧ W.cell? ⟨gb, k * 8 + 7, none⟩ = some (.int .u8 bi))
                      (first | exact hS.out _ (below_drewN (Below.refl _ _) 1) | exact hS.out _ (By.bt (And.left (by assumption)) hb12))
                      (first
                        | (go_at_call 10; refine (eq10 kd m ⟨aA, an, ac, ap, at_, ak, ai⟩ ⟨bA, bn, bc, bp, bt_, bk, bi⟩ _ (HGA.out.kp (Kp.of (And.left (by assumption)))) (HGB.out.kp (Kp.of (And.left (by assumption)))) hmn).mono ?_; rintro e w12 ⟨rfl, hb12⟩))
                    have HB12 := Lib.hid (HBk.out.trans ((undrew hb12).mono HBk.out.size))
                    clear hb12 hS
                    go_wp2_with fail
                    go_roundw
                    case rel => exact ⟨k + 1, by go_num, by omega, HB12⟩
                    case measure => simp [intOf]; omega
                  · obtain rfl : N = k := by omega
                    have z0 : decide ((N : Int) < N) = false := decide_eq_false (by omega)
                    go_wp2_with fail
                    go_ret
                    exact ⟨rfl, HB11.out.trans (HBk.out.mono HB11.out.size)⟩

set_option maxRecDepth 10000000 in
theorem lifted (os : Os) (started : os.Started) (H : Type) (enc : TypeId × Value → H) :
    ReturnsInHanded {} Try.checked os 3 .any (Rows.fnErrorsAndWarningsWithoutLocationsKeepOrderSpec.pre6 enc Try.prog Try.f3 Rows.fnErrorsAndWarningsWithoutLocationsKeepOrderRow.domain false) (Rows.fnErrorsAndWarningsWithoutLocationsKeepOrderSpec.post enc Try.prog Try.f3 false true false false) := by
  refine returnsInHanded_of_change (C := Try.checked) own started (by kernel_rfl) Try.func3
    (ChangeSpec.witness6 (enc := enc) (C := Try.checked) false ⟨#[], #[.slice none 0 0, .slice none 0 0], []⟩ 8 (by kernel_rfl) (by kernel_rfl) (by kernel_rfl) (by kernel_rfl)) ?_
  intro W base args ds gs before hval0 hW hcnd _
  have hval : ∀ (j : Nat) t v, Try.f3.params[j]? = some t → args[j]? = some v → Value.okWide Try.prog W .any base t v := hval0
  have hW' := hW
  obtain ⟨p, q, hA0, hV, rfl, hfz, hnd⟩ := hW
  have hA : DataW.TrodAll enc Try.prog W 0 (fun _ => true) true Try.f3.params.toList args.toList ds p := hA0
  rw [Try.params3] at hA hval
  obtain ⟨v0, vs0, d0, ds0, p0, q0, hargs0, rfl, rfl, h0, r0⟩ := trodAll_cons hA
  obtain ⟨v1, vs1, d1, ds1, p1, q1, hargs1, rfl, rfl, h1, r1⟩ := trodAll_cons r0
  obtain ⟨rfl, rfl, rfl⟩ := trodAll_nil r1
  obtain rfl : args = #[v0, v1] := by cases args; simp_all
  obtain ⟨A0, n0, c0, M0, rfl, hn0, hc0, hz0, hB0, hM0⟩ := Msr.open_msgs Ty.tys Try.underlying22 (hval 0 22 v0 rfl rfl) h0
  obtain ⟨A1, n1, c1, M1, rfl, hn1, hc1, hz1, hB1, hM1⟩ := Msr.open_msgs Ty.tys Try.underlying22 (hval 1 22 v1 rfl rfl) h1
  clear hA0 hval0
  refine (walk A0 n0 c0 M0 A1 n1 c1 M1 W ⟨hB0, hM0⟩ hc0 hn0 hz0 ⟨hB1, hM1⟩ hc1 hn1 hz1).mono fun e W' ⟨he, hg⟩ => ?_
  subst he
  exact ⟨_, rfl, law_post laid readEach rfl rfl Try.underlying4 ⟨rfl, rfl, rfl⟩ hW' hg⟩

theorem over : Rows.fnErrorsAndWarningsWithoutLocationsKeepOrderRow.holds Try.pinned (OpenSpec.ofChange Rows.fnErrorsAndWarningsWithoutLocationsKeepOrderSpec) :=
  OpenClaim.holds_of_wide 3 Try.f3 rfl rfl rfl rfl rfl rfl rfl ⟨rfl, rfl, rfl, rfl, rfl⟩ rfl rfl rfl rfl rfl (by kernel_rfl) Try.func3 (by kernel_rfl)
    (of_decide_eq_true (by kernel_rfl)) (by unfold Func.isWrapper; first | (rw [if_pos (by decide +kernel)]; kernel_rfl) | (rw [if_neg (by decide +kernel)]; exact ⟨rfl, rfl⟩))
    (fun os started H enc _ => lifted os started H enc)

/-- The statement. -/
theorem proved : Rows.FnErrorsAndWarningsWithoutLocationsKeepOrderSaid :=
  over
#print axioms proved
end Go.Proofs.Ytmjfdhgfpgeboad.fnErrorsAndWarningsWithoutLocationsKeepOrder
