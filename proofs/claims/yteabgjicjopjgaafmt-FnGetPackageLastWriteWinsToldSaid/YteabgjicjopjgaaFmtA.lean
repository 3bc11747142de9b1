/-
  Proved: the law FnGetPackageLastWriteWins of folder n011_255 returns true for every argument that its parameter types allow, and leaves its arguments as they were; there is no further condition.
-/
import Derived.Test.YteabgjicjopjgaaFmtRows
import Derived.Test.YteabgjicjopjgaaFmtCards
import Derived.Stop.JoinedTold
import Derived.SevenToldRow
import Derived.WalkKit
import Derived.ProofKit
import Derived.OpenShut
import Derived.Below
import Derived.Carry
import Derived.ChangeMaps5
import Derived.Handy
import Derived.Lib.Hide
import Derived.WalkSpells
import Derived.OwnWalk
import Derived.Deep.RegionHeld3
import Derived.Deep.CutRange
import Derived.Deep.QuietTactic
import Derived.PlainAid
import Derived.Test.YteabgjicjopjgaaFmtGp
import Derived.Test.YteabgjicjopjgaaFmtStr
namespace Go.Proofs.YteabgjicjopjgaaFmt.fnGetPackageLastWriteWins
open Go.ChangeShapes Go.WideShapes Go.ChangeAt Go.RowKit Go.Extern.Stop Go.Stop Go.Extern
set_option linter.unusedVariables false

theorem own : ownKnob Tryf.prog.godebug = none := by kernel_rfl
theorem laid : laidOutB Tryf.prog = true := by kernel_rfl
theorem readAll : (Tryf.f3.params.toList.all fun t => Tryf.prog.readableRec t && decide (t < Tryf.prog.types.size)) = true := by kernel_rfl
theorem readEach : ∀ t ∈ Tryf.f3.params.toList, Tryf.prog.readableRec t = true ∧ t < Tryf.prog.types.size := fun t ht => by
  have := List.all_eq_true.1 readAll t ht
  simpa using this
section
variable {H : Type} {enc : TypeId × Value → H} {P : Program}
theorem trodAll_stays (hl : laidOutB P = true) {W W' : World} (hb : Below W.heap.size W W') {sp : Nat → Bool} : ∀ {ts : List TypeId} {vs : List Value} {ds : List (DataW H)} {ps : List MemPlace},
    (∀ t ∈ ts, P.readableRec t = true ∧ t < P.types.size) → DataW.TrodAll enc P W 0 (fun _ => true) true ts vs ds ps → (∀ p ∈ ps, p.block < W.heap.size) → (∀ p ∈ ps, sp p.block = true) → DataW.TrodAll enc P W' 0 sp true ts vs ds ps
  | [], [], [], _, _, h, _, _ => h
  | _ :: _, _ :: _, _ :: _, _, hT, ⟨p, q, h1, h2, e⟩, hlt, hs =>
    ⟨p, q, WideElems.Trod_stays hl (hT _ (List.mem_cons.2 (Or.inl rfl))).1 (hT _ (List.mem_cons.2 (Or.inl rfl))).2 h1 (fun x hx => hb.same (hlt x (by rw [e]; exact List.mem_append_left _ hx))) (fun x hx => hs x (by rw [e]; exact List.mem_append_left _ hx)),
      trodAll_stays hl hb (fun t ht => hT t (List.mem_cons.2 (Or.inr ht))) h2 (fun x hx => hlt x (by rw [e]; exact List.mem_append_right _ hx)) (fun x hx => hs x (by rw [e]; exact List.mem_append_right _ hx)), e⟩

/-- A law's step: the result is true, the arguments are kept, the world has changed in new blocks alone. -/
theorem law_post {f : Func} {s : ChangeSpec} {apart fresh handsOn again : Bool} {W W' : World} {args : Array Value} {ds gs : List (DataW H)} {before : List MemPlace} {tb : TypeId}
    (hl : laidOutB P = true) (hps : ∀ t ∈ f.params.toList, P.readableRec t = true ∧ t < P.types.size) (hv : s.vars = []) (hr : f.resultTypes = #[tb]) (ht : P.underlying tb = some .bool)
    (hs : (s.fn H (ds ++ [])).results = [.lit (.bool true)] ∧ (s.fn H (ds ++ [])).args = ds ∧ (s.fn H (ds ++ [])).vars = [])
    (hW : DataW.Whole enc P f.params.toList s.vars apart W args.toList ds gs before) (hb : Below W.heap.size W W') :
    s.post enc P f apart fresh handsOn again W args (.bool true) W' := by
  have hlt : ∀ p ∈ before, p.block < W.heap.size := fun p hp => hW.lt p hp
  have hold : ∀ p ∈ before, (fun b => decide (b < W.heap.size)) p.block = true := fun p hp => by simpa using hlt p hp
  have hW0 := hW
  obtain ⟨pa, pv, hA, hV, rfl, hz, hn⟩ := hW
  rw [hv] at hV
  obtain ⟨rfl, rfl⟩ := trodVars_none hV
  have hres : ∀ (b : Nat) (sp : Nat → Bool) (hd : Bool), DataW.TrodAll enc P W' b sp hd f.resultTypes.toList ((Value.bool true).resultList f.resultTypes.size) (s.fn H (ds ++ [])).results [] := fun b sp hd => by
    rw [hs.1, hr]; exact trodAll_cons_mk (shut_bool ht _) trodAll_mk0
  have hargs : ∀ sp : Nat → Bool, (∀ p ∈ pa ++ [], sp p.block = true) → DataW.TrodAll enc P W' 0 sp true f.params.toList args.toList (s.fn H (ds ++ [])).args pa := fun sp hsp => by
    rw [hs.2.1]; exact trodAll_stays hl hb hps hA (fun p hp => hlt p (by simpa using hp)) (fun p hp => hsp p (by simpa using hp))
  have hvars : ∀ sp : Nat → Bool, DataW.TrodVars enc P W' sp s.vars (s.fn H (ds ++ [])).vars [] := fun sp => by rw [hv, hs.2.2]; rfl
  refine ⟨ds, [], pa ++ [], [], pa, [], hW0, hres _ _ _, hargs _ hold, hvars _, World.keptBut_mono (fun p hp => ⟨hp, Or.inr (List.mem_append.1 hp)⟩) (hb.frame (· ∈ pa ++ [])), fun _ => ?_⟩
  refine ⟨?_, _, _, ([] ++ pa) ++ [], ⟨[] ++ pa, [], trodAll_append (hargs _ (fun _ _ => rfl)) (hres _ _ _), hvars _, rfl, ?_, ?_⟩, ?_⟩
  · intro j t r h1 h2
    rw [hr] at h1 h2
    match j, h1, h2 with
    | 0, h1, h2 =>
      obtain rfl : tb = t := by simpa using h1
      obtain rfl : Value.bool true = r := by simpa [Value.resultList] using h2
      exact okWide_bool_mk ht _
    | j + 1, h1, _ => simp at h1
  · intro b off hp
    have hp' : MemPlace.cell b off ∈ pa ++ [] := by simpa using hp
    rw [hb.frozen (hlt _ hp')]
    exact hz b off hp'
  · intro ha
    simpa using hn ha
  · intro p hp _
    simpa using hp
end

set_option linter.unusedSimpArgs false
open Go.PlainAid Str Mem Mvs Sz Ga Gb Gp
theorem wrapP {x y : Int} (h : x = y) (h0 : -2147483648 ≤ y) (h1 : y ≤ 2147483647) : IntKind.i64.wrap x = y := by
  subst h
  simp [IntKind.wrap, IntKind.bits, IntKind.signed]
  omega
set_option maxRecDepth 10000000 in
set_option maxHeartbeats 40000000 in
theorem walk (A0 : Option Addr) (n0 c0 : Nat) (S0 : Nat → ByteArray) (A1 : Option Addr) (n1 c1 : Nat) (S1 : Nat → ByteArray) (A2 : Option Addr) (n2 c2 : Nat) (S2 : Nat → ByteArray) (a3 : ByteArray) (a4 : ByteArray) (w : World) (hA0 : Mem.Rd w w.heap.size 1 A0 n0 (fun j => .string (S0 j))) (hc0 : c0 ≤ maxLen) (hn0 : n0 ≤ c0) (hz0 : A0 = none → n0 = 0 ∧ c0 = 0) (hS0 : ∀ j, j < n0 → (S0 j).size ≤ maxLen) (hA1 : Mem.Rd w w.heap.size 1 A1 n1 (fun j => .string (S1 j))) (hc1 : c1 ≤ maxLen) (hn1 : n1 ≤ c1) (hz1 : A1 = none → n1 = 0 ∧ c1 = 0) (hS1 : ∀ j, j < n1 → (S1 j).size ≤ maxLen) (hA2 : Mem.Rd w w.heap.size 1 A2 n2 (fun j => .string (S2 j))) (hc2 : c2 ≤ maxLen) (hn2 : n2 ≤ c2) (hz2 : A2 = none → n2 = 0 ∧ c2 = 0) (hS2 : ∀ j, j < n2 → (S2 j).size ≤ maxLen) (w3 : a3.size ≤ maxLen) (w4 : a4.size ≤ maxLen) :
    Calls Tryf.prog 3 #[.slice A0 n0 c0, .slice A1 n1 c1, .slice A2 n2 c2, .string a3, .string a4] w fun e w' => e = .returned (.bool true) ∧ Below w.heap.size w w' := by
  have HA0 := Lib.hid hA0
  have HA1 := Lib.hid hA1
  have HA2 := Lib.hid hA2
  have HS0 := Lib.hid hS0
  have HS1 := Lib.hid hS1
  have HS2 := Lib.hid hS2
  have hN0 : n0 ≤ maxLen := Nat.le_trans hn0 hc0
  have hN1 : n1 ≤ maxLen := Nat.le_trans hn1 hc1
  have hN2 : n2 ≤ maxLen := Nat.le_trans hn2 hc2
  have HZ0 := Lib.hid hz0
  have HZ1 := Lib.hid hz1
  have HZ2 := Lib.hid hz2
  clear hA0 hA1 hA2 hS0 hS1 hS2 hz0 hz1 hz2
  go_enter Tryf.func3, Tryf.ntmps3
  go_wp2_with fail
  refine (bytes4 A0 n0 c0 S0 A1 n1 c1 S1 A2 n2 c2 S2 a3 a4 _ HA0.out hN0 HS0.out HA1.out hN1 HS1.out HA2.out hN2 HS2.out w3 w4).mono ?_
  rintro e w' ⟨rfl, rfl⟩
  by_cases ht : (((n0 + tot S0 n0) + (n1 + tot S1 n1)) + (n2 + tot S2 n2)) + a3.size + a4.size ≤ 1048576
  · rw [szOk_yes ht]
    have hm0 : n0 + tot S0 n0 ≤ 1048576 := by omega
    have hm1 : n1 + tot S1 n1 ≤ 1048576 := by omega
    have hm2 : n2 + tot S2 n2 ≤ 1048576 := by omega
    clear hN0 hN1 hN2 hc0 hc1 hc2 hn0 hn1 hn2 ht
    go_wp2_with fail
    refine (sum_any A0 n0 c0 S0 _ HA0.out hm0).mono ?_
    rintro e w' ⟨⟨N1, b1, d1, rfl⟩, rfl⟩
    go_wp2_with fail
    refine (sum_any A1 n1 c1 S1 _ HA1.out hm1).mono ?_
    rintro e w' ⟨⟨N2, b2, d2, rfl⟩, rfl⟩
    go_wp2_with fail
    refine (sum_any A2 n2 c2 S2 _ HA2.out hm2).mono ?_
    rintro e w' ⟨⟨N3, b3, d3, rfl⟩, rfl⟩
    go_wp2_with fail
    refine (one_any a3 _).mono ?_
    rintro e w' ⟨⟨N4, b4, d4, rfl⟩, rfl⟩
    go_wp2_with fail
    refine (one_any a4 _).mono ?_
    rintro e w' ⟨⟨N5, b5, d5, rfl⟩, rfl⟩
    by_cases hN : N1 + N2 + N3 + N4 + N5 ≤ 1048576
    · have tN : decide ((1048576 : Int) < N1 + N2 + N3 + N4 + N5) = false := decide_eq_false (by omega)
      go_wp2_with fail
      clear tN hN b1 d1 b2 d2 b3 d3 b4 d4 b5 d5
      refine (clone_any A0 n0 c0 S0 _ HA0.out HZ0.out (by omega)).mono ?_
      rintro e w1 ⟨B0, k0, rfl, hB0, hw1⟩
      go_wp2_with fail
      refine (clone_any A1 n1 c1 S1 _ ((HA1.out.below hw1).mono hw1.size) HZ1.out (by omega)).mono ?_
      rintro e w2 ⟨B1, k1, rfl, hB1, hw2⟩
      go_wp2_with fail
      have hw12 := hw1.trans (hw2.mono hw1.size)
      refine (clone_any A2 n2 c2 S2 _ ((HA2.out.below hw12).mono hw12.size) HZ2.out (by omega)).mono ?_
      rintro e w3' ⟨B2, k2, rfl, hB2, hw3⟩
      have hw13 := hw12.trans (hw3.mono hw12.size)
      have hR0 := ((hB0.below hw2).mono hw2.size).below hw3 |>.mono hw3.size
      have hR1 := (hB1.below hw3).mono hw3.size
      have HR0 := Lib.hid hR0
      have HR1 := Lib.hid hR1
      have HR2 := Lib.hid hB2
      have HW := Lib.hid hw13
      have hl0 : n0 ≤ 1048576 := by omega
      have hl1 : n1 ≤ 1048576 := by omega
      have hl2 : n2 ≤ 1048576 := by omega
      clear hw1 hw2 hw3 hw12 hw13 hB0 hB1 hB2 hR0 hR1 HA0 HA1 HA2 HZ0 HZ1 HZ2 hm0 hm1 hm2
      go_wp2_with fail
      refine (min_any n0 n1 n2 hl0 hl1 hl2 _).mono ?_
      rintro e w' ⟨rfl, rfl⟩
      obtain ⟨n, hn⟩ : ∃ n, n = min (min n0 n1) n2 := ⟨_, rfl⟩
      rw [← hn]
      have g0 : n ≤ n0 := by omega
      have g1 : n ≤ n1 := by omega
      have g2 : n ≤ n2 := by omega
      clear hn
      go_wp2_with fail
      refine (new_any _).mono ?_
      rintro e w4' ⟨g, b, rfl, hM, hReg, hg, hb, hne, hgl, hw4⟩
      obtain ⟨wz, rfl⟩ : ∃ wz : World, wz = w3' := ⟨_, rfl⟩
      have HST := Lib.hid (St.new (S := S0) (R := S1) (T := S2) hM hReg hg hb hne hw4)
      clear hM hReg hg hb hne hgl hw4
      go_wp2_with fail
      go_loopw [13] (fun i wr => ∃ (k : Nat) (L : ByteArray → Option Nat), k ≤ n ∧ i = .int .i64 k ∧ Hid (St wz wr g b k 0 S0 S1 S2 L (fun _ => 0))) (fun i _ => n - (intOf i).toNat)
      case atStart => exact ⟨0, _, by omega, rfl, HST⟩
      case round =>
        clear HST
        obtain ⟨k, L, hk, rfl, HST⟩ := hrel
        obtain ⟨wo, rfl⟩ : ∃ wo : World, wo = wr := ⟨_, rfl⟩
        by_cases hlt : k < n
        · obtain ⟨b0, o0, rfl, hb0, hc0⟩ := HR0.out (by omega)
          have hck := (HST.out.below.cell (p := ⟨b0, o0 + k, none⟩) hb0).trans (hc0 k (by omega))
          have hsk := HS0.out k (by omega)
          have HPUT := Lib.hid (put10 g b k _ (S0 k) wo HST.out.reg HST.out.mo (by unfold maxLen; omega) hsk)
          clear hc0 hsk hb0
          go_wp2_with fail
          refine HPUT.out.mono ?_
          rintro e w' hp
          have HST' := Lib.hid (HST.out.ident hp)
          obtain ⟨rfl, _⟩ := hp
          clear hck HPUT
          go_wp2_with fail
          go_roundw
          case rel => exact ⟨k + 1, _, by omega, by go_num, HST'⟩
          case measure => simp [intOf]; omega
        · have z1 : decide (k < n) = false := decide_eq_false hlt
          obtain rfl : k = n := by omega
          go_wp2_with fail
          clear z1 hlt
          go_loopw [14] (fun i wr => ∃ (m : Nat) (dep : Nat → Nat), m ≤ k ∧ i = .int .i64 m ∧ Hid (St wz wr g b k m S0 S1 S2 L dep)) (fun i _ => k - (intOf i).toNat)
          case atStart => exact ⟨0, _, by omega, rfl, HST⟩
          case round =>
            clear HST
            obtain ⟨m, dep, hm, rfl, HST⟩ := hrel
            obtain ⟨wy, rfl⟩ : ∃ wy : World, wy = wr := ⟨_, rfl⟩
            by_cases hlt : m < k
            · obtain ⟨b0, o0, rfl, hb0, hc0⟩ := HR0.out (by omega)
              obtain ⟨b1, o1, rfl, hb1, hc1⟩ := HR1.out (by omega)
              obtain ⟨b2, o2, rfl, hb2, hc2⟩ := HR2.out (by omega)
              have d0 : wy.cell? ⟨b0, o0 + m, none⟩ = some (.string (S0 m)) := (HST.out.below.cell (p := ⟨b0, o0 + m, none⟩) hb0).trans (hc0 m (by omega))
              have d1 : wy.cell? ⟨b1, o1 + m, none⟩ = some (.string (S1 m)) := (HST.out.below.cell (p := ⟨b1, o1 + m, none⟩) hb1).trans (hc1 m (by omega))
              have d2 : wy.cell? ⟨b2, o2 + m, none⟩ = some (.string (S2 m)) := (HST.out.below.cell (p := ⟨b2, o2 + m, none⟩) hb2).trans (hc2 m (by omega))
              obtain ⟨c, hL⟩ := Option.isSome_iff_exists.1 (HST.out.all m hlt)
              have hf : (L (S0 m)).map (fun c => Value.map (some c)) = some (.map (some c)) := by rw [hL]; rfl
              have hfar := HST.out.far _ _ hL
              have HPUT := Lib.hid (put11 g b k c m _ _ (S0 m) (S1 m) (S2 m) wy.drew HST.out.reg (HST.out.mo.drewN 1) hf ((HST.out.inn _ _ hL).drewN 1) (by unfold maxLen; omega) (HS0.out m (by omega)) (HS1.out m (by omega)))
              have HSD := Lib.hid (HST.out.drewN 1)
              have q0 : (0 : Int) ≤ (m : Int) := by omega
              have q1 : (m : Int) < (n0 : Int) := by omega
              have q2 : (m : Int) < (n1 : Int) := by omega
              have q3 : (m : Int) < (n2 : Int) := by omega
              have e0 : some b0 ≠ some c := by have := hfar.1; simp; omega
              have e1 : some b1 ≠ some c := by have := hfar.1; simp; omega
              have e2 : some b2 ≠ some c := by have := hfar.1; simp; omega
              clear hc0 hc1 hc2 hb0 hb1 hb2 hf hfar
              go_upto_region 17 with fail
              go_region_held3 (fun W => W.cell? ⟨b0, o0 + m, none⟩ = some (.string (S0 m)) ∧ W.cell? ⟨b1, o1 + m, none⟩ = some (.string (S1 m)) ∧ W.cell? ⟨b2, o2 + m, none⟩ = some (.string (S2 m)))
                (first | exact ⟨d0, d1, d2⟩ | exact ⟨hg.cell d0 e0, hg.cell d1 e1, hg.cell d2 e2⟩)
                ((go_at_call 11; refine HPUT.out.mono ?_; rintro e w' hp; have HST' := Lib.hid (HSD.out.package hL hp); obtain ⟨rfl, _, _, _, hg⟩ := hp))
              clear d0 d1 d2 hg
              go_wp2_with fail
              go_roundw
              case rel => exact ⟨m + 1, _, by omega, by go_num, HST'⟩
              case measure => simp [intOf]; omega
            · have z1 : decide (m < k) = false := decide_eq_false hlt
              obtain rfl : m = k := by omega
              go_wp2_with fail
              clear z1 hlt
              go_loop [15, 16, 17] (fun f x i => ∃ k : Nat, k ≤ m ∧ f = .bool false ∧ x = .string ⟨#[]⟩ ∧ i = .int .i64 ((k : Int) - 1) ∧ Hid (lastI S0 S1 a3 a4 m = lastI S0 S1 a3 a4 k)) (fun _ _ i => (intOf i + 1).toNat)
              case atStart => exact ⟨m, by omega, rfl, rfl, rfl, Lib.hid rfl⟩
              case round =>
                obtain ⟨k, hkm, rfl, rfl, rfl, HE⟩ := hrel
                by_cases hlt : 0 < k
                · obtain ⟨j, rfl⟩ : ∃ j, k = j + 1 := ⟨k - 1, by omega⟩
                  obtain ⟨b0, o0, rfl, hb0, hc0⟩ := HR0.out (by omega)
                  obtain ⟨b1, o1, rfl, hb1, hc1⟩ := HR1.out (by omega)
                  obtain ⟨b2, o2, rfl, hb2, hc2⟩ := HR2.out (by omega)
                  have d0 : wy.cell? ⟨b0, o0 + j, none⟩ = some (.string (S0 j)) := (HST.out.below.cell (p := ⟨b0, o0 + j, none⟩) hb0).trans (hc0 j (by omega))
                  have d1 : wy.cell? ⟨b1, o1 + j, none⟩ = some (.string (S1 j)) := (HST.out.below.cell (p := ⟨b1, o1 + j, none⟩) hb1).trans (hc1 j (by omega))
                  have d2 : wy.cell? ⟨b2, o2 + j, none⟩ = some (.string (S2 j)) := (HST.out.below.cell (p := ⟨b2, o2 + j, none⟩) hb2).trans (hc2 j (by omega))
                  have hq : ((j + 1 : Nat) : Int) - 1 = (j : Int) := by omega
                  have q0 : decide ((0 : Int) ≤ (j : Int)) = true := decide_eq_true (by omega)
                  have q1 : (j : Int) < (n0 : Int) := by omega
                  have q2 : (j : Int) < (n1 : Int) := by omega
                  have q3 : (j : Int) < (n2 : Int) := by omega
                  clear hc0 hc1 hc2 hb0 hb1 hb2
                  rw [hq]
                  by_cases h1 : S0 j = a3
                  · have t1 : ((S0 j).toList == a3.toList) = true := by rw [Str.toList_beq]; exact decide_eq_true h1
                    by_cases h2 : S1 j = a4
                    · have t2 : ((S1 j).toList == a4.toList) = true := by rw [Str.toList_beq]; exact decide_eq_true h2
                      have HX : Hid ((lastI S0 S1 a3 a4 m).map S2 = some (S2 j)) := Lib.hid (by rw [HE.out, lastI_hit ⟨h1, h2⟩]; rfl)
                      clear h1 h2 HE
                      have HH : Has wy (fun s => (L s).map fun c => .map (some c)) a3 a4 (some (S2 j)) := by
                        have h := HST.out.has a3 a4
                        rw [HX.out] at h
                        exact h
                      have HGET := Lib.hid (get12 g b m _ a3 a4 (some (S2 j)) wy HST.out.reg HST.out.mo HH w3 w4)
                      clear HH
                      go_wp2_with fail
                      refine HGET.out.mono ?_
                      rintro e wf ⟨rfl, hwf⟩
                      simp only [Option.getD_none, Option.isSome_none, Option.getD_some, Option.isSome_some, Option.map_none, Option.map_some]
                      have HST2 := Lib.hid (HST.out.mono hwf)
                      clear hwf HGET HX HST
                      by_cases hm0 : 0 < m
                      · obtain ⟨bb0, oo0, e0, hb0, hc0⟩ := HR0.out (by omega)
                        cases e0
                        obtain ⟨bb1, oo1, e1, hb1, hc1⟩ := HR1.out (by omega)
                        cases e1
                        obtain ⟨bb2, oo2, e2, hb2, hc2⟩ := HR2.out (by omega)
                        cases e2
                        obtain ⟨l, rfl⟩ : ∃ l, m = l + 1 := ⟨m - 1, by omega⟩
                        have d0 : wf.cell? ⟨b0, o0 + l, none⟩ = some (.string (S0 l)) := (HST2.out.below.cell (p := ⟨b0, o0 + l, none⟩) hb0).trans (hc0 l (by omega))
                        have d1 : wf.cell? ⟨b1, o1 + l, none⟩ = some (.string (S1 l)) := (HST2.out.below.cell (p := ⟨b1, o1 + l, none⟩) hb1).trans (hc1 l (by omega))
                        have HH : Has wf (fun s => (L s).map fun c => .map (some c)) (S0 l) (S1 l) (some (S2 l)) := by
                          have h := HST2.out.has (S0 l) (S1 l)
                          rw [lastI_hit ⟨rfl, rfl⟩] at h
                          exact h
                        have HGET := Lib.hid (get12 g b (l + 1) _ (S0 l) (S1 l) (some (S2 l)) wf.drew (HST2.out.drewN 1).reg (HST2.out.mo.drewN 1) HH (HS0.out l (by omega)) (HS1.out l (by omega)))
                        have HBB := Lib.hid (And.intro hb0 (And.intro hb1 hb2))
                        have HC2 := Lib.hid hc2
                        have hq : ((l + 1 : Nat) : Int) - 1 = (l : Int) := by omega
                        have q0 : (0 : Int) ≤ (l : Int) := by omega
                        have qw : IntKind.i64.wrap ((l : Int) + 1 - 1) = (l : Int) := wrapP (by omega) (by omega) (by omega)
                        have qv : IntKind.i64.wrap (l : Int) = (l : Int) := wrapP rfl (by omega) (by omega)
                        have qz : ((l : Int) + 1 - 1) = (l : Int) := by omega
                        have q1 : (l : Int) < (n0 : Int) := by omega
                        have q2 : (l : Int) < (n1 : Int) := by omega
                        have q3 : (l : Int) < (n2 : Int) := by omega
                        have q4 : decide ((0 : Int) < ((l + 1 : Nat) : Int)) = true := decide_eq_true (by omega)
                        clear hc0 hc1 hc2 hb0 hb1 hb2 HH
                        have hzz := HST2.out.below.size
                        have lb0 : b0 < wf.heap.size := Nat.lt_of_lt_of_le HBB.out.1 hzz
                        have lb1 : b1 < wf.heap.size := Nat.lt_of_lt_of_le HBB.out.2.1 hzz
                        go_upto_region 30 with fail
                        go_region_held3 (fun W => W.cell? ⟨b0, o0 + l, none⟩ = some (.string (S0 l)) ∧ W.cell? ⟨b1, o1 + l, none⟩ = some (.string (S1 l)))
                          (first | exact ⟨d0, d1⟩ | exact ⟨(hwg.cell (p := ⟨b0, o0 + l, none⟩) lb0).trans d0, (hwg.cell (p := ⟨b1, o1 + l, none⟩) lb1).trans d1⟩)
                          ((go_at_call 12; refine HGET.out.mono ?_; rintro e wg ⟨rfl, hwg⟩))
                        have HWG := Lib.hid hwg
                        have d2 : wg.cell? ⟨b2, o2 + l, none⟩ = some (.string (S2 l)) := (hwg.cell (p := ⟨b2, o2 + l, none⟩) (Nat.lt_of_lt_of_le HBB.out.2.2 hzz)).trans ((HST2.out.below.cell (p := ⟨b2, o2 + l, none⟩) HBB.out.2.2).trans (HC2.out l (by omega)))
                        clear d0 d1 hwg HGET HC2 hzz lb0 lb1
                        go_wp2_with fail
                        go_ret
                        exact ⟨rfl, (HW.out.trans ((Below.drew HST2.out.below).mono HW.out.size)).trans (HWG.out.mono (Nat.le_trans HW.out.size HST2.out.below.size))⟩
                      · obtain rfl : m = 0 := by omega
                        go_wp2_with fail
                        go_ret
                        exact ⟨rfl, HW.out.trans (HST2.out.below.mono HW.out.size)⟩
                    · have t2 : ((S1 j).toList == a4.toList) = false := by rw [Str.toList_beq]; exact decide_eq_false h2
                      have HX : Hid (lastI S0 S1 a3 a4 m = lastI S0 S1 a3 a4 j) := Lib.hid (by rw [HE.out, lastI_miss (fun e => h2 e.2)])
                      clear h1 h2 HE
                      go_wp2_with fail
                      go_round
                      case rel => exact ⟨j, by omega, rfl, rfl, rfl, HX⟩
                      case measure => simp [intOf] <;> omega
                  · have t1 : ((S0 j).toList == a3.toList) = false := by rw [Str.toList_beq]; exact decide_eq_false h1
                    have HX : Hid (lastI S0 S1 a3 a4 m = lastI S0 S1 a3 a4 j) := Lib.hid (by rw [HE.out, lastI_miss (fun e => h1 e.1)])
                    clear h1 HE
                    go_wp2_with fail
                    go_round
                    case rel => exact ⟨j, by omega, rfl, rfl, rfl, HX⟩
                    case measure => simp [intOf] <;> omega
                · obtain rfl : k = 0 := by omega
                  have HX : Hid ((lastI S0 S1 a3 a4 m).map S2 = none) := Lib.hid (by rw [HE.out]; rfl)
                  clear HE
                  have HH : Has wy (fun s => (L s).map fun c => .map (some c)) a3 a4 (none) := by
                    have h := HST.out.has a3 a4
                    rw [HX.out] at h
                    exact h
                  have HGET := Lib.hid (get12 g b m _ a3 a4 (none) wy HST.out.reg HST.out.mo HH w3 w4)
                  clear HH
                  go_wp2_with fail
                  refine HGET.out.mono ?_
                  rintro e wf ⟨rfl, hwf⟩
                  simp only [Option.getD_none, Option.isSome_none, Option.getD_some, Option.isSome_some, Option.map_none, Option.map_some]
                  have HST2 := Lib.hid (HST.out.mono hwf)
                  clear hwf HGET HX HST
                  by_cases hm0 : 0 < m
                  · obtain ⟨b0, o0, e0, hb0, hc0⟩ := HR0.out (by omega)
                    cases e0
                    obtain ⟨b1, o1, e1, hb1, hc1⟩ := HR1.out (by omega)
                    cases e1
                    obtain ⟨b2, o2, e2, hb2, hc2⟩ := HR2.out (by omega)
                    cases e2
                    obtain ⟨l, rfl⟩ : ∃ l, m = l + 1 := ⟨m - 1, by omega⟩
                    have d0 : wf.cell? ⟨b0, o0 + l, none⟩ = some (.string (S0 l)) := (HST2.out.below.cell (p := ⟨b0, o0 + l, none⟩) hb0).trans (hc0 l (by omega))
                    have d1 : wf.cell? ⟨b1, o1 + l, none⟩ = some (.string (S1 l)) := (HST2.out.below.cell (p := ⟨b1, o1 + l, none⟩) hb1).trans (hc1 l (by omega))
                    have HH : Has wf (fun s => (L s).map fun c => .map (some c)) (S0 l) (S1 l) (some (S2 l)) := by
                      have h := HST2.out.has (S0 l) (S1 l)
                      rw [lastI_hit ⟨rfl, rfl⟩] at h
                      exact h
                    have HGET := Lib.hid (get12 g b (l + 1) _ (S0 l) (S1 l) (some (S2 l)) wf.drew (HST2.out.drewN 1).reg (HST2.out.mo.drewN 1) HH (HS0.out l (by omega)) (HS1.out l (by omega)))
                    have HBB := Lib.hid (And.intro hb0 (And.intro hb1 hb2))
                    have HC2 := Lib.hid hc2
                    have hq : ((l + 1 : Nat) : Int) - 1 = (l : Int) := by omega
                    have q0 : (0 : Int) ≤ (l : Int) := by omega
                    have qw : IntKind.i64.wrap ((l : Int) + 1 - 1) = (l : Int) := wrapP (by omega) (by omega) (by omega)
                    have qv : IntKind.i64.wrap (l : Int) = (l : Int) := wrapP rfl (by omega) (by omega)
                    have qz : ((l : Int) + 1 - 1) = (l : Int) := by omega
                    have q1 : (l : Int) < (n0 : Int) := by omega
                    have q2 : (l : Int) < (n1 : Int) := by omega
                    have q3 : (l : Int) < (n2 : Int) := by omega
                    have q4 : decide ((0 : Int) < ((l + 1 : Nat) : Int)) = true := decide_eq_true (by omega)
                    clear hc0 hc1 hc2 hb0 hb1 hb2 HH
                    have hzz := HST2.out.below.size
                    have lb0 : b0 < wf.heap.size := Nat.lt_of_lt_of_le HBB.out.1 hzz
                    have lb1 : b1 < wf.heap.size := Nat.lt_of_lt_of_le HBB.out.2.1 hzz
                    go_upto_region 30 with fail
                    go_region_held3 (fun W => W.cell? ⟨b0, o0 + l, none⟩ = some (.string (S0 l)) ∧ W.cell? ⟨b1, o1 + l, none⟩ = some (.string (S1 l)))
                      (first | exact ⟨d0, d1⟩ | exact ⟨(hwg.cell (p := ⟨b0, o0 + l, none⟩) lb0).trans d0, (hwg.cell (p := ⟨b1, o1 + l, none⟩) lb1).trans d1⟩)
                      ((go_at_call 12; refine HGET.out.mono ?_; rintro e wg ⟨rfl, hwg⟩))
                    have HWG := Lib.hid hwg
                    have d2 : wg.cell? ⟨b2, o2 + l, none⟩ = some (.string (S2 l)) := (hwg.cell (p := ⟨b2, o2 + l, none⟩) (Nat.lt_of_lt_of_le HBB.out.2.2 hzz)).trans ((HST2.out.below.cell (p := ⟨b2, o2 + l, none⟩) HBB.out.2.2).trans (HC2.out l (by omega)))
                    clear d0 d1 hwg HGET HC2 hzz lb0 lb1
                    go_wp2_with fail
                    go_ret
                    exact ⟨rfl, (HW.out.trans ((Below.drew HST2.out.below).mono HW.out.size)).trans (HWG.out.mono (Nat.le_trans HW.out.size HST2.out.below.size))⟩
                  · obtain rfl : m = 0 := by omega
                    go_wp2_with fail
                    go_ret
                    exact ⟨rfl, HW.out.trans (HST2.out.below.mono HW.out.size)⟩
    · have tN : decide ((1048576 : Int) < N1 + N2 + N3 + N4 + N5) = true := decide_eq_true (by omega)
      go_wp2_with fail
      go_ret
      exact ⟨rfl, Below.refl _ _⟩
  · rw [szOk_no ht]
    go_wp2_with fail
    go_ret
    exact ⟨rfl, Below.refl _ _⟩

set_option maxRecDepth 10000000 in
theorem lifted (os : Os) (started : os.Started) (H : Type) (enc : TypeId × Value → H) :
    ReturnsInTold none {} Tryf.checked os 3 .any Input.okWide ((OpenSpec.ofChange Rows.fnGetPackageLastWriteWinsSpec).preRow enc Tryf.prog Tryf.f3 Rows.fnGetPackageLastWriteWinsRow.domain false Rows.fnGetPackageLastWriteWinsRow.laid) (fun F => ((OpenSpec.ofChange Rows.fnGetPackageLastWriteWinsSpec).at F).post enc Tryf.prog Tryf.f3 false true false false) (aloneAtReturn Tryf.prog) nothingAlways := by
  refine returnsInTold_of_row (C := Tryf.checked) (s := OpenSpec.ofChange Rows.fnGetPackageLastWriteWinsSpec) (by kernel_rfl) own started (by kernel_rfl) Tryf.func3
    (OpenSpec.witness_stopped (enc := enc) (C := Tryf.checked) false ⟨#[], #[.slice none 0 0, .slice none 0 0, .slice none 0 0, .string ⟨#[]⟩, .string ⟨#[]⟩], []⟩ 8 (by kernel_rfl) (by kernel_rfl) (by kernel_rfl) (by kernel_rfl)) ?_
  intro F W base args ds gs before _ _ hval0 hW hcnd _ _ _ _
  have hval : ∀ (j : Nat) t v, Tryf.f3.params[j]? = some t → args[j]? = some v → Value.okWide Tryf.prog W .any base t v := hval0
  have hW' := hW
  obtain ⟨p, q, hA0, hV, rfl, hfz, hnd⟩ := hW
  have hA : DataW.TrodAll enc Tryf.prog W 0 (fun _ => true) true Tryf.f3.params.toList args.toList ds p := hA0
  rw [Tryf.params3] at hA hval
  obtain ⟨v0, vs0, d0, ds0, p0, q0, hargs0, rfl, rfl, h0, r0⟩ := trodAll_cons hA
  obtain ⟨v1, vs1, d1, ds1, p1, q1, hargs1, rfl, rfl, h1, r1⟩ := trodAll_cons r0
  obtain ⟨v2, vs2, d2, ds2, p2, q2, hargs2, rfl, rfl, h2, r2⟩ := trodAll_cons r1
  obtain ⟨v3, vs3, d3, ds3, p3, q3, hargs3, rfl, rfl, h3, r3⟩ := trodAll_cons r2
  obtain ⟨v4, vs4, d4, ds4, p4, q4, hargs4, rfl, rfl, h4, r4⟩ := trodAll_cons r3
  obtain ⟨rfl, rfl, rfl⟩ := trodAll_nil r4
  obtain rfl : args = #[v0, v1, v2, v3, v4] := by cases args; simp_all
  obtain ⟨A0, n0, c0, S0, rfl, hn0, hc0, hz0, hA0, hS0⟩ := Mem.open_strings Tryf.underlying22 Tryf.underlying9 (by kernel_rfl) (hval 0 22 v0 rfl rfl) h0
  obtain ⟨A1, n1, c1, S1, rfl, hn1, hc1, hz1, hA1, hS1⟩ := Mem.open_strings Tryf.underlying22 Tryf.underlying9 (by kernel_rfl) (hval 1 22 v1 rfl rfl) h1
  obtain ⟨A2, n2, c2, S2, rfl, hn2, hc2, hz2, hA2, hS2⟩ := Mem.open_strings Tryf.underlying22 Tryf.underlying9 (by kernel_rfl) (hval 2 22 v2 rfl rfl) h2
  obtain ⟨a3, rfl, rfl, rfl, w3⟩ := Go.ChangeMaps.open_string Tryf.underlying9 (hval 3 9 v3 rfl rfl) h3
  obtain ⟨a4, rfl, rfl, rfl, w4⟩ := Go.ChangeMaps.open_string Tryf.underlying9 (hval 4 9 v4 rfl rfl) h4
  clear hA0 hval0
  refine (walk A0 n0 c0 S0 A1 n1 c1 S1 A2 n2 c2 S2 a3 a4 W hA0 hc0 hn0 hz0 hS0 hA1 hc1 hn1 hz1 hS1 hA2 hc2 hn2 hz2 hS2 w3 w4).mono fun e W' ⟨he, hg⟩ => ?_
  subst he
  exact ⟨_, rfl, law_post laid readEach rfl rfl Tryf.underlying4 ⟨rfl, rfl, rfl⟩ hW' hg⟩

theorem stopsAre : Tryf.pinned.checked.prog.stops = ["fmt.Sprintf"] := by kernel_rfl
theorem knobsAre : Tryf.pinned.checked.prog.stopKnobs = [] := by kernel_rfl
theorem quietIs (os : Os) : Stop.quiet Tryf.pinned.checked.prog os := by
  intro k hk
  rw [knobsAre] at hk
  cases hk

/-- The statement. -/
theorem proved : Rows.FnGetPackageLastWriteWinsToldSaid :=
  Claim7.holds_of_told_any 3 Tryf.f3 "fmt.Sprintf" [] [] (true, "e697a8ff9230295d9985c9361c99ef847d6686566a5398fab5c365a0f5a6760b") false false (by kernel_rfl) rfl rfl rfl laid (by kernel_rfl) rfl ⟨rfl, rfl, rfl, rfl, rfl, rfl, rfl⟩ rfl rfl (by kernel_rfl) (by kernel_rfl) Tryf.func3 (by kernel_rfl)
    (of_decide_eq_true (by kernel_rfl)) (by unfold Func.isWrapper; first | (rw [if_pos (by decide +kernel)]; kernel_rfl) | (rw [if_neg (by decide +kernel)]; exact ⟨rfl, rfl⟩)) stopsAre.symm rfl knobsAre.symm (by kernel_rfl)
    (by kernel_rfl) (by kernel_rfl) (by kernel_rfl) (by kernel_rfl) (by kernel_rfl) (by kernel_rfl) (by kernel_rfl) (by kernel_rfl) (by kernel_rfl) rfl (by kernel_rfl) rfl rfl
    rfl rfl
    rfl (by kernel_rfl) (by kernel_rfl) (by kernel_rfl) (by decide) (by kernel_rfl)
    (OpenClaim.moreEntering_of (by kernel_rfl) (by kernel_rfl) (by kernel_rfl) (by kernel_rfl) (by kernel_rfl) (by kernel_rfl) (by kernel_rfl) (by kernel_rfl) (by kernel_rfl) (by kernel_rfl))
    ⟨_, WideRow.started_initial, quietIs _⟩
    (fun os started _ H enc _ => lifted os started H enc)
#print axioms proved
end Go.Proofs.YteabgjicjopjgaaFmt.fnGetPackageLastWriteWins
