/-
  Proved: the law FnLoadersSpec of folder n011_33 returns true for every argument that its parameter types allow, and leaves its arguments as they were; there is no further condition.
-/
import Derived.Test.YtobpghjknciobaeFmtRows
import Derived.Test.YtobpghjknciobaeFmtCards
import Derived.Stop.JoinedTold
import Derived.SevenToldRow
import Derived.Test.YtobpghjknciobaeFmtTie
import Derived.SevenTiedAt
import Derived.Deep.DeepHandedRow
import Derived.Lib.LaidTab
import Derived.Lib.LaidU8
import Derived.PinnedBridge
import Derived.WalkKit
import Derived.ProofKit
import Derived.OpenShut
import Derived.Below
import Derived.Carry
import Derived.ChangeMaps5
import Derived.Handy
import Derived.Lib.Hide
import Derived.WalkSpells
import Derived.OwnWalk
import Derived.Deep.RegionHeld3
import Derived.Deep.CutRange
import Derived.Deep.QuietTactic
import Derived.Deep.RegionLaw
import Derived.Deep.DeepCutAuto
import Derived.PlainAid
import Derived.Test.YtobpghjknciobaeFmtStr
import Derived.Test.YtobpghjknciobaeFmtMem
import Derived.Test.YtobpghjknciobaeFmtMs
import Derived.Test.YtobpghjknciobaeFmtSz
namespace Go.Proofs.YtobpghjknciobaeFmt.fnLoadersSpec
open Go.ChangeShapes Go.WideShapes Go.ChangeAt Go.RowKit Go.Extern.Stop Go.Stop Go.Extern
set_option linter.unusedVariables false

theorem own : ownKnob Tryf.prog.godebug = none := by kernel_rfl
theorem laid : laidOutB Tryf.prog = true := by kernel_rfl
theorem readAll : (Tryf.f3.params.toList.all fun t => Tryf.prog.readableRec t && decide (t < Tryf.prog.types.size)) = true := by kernel_rfl
theorem readEach : ∀ t ∈ Tryf.f3.params.toList, Tryf.prog.readableRec t = true ∧ t < Tryf.prog.types.size := fun t ht => by
  have := List.all_eq_true.1 readAll t ht
  simpa using this
section
variable {H : Type} {enc : TypeId × Value → H} {P : Program}
theorem trodAll_stays (hl : laidOutB P = true) {W W' : World} (hb : Below W.heap.size W W') {sp : Nat → Bool} : ∀ {ts : List TypeId} {vs : List Value} {ds : List (DataW H)} {ps : List MemPlace},
    (∀ t ∈ ts, P.readableRec t = true ∧ t < P.types.size) → DataW.TrodAll enc P W 0 (fun _ => true) true ts vs ds ps → (∀ p ∈ ps, p.block < W.heap.size) → (∀ p ∈ ps, sp p.block = true) → DataW.TrodAll enc P W' 0 sp true ts vs ds ps
  | [], [], [], _, _, h, _, _ => h
  | _ :: _, _ :: _, _ :: _, _, hT, ⟨p, q, h1, h2, e⟩, hlt, hs =>
    ⟨p, q, WideElems.Trod_stays hl (hT _ (List.mem_cons.2 (Or.inl rfl))).1 (hT _ (List.mem_cons.2 (Or.inl rfl))).2 h1 (fun x hx => hb.same (hlt x (by rw [e]; exact List.mem_append_left _ hx))) (fun x hx => hs x (by rw [e]; exact List.mem_append_left _ hx)),
      trodAll_stays hl hb (fun t ht => hT t (List.mem_cons.2 (Or.inr ht))) h2 (fun x hx => hlt x (by rw [e]; exact List.mem_append_right _ hx)) (fun x hx => hs x (by rw [e]; exact List.mem_append_right _ hx)), e⟩

/-- A law's step: the result is true, the arguments are kept, the world has changed in new blocks alone. -/
theorem law_post {f : Func} {s : ChangeSpec} {apart fresh handsOn again : Bool} {W W' : World} {args : Array Value} {ds gs : List (DataW H)} {before : List MemPlace} {tb : TypeId}
    (hl : laidOutB P = true) (hps : ∀ t ∈ f.params.toList, P.readableRec t = true ∧ t < P.types.size) (hv : s.vars = []) (hr : f.resultTypes = #[tb]) (ht : P.underlying tb = some .bool)
    (hs : (s.fn H (ds ++ [])).results = [.lit (.bool true)] ∧ (s.fn H (ds ++ [])).args = ds ∧ (s.fn H (ds ++ [])).vars = [])
    (hW : DataW.Whole enc P f.params.toList s.vars apart W args.toList ds gs before) (hb : Below W.heap.size W W') :
    s.post enc P f apart fresh handsOn again W args (.bool true) W' := by
  have hlt : ∀ p ∈ before, p.block < W.heap.size := fun p hp => hW.lt p hp
  have hold : ∀ p ∈ before, (fun b => decide (b < W.heap.size)) p.block = true := fun p hp => by simpa using hlt p hp
  have hW0 := hW
  obtain ⟨pa, pv, hA, hV, rfl, hz, hn⟩ := hW
  rw [hv] at hV
  obtain ⟨rfl, rfl⟩ := trodVars_none hV
  have hres : ∀ (b : Nat) (sp : Nat → Bool) (hd : Bool), DataW.TrodAll enc P W' b sp hd f.resultTypes.toList ((Value.bool true).resultList f.resultTypes.size) (s.fn H (ds ++ [])).results [] := fun b sp hd => by
    rw [hs.1, hr]; exact trodAll_cons_mk (shut_bool ht _) trodAll_mk0
  have hargs : ∀ sp : Nat → Bool, (∀ p ∈ pa ++ [], sp p.block = true) → DataW.TrodAll enc P W' 0 sp true f.params.toList args.toList (s.fn H (ds ++ [])).args pa := fun sp hsp => by
    rw [hs.2.1]; exact trodAll_stays hl hb hps hA (fun p hp => hlt p (by simpa using hp)) (fun p hp => hsp p (by simpa using hp))
  have hvars : ∀ sp : Nat → Bool, DataW.TrodVars enc P W' sp s.vars (s.fn H (ds ++ [])).vars [] := fun sp => by rw [hv, hs.2.2]; rfl
  refine ⟨ds, [], pa ++ [], [], pa, [], hW0, hres _ _ _, hargs _ hold, hvars _, World.keptBut_mono (fun p hp => ⟨hp, Or.inr (List.mem_append.1 hp)⟩) (hb.frame (· ∈ pa ++ [])), fun _ => ?_⟩
  refine ⟨?_, _, _, ([] ++ pa) ++ [], ⟨[] ++ pa, [], trodAll_append (hargs _ (fun _ _ => rfl)) (hres _ _ _), hvars _, rfl, ?_, ?_⟩, ?_⟩
  · intro j t r h1 h2
    rw [hr] at h1 h2
    match j, h1, h2 with
    | 0, h1, h2 =>
      obtain rfl : tb = t := by simpa using h1
      obtain rfl : Value.bool true = r := by simpa [Value.resultList] using h2
      exact okWide_bool_mk ht _
    | j + 1, h1, _ => simp at h1
  · intro b off hp
    have hp' : MemPlace.cell b off ∈ pa ++ [] := by simpa using hp
    rw [hb.frozen (hlt _ hp')]
    exact hz b off hp'
  · intro ha
    simpa using hn ha
  · intro p hp _
    simpa using hp
end

open Go.PlainAid Mem Sz Ml Mp Mq Mr Ms Go.Maps Go.WideMaps
theorem pos_of {s : ByteArray} (h : s.toList.isEmpty = false) : 0 < s.size := by
  rcases Nat.eq_zero_or_pos s.size with e | e
  · have h2 : s = ⟨#[]⟩ := by
      apply ByteArray.ext
      exact Array.eq_empty_of_size_eq_zero e
    subst h2
    exfalso
    revert h
    rw [ByteArray.toList, ByteArray.toList.loop]; decide
  · exact e
set_option maxRecDepth 10000000 in
set_option maxHeartbeats 40000000 in
theorem walk (F : Go.Stop.Interp) (A0 : Option Addr) (n0 c0 : Nat) (S0 : Nat → ByteArray) (A1 : Option Addr) (n1 c1 : Nat) (Z1 : Nat → Int) (A2 : Option Addr) (n2 c2 : Nat) (S2 : Nat → ByteArray) (w : World) (hF : F.answers w.tape) (hA0 : Mem.Rd w w.heap.size 1 A0 n0 (fun j => .string (S0 j))) (hc0 : c0 ≤ maxLen) (hn0 : n0 ≤ c0) (hz0 : A0 = none → n0 = 0 ∧ c0 = 0) (hS0 : ∀ j, j < n0 → (S0 j).size ≤ maxLen) (hA1 : Mem.Rd w w.heap.size 1 A1 n1 (fun j => .int .u16 (Z1 j))) (hc1 : c1 ≤ maxLen) (hn1 : n1 ≤ c1) (hz1 : A1 = none → n1 = 0 ∧ c1 = 0) (hZ1 : ∀ j, j < n1 → (Lit.int .u16 (Z1 j)).wf = true) (hA2 : Mem.Rd w w.heap.size 1 A2 n2 (fun j => .string (S2 j))) (hc2 : c2 ≤ maxLen) (hn2 : n2 ≤ c2) (hz2 : A2 = none → n2 = 0 ∧ c2 = 0) (hS2 : ∀ j, j < n2 → (S2 j).size ≤ maxLen) :
    Calls Tryf.prog 3 #[.slice A0 n0 c0, .slice A1 n1 c1, .slice A2 n2 c2] w fun e w' => e = .returned (.bool true) ∧ Below w.heap.size w w' := by
  have HF := Lib.hid hF
  have HA0 := Lib.hid hA0
  have HA1 := Lib.hid hA1
  have HA2 := Lib.hid hA2
  have HS0 := Lib.hid hS0
  have HS2 := Lib.hid hS2
  have HZ1 := Lib.hid hZ1
  have hN0 : n0 ≤ maxLen := Nat.le_trans hn0 hc0
  have hN1 : n1 ≤ maxLen := Nat.le_trans hn1 hc1
  have hN2 : n2 ≤ maxLen := Nat.le_trans hn2 hc2
  clear hF hA0 hA1 hA2 hS0 hS2 hZ1 hz0 hz1 hz2
  go_enter Tryf.func3, Tryf.ntmps3
  go_wp2_with fail
  refine (bytes4 A0 n0 c0 S0 A1 n1 c1 A2 n2 c2 S2 _ HA0.out hN0 HS0.out hN1 HA2.out hN2 HS2.out).mono ?_
  rintro e w' ⟨rfl, rfl⟩
  by_cases ht : (n0 + tot S0 n0) + n1 + (n2 + tot S2 n2) ≤ 1048576
  case neg =>
    rw [szOk_no ht]
    go_wp2_with fail
    go_ret
    exact ⟨rfl, Below.refl _ _⟩
  rw [szOk_yes ht]
  have hm0 : n0 ≤ 1048576 := by omega
  have hm1 : n1 ≤ 1048576 := by omega
  have hm2 : n2 ≤ 1048576 := by omega
  have HT0 : Hid (∀ j, j < n0 → (S0 j).size ≤ 1048576) := Lib.hid fun j hj => by have := tot_at S0 hj; omega
  have HT2 : Hid (∀ j, j < n2 → (S2 j).size ≤ 1048576) := Lib.hid fun j hj => by have := tot_at S2 hj; omega
  clear hN0 hN1 hN2 hc0 hc1 hc2 hn0 hn1 hn2 ht HS0 HS2
  go_wp2_with fail
  refine (sum5 A0 n0 c0 S0 _ HA0.out hm0 HT0.out).mono ?_
  rintro e w' ⟨⟨v0, rfl, x0, y0⟩, rfl⟩
  go_wp2_with fail
  refine (sum5 A2 n2 c2 S2 _ HA2.out hm2 HT2.out).mono ?_
  rintro e w' ⟨⟨v2, rfl, x2, y2⟩, rfl⟩
  by_cases g : v0 + v2 + 8 * n1 ≤ 1048576
  case neg =>
    have tg : decide ((1048576 : Int) < (v0 : Int) + (v2 : Int) + 8 * (n1 : Int)) = true := decide_eq_true (by omega)
    go_wp2_with fail
    go_ret
    exact ⟨rfl, Below.refl _ _⟩
  have tg : decide ((1048576 : Int) < (v0 : Int) + (v2 : Int) + 8 * (n1 : Int)) = false := decide_eq_false (by omega)
  have hq0 : n0 ≤ 131072 := by omega
  by_cases hne : n0 = n1
  case neg =>
    have tn : ((n0 : Int) != (n1 : Int)) = true := by simp [bne, beq_eq_false_iff_ne]; omega
    go_wp2_with fail
    go_ret
    exact ⟨rfl, Below.refl _ _⟩
  subst hne
  go_wp2_with fail
  clear tg g x0 y0 x2 y2
  go_loop [7] (fun i => ∃ k : Nat, k ≤ n0 ∧ i = .int .i64 k ∧ Hid (∀ j, j < k → Z1 j ≤ 16)) (fun i => n0 - (intOf i).toNat)
  case atStart => exact ⟨0, by omega, rfl, Lib.hid fun j hj => absurd hj (by omega)⟩
  case round =>
    obtain ⟨k, hk, rfl, HLE⟩ := hrel
    by_cases hlt : k < n0
    · obtain ⟨b, off, rfl, hb, hc⟩ := HA1.out (by omega)
      have hck := hc k (by omega)
      clear hc
      by_cases hz : Z1 k ≤ 16
      · have tz : decide ((16 : Int) < Z1 k) = false := decide_eq_false (by omega)
        go_wp2_with fail
        go_round
        case rel => exact ⟨k + 1, by omega, by go_num, Lib.hid fun j hj => by
          by_cases e : j = k
          · subst e; exact hz
          · exact HLE.out j (by omega)⟩
        case measure => simp [intOf]; omega
      · have tz : decide ((16 : Int) < Z1 k) = true := decide_eq_true (by omega)
        go_wp2_with fail
        go_ret
        exact ⟨rfl, Below.refl _ _⟩
    · obtain rfl : n0 = k := by omega
      clear hlt hk
      have hh := hint27 (n0 : Int)
      go_wp2_with fail
      clear hh
      go_loopw [9] (fun i wr => ∃ (k : Nat) (D : DV), k ≤ n0 ∧ i = .int .i64 k ∧ Hid (Om wr w.heap.size k D) ∧ Hid (InOf D S0 k) ∧ Hid (Below w.heap.size w wr)) (fun i _ => n0 - (intOf i).toNat)
      case atStart => exact ⟨0, _, by omega, rfl, Lib.hid (World.ownsMap_made w Tryf.prog 9 Mvs.RV), Lib.hid (InOf.start S0), Lib.hid (by go_grown)⟩
      case round =>
        obtain ⟨k, D, hk, rfl, HM, HI, HW⟩ := hrel
        obtain ⟨wo, rfl⟩ : ∃ wo : World, wo = wr := ⟨_, rfl⟩
        by_cases hlt : k < n0
        · obtain ⟨b0, o0, rfl, hb0, hc0⟩ := HA0.out (by omega)
          obtain ⟨b1, o1, rfl, hb1, hc1⟩ := HA1.out (by omega)
          have hck0 : wo.cell? ⟨b0, o0 + k, none⟩ = some (.string (S0 k)) := (HW.out.cell (p := ⟨b0, o0 + k, none⟩) hb0).trans (hc0 k (by omega))
          have hck1 : wo.cell? ⟨b1, o1 + k, none⟩ = some (.int .u16 (Z1 k)) := (HW.out.cell (p := ⟨b1, o1 + k, none⟩) hb1).trans (hc1 k (by omega))
          have hwz := HZ1.out k hlt
          obtain ⟨w2, r2, oM, gM⟩ := upd (om_same (w' := wo.drew) HM.out rfl) Tryf.underlying27 (by omega) (S0 k) (Nat.le_trans (HT0.out k hlt) (by decide)) (.int .u16 (Z1 k))
          have hI2 := HI.out.put HM.out.isMap (HT0.out k hlt) (z := Z1 k) (by simp [Lit.wf, show IntKind.u16.min = 0 from rfl] at hwz; omega) (HLE.out k hlt)
          have HI2 := Lib.hid hI2
          have HM2 := Lib.hid oM
          have HW2 := Lib.hid ((show Below w.heap.size w wo.drew from Mem.below_drewN HW.out 1).grown gM HW.out.size (fun x hx => by cases hx; exact Nat.le_refl _))
          have q0 : (0 : Int) ≤ (k : Int) := by omega
          have q1 : (k : Int) < (n0 : Int) := by omega
          clear oM gM hI2 hc0 hc1 hb0 hb1 hwz
          go_upto_region 16 with fail
          go_region
          all_goals
            go_wp2_with fail
            go_roundw
            case rel => exact ⟨k + 1, _, by omega, by go_num, HM2, HI2, HW2⟩
            case measure => simp [intOf]; omega
        · obtain rfl : n0 = k := by omega
          clear hlt hk
          go_wp2_with fail
          refine (zz6n _).mono ?_
          rintro e w2 ⟨r0, rfl, hr0, hO0, hb2⟩
          have HW2 := Lib.hid (HW.out.trans (hb2.mono HW.out.size))
          have HO0 := Lib.hid hO0
          have HM2 := Lib.hid (om_same HM.out (hb2.block _ HM.out.lt))
          have HF2 : Hid (F.answers w2.tape) := Lib.hid (by rw [HW2.out.tape]; exact HF.out)
          clear hO0 hb2 HM HW
          go_wp2_with fail
          refine (zz6 F D _ _ _ HF2.out HM2.out HI.out.good (by omega)).mono ?_
          rintro e w3 ⟨r1, E, m, rfl, hr1, hO1, hFin, hb3⟩
          have HW3 := Lib.hid (HW2.out.trans (hb3.mono HW2.out.size))
          have HO03 := Lib.hid (om_same HO0.out (hb3.block _ HO0.out.lt))
          have HM3 := Lib.hid (om_same HM2.out (hb3.block _ HM2.out.lt))
          have HO1 := Lib.hid hO1
          have HFin := Lib.hid hFin
          clear hO1 hb3 hFin HM2 HW2 HO0 HF2 HF
          have hh := hint32 (n0 : Int)
          go_wp2_with fail
          clear hh
          generalize hW4 : w3.alloc (.map #[] 0) = w4
          have oS : Om w4 w3.heap.size 0 (.map []) := by rw [← hW4]; exact World.ownsMap_made w3 Tryf.prog 9 Mvs.RV
          have b4 : Below w3.heap.size w3 w4 := by rw [← hW4]; exact (Below.refl _ _).alloc (Nat.le_refl _) _
          obtain ⟨rs, hrs⟩ : ∃ rs, w3.heap.size = rs := ⟨_, rfl⟩
          have l0 := HO03.out.lt
          have l1 := HO1.out.lt
          have l2 := HM3.out.lt
          rw [hrs] at oS b4 l0 l1 l2 ⊢
          have HS4 := Lib.hid oS
          have HW4 := Lib.hid b4
          clear oS b4 hW4
          go_loopw [15, 16, 17] (fun a g i wr => ∃ (k : Nat) (X G Ds : DV), k ≤ n0 ∧ i = .int .i64 k ∧ a = .int .i64 (size X : Nat) ∧ g = .int .i64 (size G : Nat) ∧ size X ≤ k ∧ size G ≤ k ∧ Hid (Seek X G S0 k) ∧ Hid (Seen Ds (Ks S0 k)) ∧ Hid (Om wr rs k Ds) ∧ Hid (Below rs w3 wr)) (fun _ _ i _ => n0 - (intOf i).toNat)
          case atStart => exact ⟨0, .map [], .map [], _, by omega, rfl, rfl, rfl, Nat.le_refl 0, Nat.le_refl 0, Lib.hid (Seek.start S0), Lib.hid Seen.start, HS4, HW4⟩
          case round =>
            clear HS4 HW4
            have hsr : w.heap.size ≤ rs := by have := HW3.out.size; omega
            obtain ⟨k, X, G, Ds, hk, rfl, rfl, rfl, hX, hG, HSK, HSN, HOS, HW4⟩ := hrel
            obtain ⟨wo, rfl⟩ : ∃ wo : World, wo = wr := ⟨_, rfl⟩
            by_cases hlt : k < n0
            · obtain ⟨b0, o0, rfl, hb0, hc0⟩ := HA0.out (by omega)
              have hck : wo.cell? ⟨b0, o0 + k, none⟩ = some (.string (S0 k)) := (HW4.out.cell (p := ⟨b0, o0 + k, none⟩) (Nat.lt_of_lt_of_le hb0 hsr)).trans ((HW3.out.cell (p := ⟨b0, o0 + k, none⟩) hb0).trans (hc0 k (by omega)))
              have hs1 := HT0.out k hlt
              have hsz : (S0 k).size ≤ maxLen := Nat.le_trans hs1 (by decide)
              have hD : Maps.has D (.string (S0 k).data.toList) = true := (HI.out.has _).trans (ks_at S0 hlt)
              obtain ⟨_, z, z0, z1, hz⟩ := HI.out.good _ hD
              have hEh : Maps.has E (.string (S0 k).data.toList) = true := by rw [HFin.out.hE, hD, Bool.or_true]
              have p1 := look29 (om_same HO1.out (HW4.out.block _ l1)) hsz (HFin.out.aN _ hD z hz (.held (.int .u8 0)))
              rw [hEh] at p1
              have p2 := look27 (om_same HM3.out (HW4.out.block _ l2)) hsz hz
              have p3 := look32 HOS.out hsz HSN.out
              clear hEh hD hz hc0 hb0
              go_wp2_with fail
              refine (mod7 z z0 z1 _).mono ?_
              rintro e w' ⟨rfl, rfl⟩
              clear p1 p2
              cases hks : Ks S0 k (S0 k).data.toList
              · rw [hks] at p3
                obtain ⟨w5, p4, oM, gM⟩ := upd HOS.out Tryf.underlying32 (by omega) (S0 k) hsz (.bool true)
                have hW5 : Below rs w3 w5 := HW4.out.grown gM (by rw [← hrs]; exact HW4.out.size) (fun x hx => by cases hx; exact Nat.le_refl _)
                obtain ⟨zb, hzb⟩ := base_at (S0 k).data.toList
                have p5 := look29 (om_same HO03.out (hW5.block _ l0)) hsz hzb
                obtain ⟨X', G', hSK, hX', hG'⟩ := HSK.out.more hks
                rw [badL_eq] at hG'
                have HSK5 := Lib.hid hSK
                have HSN5 := Lib.hid (HSN.out.put HOS.out.isMap)
                have HOS5 := Lib.hid oM
                have HW5 := Lib.hid hW5
                have HX := Lib.hid hX'
                have HG := Lib.hid hG'
                clear hSK oM hW5 hX' hG' gM hzb HSK HSN HOS HW4
                cases hbb : Maps.has base (.string (S0 k).data.toList)
                · rw [hbb] at p5
                  have hx : size X' = size X + 1 := by rw [HX.out, hbb]; rfl
                  cases hem : (S0 k).toList.isEmpty
                  · have hpos : 0 < (S0 k).size := pos_of hem
                    go_wp2_with fail
                    refine (ext8 (S0 k) _ hs1 hpos).mono ?_
                    rintro e w' ⟨rfl, rfl⟩
                    cases hok : okx (S0 k)
                    · have hg : size G' = size G + 1 := by rw [HG.out, badB, hem, hok]; rfl
                      go_wp2_with fail
                      go_roundw
                      case rel => exact ⟨k + 1, X', G', _, by omega, by go_num, vi (by omega), vi (by omega), by omega, by omega, HSK5, HSN5, HOS5, HW5⟩
                      case measure => simp [intOf]; omega
                    · have hg : size G' = size G := by rw [HG.out, badB, hem, hok]; rfl
                      go_wp2_with fail
                      go_roundw
                      case rel => exact ⟨k + 1, X', G', _, by omega, by go_num, vi (by omega), vi (by omega), by omega, by omega, HSK5, HSN5, HOS5, HW5⟩
                      case measure => simp [intOf]; omega
                  · have hg : size G' = size G := by rw [HG.out, badB, hem]; rfl
                    go_wp2_with fail
                    go_roundw
                    case rel => exact ⟨k + 1, X', G', _, by omega, by go_num, vi (by omega), vi (by omega), by omega, by omega, HSK5, HSN5, HOS5, HW5⟩
                    case measure => simp [intOf]; omega
                · rw [hbb] at p5
                  have hx : size X' = size X := by rw [HX.out, hbb]; rfl
                  cases hem : (S0 k).toList.isEmpty
                  · have hpos : 0 < (S0 k).size := pos_of hem
                    go_wp2_with fail
                    refine (ext8 (S0 k) _ hs1 hpos).mono ?_
                    rintro e w' ⟨rfl, rfl⟩
                    cases hok : okx (S0 k)
                    · have hg : size G' = size G + 1 := by rw [HG.out, badB, hem, hok]; rfl
                      go_wp2_with fail
                      go_roundw
                      case rel => exact ⟨k + 1, X', G', _, by omega, by go_num, vi (by omega), vi (by omega), by omega, by omega, HSK5, HSN5, HOS5, HW5⟩
                      case measure => simp [intOf]; omega
                    · have hg : size G' = size G := by rw [HG.out, badB, hem, hok]; rfl
                      go_wp2_with fail
                      go_roundw
                      case rel => exact ⟨k + 1, X', G', _, by omega, by go_num, vi (by omega), vi (by omega), by omega, by omega, HSK5, HSN5, HOS5, HW5⟩
                      case measure => simp [intOf]; omega
                  · have hg : size G' = size G := by rw [HG.out, badB, hem]; rfl
                    go_wp2_with fail
                    go_roundw
                    case rel => exact ⟨k + 1, X', G', _, by omega, by go_num, vi (by omega), vi (by omega), by omega, by omega, HSK5, HSN5, HOS5, HW5⟩
                    case measure => simp [intOf]; omega
              · rw [hks] at p3
                have HSK5 := Lib.hid (HSK.out.same hks)
                have HSN5 : Hid (Seen Ds (Ks S0 (k + 1))) := Lib.hid fun s => by rw [ks_same hks]; exact HSN.out s
                have HOS5 := Lib.hid (HOS.out.mono (n' := k + 1) (by omega))
                go_wp2_with fail
                go_roundw
                case rel => exact ⟨k + 1, X, G, _, by omega, by go_num, rfl, rfl, by omega, by omega, HSK5, HSN5, HOS5, HW4⟩
                case measure => simp [intOf]; omega
            · obtain rfl : n0 = k := by omega
              clear hlt hk
              obtain ⟨hE, hM⟩ := HSK.out.fin HI.out HFin.out
              subst hM
              have hl1 : ∀ ty, ((Builtin.len_ #[29] ty #[.map (some r1)]).run Tryf.prog wo) = .ok (.int .i64 (13 + (size X : Int))) wo := fun ty => by
                rw [(om_same HO1.out (HW4.out.block _ l1)).len Tryf.underlying29 ty, hE]
                rfl
              have hl0 : ∀ ty, ((Builtin.len_ #[29] ty #[.map (some r0)]).run Tryf.prog wo) = .ok (.int .i64 13) wo := fun ty => (om_same HO03.out (HW4.out.block _ l0)).len Tryf.underlying29 ty
              go_wp2_with fail
              clear hl0 hl1
              go_loop [23] (fun i => ∃ k : Nat, k ≤ n2 ∧ i = .int .i64 k) (fun i => n2 - (intOf i).toNat)
              case atStart => exact ⟨0, by omega, rfl⟩
              case round =>
                obtain ⟨k, hk, rfl⟩ := hrel
                by_cases hlt : k < n2
                · obtain ⟨b2, o2, rfl, hb2, hc2⟩ := HA2.out (by omega)
                  have hck : wo.cell? ⟨b2, o2 + k, none⟩ = some (.string (S2 k)) := (HW4.out.cell (p := ⟨b2, o2 + k, none⟩) (Nat.lt_of_lt_of_le hb2 hsr)).trans ((HW3.out.cell (p := ⟨b2, o2 + k, none⟩) hb2).trans (hc2 k (by omega)))
                  have hsz : (S2 k).size ≤ maxLen := Nat.le_trans (HT2.out k hlt) (by decide)
                  have p3 := look32 HOS.out hsz HSN.out
                  clear hb2 hc2
                  cases hks : Ks S0 n0 (S2 k).data.toList
                  · rw [hks] at p3
                    obtain ⟨zb, hzb⟩ := base_at (S2 k).data.toList
                    have hD : Maps.has D (.string (S2 k).data.toList) = false := (HI.out.has _).trans hks
                    have p0 := look29 (om_same HO03.out (HW4.out.block _ l0)) hsz hzb
                    have p1 := look29 (om_same HO1.out (HW4.out.block _ l1)) hsz ((HFin.out.aO _ hD _).trans hzb)
                    rw [show Maps.has E (.string (S2 k).data.toList) = Maps.has base (.string (S2 k).data.toList) by rw [HFin.out.hE, hD, Bool.or_false]] at p1
                    clear hzb hD
                    cases hbb : Maps.has base (.string (S2 k).data.toList)
                    · rw [hbb] at p0 p1
                      go_wp2_with fail
                      go_round
                      case rel => exact ⟨k + 1, by omega, by go_num⟩
                      case measure => simp [intOf]; omega
                    · rw [hbb] at p0 p1
                      go_wp2_with fail
                      go_round
                      case rel => exact ⟨k + 1, by omega, by go_num⟩
                      case measure => simp [intOf]; omega
                  · rw [hks] at p3
                    go_wp2_with fail
                    go_round
                    case rel => exact ⟨k + 1, by omega, by go_num⟩
                    case measure => simp [intOf]; omega
                · obtain rfl : n2 = k := by omega
                  clear hlt hk
                  go_wp2_with fail
                  go_ret
                  exact ⟨rfl, HW3.out.trans (HW4.out.mono hsr)⟩

def firstBlock : Obj → Obj
  | .cells _ t frozen => .cells (Pinned.utf8FirstZ.map fun (z : Nat) => Value.int .u8 z).toArray t frozen
  | o => o
def acceptBlock : Obj → Obj
  | .cells _ t frozen => .cells ((List.range 16).flatMap fun i => [Value.int .u8 (Lib.accLo i : Nat), Value.int .u8 (Lib.accHi i : Nat)]).toArray t frozen
  | o => o
/-- A world for the witness: the settled one, the two tables holding what their initialisers lay. -/
noncomputable def laidWorld (os : Os) : World :=
  { World.holding Tryf.prog os ⟨#[], #[], []⟩ with heap := ((World.holding Tryf.prog os ⟨#[], #[], []⟩).heap.modify 0 firstBlock).modify 1 acceptBlock }
theorem laid_met (os : Os) : laidMet Tryf.prog Rows.fnLoadersSpecRow.laid ((laidWorld os).forCall (fun _ _ => 0) ⟨#[], #[.slice none 0 0, .slice none 0 0, .slice none 0 0], []⟩).memory :=
  laidMet_of_run' 8 (by kernel_rfl) (by kernel_rfl)
theorem reads (os : Os) {H : Type} (enc : TypeId × Value → H) : ∃ places, DataW.whole enc Tryf.prog ((laidWorld os).forCall (fun _ _ => 0) ⟨#[], #[.slice none 0 0, .slice none 0 0, .slice none 0 0], []⟩).memory Tryf.f3.params.toList Rows.fnLoadersSpecSpec.vars false (#[.slice none 0 0, .slice none 0 0, .slice none 0 0] : Array Value).toList 8 = some ([.nil, .nil, .nil], [], places) :=
  ⟨[], by kernel_rfl⟩

set_option maxRecDepth 10000000 in
theorem lifted (os : Os) (started : os.Started) (H : Type) (enc : TypeId × Value → H) :
    ReturnsInTold none {} Tryf.checked os 3 .any Input.okWide ((OpenSpec.ofChange Rows.fnLoadersSpecSpec).preRow enc Tryf.prog Tryf.f3 Rows.fnLoadersSpecRow.domain false Rows.fnLoadersSpecRow.laid) (fun F => ((OpenSpec.ofChange Rows.fnLoadersSpecSpec).at F).post enc Tryf.prog Tryf.f3 false true false false) (aloneAtReturn Tryf.prog) nothingAlways := by
  obtain ⟨places, hx⟩ := reads os enc
  refine returnsInTold_of_row (C := Tryf.checked) (s := OpenSpec.ofChange Rows.fnLoadersSpecSpec) (by kernel_rfl) own started (by kernel_rfl) Tryf.func3
    (OpenSpec.witness_stopped_at (enc := enc) (C := Tryf.checked) false (laidWorld os) #[.slice none 0 0, .slice none 0 0, .slice none 0 0] rfl (by kernel_rfl) (by kernel_rfl) (by kernel_rfl)
      (OpenSpec.preRow_of_cond 8 hx (by kernel_rfl) (fun k hk => by cases hk) (by kernel_rfl) (laid_met os))) ?_
  intro F W base args ds gs before _ hF hval0 hW hcnd _ _ _ _
  have hval : ∀ (j : Nat) t v, Tryf.f3.params[j]? = some t → args[j]? = some v → Value.okWide Tryf.prog W .any base t v := hval0
  have hW' := hW
  obtain ⟨p, q, hA0, hV, rfl, hfz, hnd⟩ := hW
  have hA : DataW.TrodAll enc Tryf.prog W 0 (fun _ => true) true Tryf.f3.params.toList args.toList ds p := hA0
  rw [Tryf.params3] at hA hval
  obtain ⟨v0, vs0, d0, ds0, p0, q0, hargs0, rfl, rfl, h0, r0⟩ := trodAll_cons hA
  obtain ⟨v1, vs1, d1, ds1, p1, q1, hargs1, rfl, rfl, h1, r1⟩ := trodAll_cons r0
  obtain ⟨v2, vs2, d2, ds2, p2, q2, hargs2, rfl, rfl, h2, r2⟩ := trodAll_cons r1
  obtain ⟨rfl, rfl, rfl⟩ := trodAll_nil r2
  obtain rfl : args = #[v0, v1, v2] := by cases args; simp_all
  obtain ⟨A0, n0, c0, S0, rfl, hn0, hc0, hz0, hA0, hS0⟩ := Mem.open_strings Tryf.underlying22 Tryf.underlying9 (by kernel_rfl) (hval 0 22 v0 rfl rfl) h0
  obtain ⟨A1, n1, c1, Z1, rfl, hn1, hc1, hz1, hA1, hZ1⟩ := Mem.open_ints' Tryf.underlying23 Tryf.underlying26 (by kernel_rfl) (hval 1 23 v1 rfl rfl) h1
  obtain ⟨A2, n2, c2, S2, rfl, hn2, hc2, hz2, hA2, hS2⟩ := Mem.open_strings Tryf.underlying22 Tryf.underlying9 (by kernel_rfl) (hval 2 22 v2 rfl rfl) h2
  clear hA0 hval0
  refine (walk _ A0 n0 c0 S0 A1 n1 c1 Z1 A2 n2 c2 S2 W hF hA0 hc0 hn0 hz0 hS0 hA1 hc1 hn1 hz1 hZ1 hA2 hc2 hn2 hz2 hS2).mono fun e W' ⟨he, hg⟩ => ?_
  subst he
  exact ⟨_, rfl, law_post laid readEach rfl rfl Tryf.underlying4 ⟨rfl, rfl, rfl⟩ hW' hg⟩

theorem stopsAre : Tryf.pinned.checked.prog.stops = ["fmt.Sprintf"] := by kernel_rfl
theorem knobsAre : Tryf.pinned.checked.prog.stopKnobs = [] := by kernel_rfl
theorem quietIs (os : Os) : Stop.quiet Tryf.pinned.checked.prog os := by
  intro k hk
  rw [knobsAre] at hk
  cases hk

/-- The statement. -/
theorem proved : Rows.FnLoadersSpecToldSaid :=
  Claim7.holds_of_told_tied_any_at .later 3 Tryf.f3 "fmt.Sprintf" [] [] (true, "382089b325327c7d1b271d478e668b8ffc4087c821b1a71570917ad0a7e86512") false false [.data, .pinned] true (by kernel_rfl) rfl rfl rfl laid (by kernel_rfl) rfl ⟨rfl, rfl, rfl, rfl, rfl, rfl, rfl⟩ rfl rfl (by kernel_rfl) (by kernel_rfl) Tryf.func3 (by kernel_rfl)
    (of_decide_eq_true (by kernel_rfl)) (by unfold Func.isWrapper; first | (rw [if_pos (by decide +kernel)]; kernel_rfl) | (rw [if_neg (by decide +kernel)]; exact ⟨rfl, rfl⟩)) stopsAre.symm rfl knobsAre.symm (by kernel_rfl)
    (by kernel_rfl) (by kernel_rfl) (by kernel_rfl) (by kernel_rfl) (by kernel_rfl) (by kernel_rfl) (by kernel_rfl) (by kernel_rfl) (by kernel_rfl) rfl (by kernel_rfl) rfl rfl
    rfl rfl
    rfl (by kernel_rfl) (by kernel_rfl) (by kernel_rfl) (by decide) (by kernel_rfl) fnLoadersSpec_row_tie
    (OpenClaim.moreEntering_of (by kernel_rfl) (by kernel_rfl) (by kernel_rfl) (by kernel_rfl) (by kernel_rfl) (by kernel_rfl) (by kernel_rfl) (by kernel_rfl) (by kernel_rfl) (by kernel_rfl))
    ⟨_, WideRow.started_initial, quietIs _⟩
    (fun os started _ H enc _ => lifted os started H enc)
#print axioms proved
end Go.Proofs.YtobpghjknciobaeFmt.fnLoadersSpec
