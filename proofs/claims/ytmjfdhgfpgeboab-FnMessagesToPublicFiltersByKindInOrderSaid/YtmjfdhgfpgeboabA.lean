/-
  Proved: the law FnMessagesToPublicFiltersByKindInOrder of folder n011_221 returns true for every argument that its parameter types allow, and leaves its arguments as they were; there is no further condition.
-/
import Derived.Test.YtmjfdhgfpgeboabRows
import Derived.WalkKit
import Derived.ProofKit
import Derived.OpenShut
import Derived.Below
import Derived.Carry
import Derived.ChangeMaps5
import Derived.Handy
import Derived.Lib.Hide
import Derived.WalkSpells
import Derived.OwnWalk
import Derived.Deep.RegionHeld3
import Derived.Deep.CutRange
import Derived.Deep.QuietTactic
import Derived.Test.YtmjfdhgfpgeboabStr
import Derived.Test.YtmjfdhgfpgeboabMem
import Derived.Test.YtmjfdhgfpgeboabHo
import Derived.Test.YtmjfdhgfpgeboabSz
import Derived.Test.YtmjfdhgfpgeboabHa
import Derived.Test.YtmjfdhgfpgeboabHb1
import Derived.Test.YtmjfdhgfpgeboabHb
import Derived.Test.YtmjfdhgfpgeboabHc
import Derived.Test.YtmjfdhgfpgeboabHe
import Derived.Test.YtmjfdhgfpgeboabHf
namespace Go.Proofs.Ytmjfdhgfpgeboab.fnMessagesToPublicFiltersByKindInOrder
open Go.ChangeShapes Go.WideShapes Go.ChangeAt Go.RowKit
set_option linter.unusedVariables false

theorem own : ownKnob Try.prog.godebug = none := by kernel_rfl
theorem laid : laidOutB Try.prog = true := by kernel_rfl
theorem readAll : (Try.f3.params.toList.all fun t => Try.prog.readableRec t && decide (t < Try.prog.types.size)) = true := by kernel_rfl
theorem readEach : ∀ t ∈ Try.f3.params.toList, Try.prog.readableRec t = true ∧ t < Try.prog.types.size := fun t ht => by
  have := List.all_eq_true.1 readAll t ht
  simpa using this
section
variable {H : Type} {enc : TypeId × Value → H} {P : Program}
theorem trodAll_stays (hl : laidOutB P = true) {W W' : World} (hb : Below W.heap.size W W') {sp : Nat → Bool} : ∀ {ts : List TypeId} {vs : List Value} {ds : List (DataW H)} {ps : List MemPlace},
    (∀ t ∈ ts, P.readableRec t = true ∧ t < P.types.size) → DataW.TrodAll enc P W 0 (fun _ => true) true ts vs ds ps → (∀ p ∈ ps, p.block < W.heap.size) → (∀ p ∈ ps, sp p.block = true) → DataW.TrodAll enc P W' 0 sp true ts vs ds ps
  | [], [], [], _, _, h, _, _ => h
  | _ :: _, _ :: _, _ :: _, _, hT, ⟨p, q, h1, h2, e⟩, hlt, hs =>
    ⟨p, q, WideElems.Trod_stays hl (hT _ (List.mem_cons.2 (Or.inl rfl))).1 (hT _ (List.mem_cons.2 (Or.inl rfl))).2 h1 (fun x hx => hb.same (hlt x (by rw [e]; exact List.mem_append_left _ hx))) (fun x hx => hs x (by rw [e]; exact List.mem_append_left _ hx)),
      trodAll_stays hl hb (fun t ht => hT t (List.mem_cons.2 (Or.inr ht))) h2 (fun x hx => hlt x (by rw [e]; exact List.mem_append_right _ hx)) (fun x hx => hs x (by rw [e]; exact List.mem_append_right _ hx)), e⟩

/-- A law's step: the result is true, the arguments are kept, the world has changed in new blocks alone. -/
theorem law_post {f : Func} {s : ChangeSpec} {apart fresh handsOn again : Bool} {W W' : World} {args : Array Value} {ds gs : List (DataW H)} {before : List MemPlace} {tb : TypeId}
    (hl : laidOutB P = true) (hps : ∀ t ∈ f.params.toList, P.readableRec t = true ∧ t < P.types.size) (hv : s.vars = []) (hr : f.resultTypes = #[tb]) (ht : P.underlying tb = some .bool)
    (hs : (s.fn H (ds ++ [])).results = [.lit (.bool true)] ∧ (s.fn H (ds ++ [])).args = ds ∧ (s.fn H (ds ++ [])).vars = [])
    (hW : DataW.Whole enc P f.params.toList s.vars apart W args.toList ds gs before) (hb : Below W.heap.size W W') :
    s.post enc P f apart fresh handsOn again W args (.bool true) W' := by
  have hlt : ∀ p ∈ before, p.block < W.heap.size := fun p hp => hW.lt p hp
  have hold : ∀ p ∈ before, (fun b => decide (b < W.heap.size)) p.block = true := fun p hp => by simpa using hlt p hp
  have hW0 := hW
  obtain ⟨pa, pv, hA, hV, rfl, hz, hn⟩ := hW
  rw [hv] at hV
  obtain ⟨rfl, rfl⟩ := trodVars_none hV
  have hres : ∀ (b : Nat) (sp : Nat → Bool) (hd : Bool), DataW.TrodAll enc P W' b sp hd f.resultTypes.toList ((Value.bool true).resultList f.resultTypes.size) (s.fn H (ds ++ [])).results [] := fun b sp hd => by
    rw [hs.1, hr]; exact trodAll_cons_mk (shut_bool ht _) trodAll_mk0
  have hargs : ∀ sp : Nat → Bool, (∀ p ∈ pa ++ [], sp p.block = true) → DataW.TrodAll enc P W' 0 sp true f.params.toList args.toList (s.fn H (ds ++ [])).args pa := fun sp hsp => by
    rw [hs.2.1]; exact trodAll_stays hl hb hps hA (fun p hp => hlt p (by simpa using hp)) (fun p hp => hsp p (by simpa using hp))
  have hvars : ∀ sp : Nat → Bool, DataW.TrodVars enc P W' sp s.vars (s.fn H (ds ++ [])).vars [] := fun sp => by rw [hv, hs.2.2]; rfl
  refine ⟨ds, [], pa ++ [], [], pa, [], hW0, hres _ _ _, hargs _ hold, hvars _, World.keptBut_mono (fun p hp => ⟨hp, Or.inr (List.mem_append.1 hp)⟩) (hb.frame (· ∈ pa ++ [])), fun _ => ?_⟩
  refine ⟨?_, _, _, ([] ++ pa) ++ [], ⟨[] ++ pa, [], trodAll_append (hargs _ (fun _ _ => rfl)) (hres _ _ _), hvars _, rfl, ?_, ?_⟩, ?_⟩
  · intro j t r h1 h2
    rw [hr] at h1 h2
    match j, h1, h2 with
    | 0, h1, h2 =>
      obtain rfl : tb = t := by simpa using h1
      obtain rfl : Value.bool true = r := by simpa [Value.resultList] using h2
      exact okWide_bool_mk ht _
    | j + 1, h1, _ => simp at h1
  · intro b off hp
    have hp' : MemPlace.cell b off ∈ pa ++ [] := by simpa using hp
    rw [hb.frozen (hlt _ hp')]
    exact hz b off hp'
  · intro ha
    simpa using hn ha
  · intro p hp _
    simpa using hp
end

open Go.PlainAid Mem Ha Ho Hb Hb1 Hc He Hf Sz
set_option linter.unusedSimpArgs false

theorem sel_pre (K : Nat → Int) (want : Int) {k n : Nat} (h : k ≤ n) : ∃ r, sel K want n = sel K want k ++ r := by
  induction n with
  | zero => obtain rfl : k = 0 := by omega
            exact ⟨[], by simp⟩
  | succ n ih =>
    by_cases e : k = n + 1
    · subst e; exact ⟨[], by simp⟩
    · obtain ⟨r, hr⟩ := ih (by omega)
      cases hK : K n == want
      · exact ⟨r, by rw [sel_no hK, hr]⟩
      · exact ⟨r ++ [n], by rw [sel_yes hK, hr, List.append_assoc]⟩
theorem sel_get {K : Nat → Int} {want : Int} {k n : Nat} (h : k < n) (hk : (K k == want) = true) : (sel K want n)[(sel K want k).length]? = some k := by
  obtain ⟨r, hr⟩ := sel_pre K want (show k + 1 ≤ n from h)
  rw [hr, sel_yes hk, List.append_assoc, List.getElem?_append_right (Nat.le_refl _), Nat.sub_self]
  rfl
theorem sel_mono (K : Nat → Int) (want : Int) {k n : Nat} (h : k ≤ n) : (sel K want k).length ≤ (sel K want n).length := by
  obtain ⟨r, hr⟩ := sel_pre K want h
  rw [hr, List.length_append]; omega
theorem u8_in {v : Int} (h : (Lit.int .u8 v).wf = true) : 0 ≤ v ∧ v ≤ 255 := by
  simp [Lit.wf, IntKind.min, IntKind.max, IntKind.signed, IntKind.bits] at h
  omega
theorem thru {w W W1 : World} (h : Below w.heap.size w W) (k : Below W.heap.size W W1) : Below w.heap.size w W1 := h.trans (k.mono h.size)
theorem thru' {B : Nat} {w W W1 : World} (h : Below B w W) (k : Below W.heap.size W W1) (hs : B ≤ w.heap.size := by first | exact Nat.le_refl _ | omega) : Below B w W1 := h.trans (k.mono (Nat.le_trans hs h.size))
set_option maxRecDepth 10000000 in
set_option maxHeartbeats 40000000 in
theorem walk (a0 : Int) (A1 : Option Addr) (n1 c1 : Nat) (Z1 : Nat → Int) (A2 : Option Addr) (n2 c2 : Nat) (Z2 : Nat → Int) (A3 : Option Addr) (n3 c3 : Nat) (S3 : Nat → ByteArray) (A4 : Option Addr) (n4 c4 : Nat) (S4 : Nat → ByteArray) (A5 : Option Addr) (n5 c5 : Nat) (Z5 : Nat → Int) (a6 : Int) (a7 : Int) (w : World) (w0 : (Lit.int .u8 a0).wf = true) (hA1 : Mem.Rd w w.heap.size 1 A1 n1 (fun j => .int .u8 (Z1 j))) (hc1 : c1 ≤ maxLen) (hn1 : n1 ≤ c1) (hz1 : A1 = none → n1 = 0 ∧ c1 = 0) (hZ1 : ∀ j, j < n1 → (Lit.int .u8 (Z1 j)).wf = true) (hA2 : Mem.Rd w w.heap.size 1 A2 n2 (fun j => .int .u8 (Z2 j))) (hc2 : c2 ≤ maxLen) (hn2 : n2 ≤ c2) (hz2 : A2 = none → n2 = 0 ∧ c2 = 0) (hZ2 : ∀ j, j < n2 → (Lit.int .u8 (Z2 j)).wf = true) (hA3 : Mem.Rd w w.heap.size 1 A3 n3 (fun j => .string (S3 j))) (hc3 : c3 ≤ maxLen) (hn3 : n3 ≤ c3) (hz3 : A3 = none → n3 = 0 ∧ c3 = 0) (hS3 : ∀ j, j < n3 → (S3 j).size ≤ maxLen) (hA4 : Mem.Rd w w.heap.size 1 A4 n4 (fun j => .string (S4 j))) (hc4 : c4 ≤ maxLen) (hn4 : n4 ≤ c4) (hz4 : A4 = none → n4 = 0 ∧ c4 = 0) (hS4 : ∀ j, j < n4 → (S4 j).size ≤ maxLen) (hA5 : Mem.Rd w w.heap.size 1 A5 n5 (fun j => .int .u8 (Z5 j))) (hc5 : c5 ≤ maxLen) (hn5 : n5 ≤ c5) (hz5 : A5 = none → n5 = 0 ∧ c5 = 0) (hZ5 : ∀ j, j < n5 → (Lit.int .u8 (Z5 j)).wf = true) (w6 : (Lit.int .u8 a6).wf = true) (w7 : (Lit.int .u8 a7).wf = true) :
    Calls Try.prog 3 #[.int .u8 a0, .slice A1 n1 c1, .slice A2 n2 c2, .slice A3 n3 c3, .slice A4 n4 c4, .slice A5 n5 c5, .int .u8 a6, .int .u8 a7] w fun e w' => e = .returned (.bool true) ∧ Below w.heap.size w w' := by
  have HA1 := Lib.hid hA1
  have HA2 := Lib.hid hA2
  have HA3 := Lib.hid hA3
  have HA4 := Lib.hid hA4
  have HA5 := Lib.hid hA5
  have HS3 := Lib.hid hS3
  have HS4 := Lib.hid hS4
  have HU5 : Hid (∀ j, j < n5 → 0 ≤ Z5 j ∧ Z5 j ≤ 255) := Lib.hid fun j hj => u8_in (hZ5 j hj)
  have HU2 : Hid (∀ i, 0 ≤ pickB Z2 n2 i) := Lib.hid fun i => by
    unfold pickB
    by_cases h : i < n2
    · rw [if_pos h]; exact (u8_in (hZ2 i h)).1
    · rw [if_neg h]; exact Int.le_refl _
  have hN1 : n1 ≤ maxLen := Nat.le_trans hn1 hc1
  have hN2 : n2 ≤ maxLen := Nat.le_trans hn2 hc2
  have hN3 : n3 ≤ maxLen := Nat.le_trans hn3 hc3
  have hN4 : n4 ≤ maxLen := Nat.le_trans hn4 hc4
  have hN5 : n5 ≤ maxLen := Nat.le_trans hn5 hc5
  clear hA1 hA2 hA3 hA4 hA5 hz1 hz2 hz3 hz4 hz5 hZ1 hZ2 hZ5 hS3 hS4 w0 w6 w7
  go_enter Try.func3, Try.ntmps3
  go_wp2_with fail
  refine (bytes4 a0 A1 n1 c1 A2 n2 c2 A3 n3 c3 S3 A4 n4 c4 S4 A5 n5 c5 a6 a7 _ hN1 hN2 HA3.out hN3 HS3.out HA4.out hN4 HS4.out hN5).mono ?_
  rintro e w' ⟨rfl, rfl⟩
  by_cases ht : n1 + n2 + (n3 + tot S3 n3) + (n4 + tot S4 n4) + n5 ≤ 1048576
  · rw [szOk_yes ht]
    have HT3 : Hid (∀ j, j < n3 → (S3 j).size ≤ 1048576) := Lib.hid fun j hj => by have := tot_at S3 hj; omega
    have HT4 : Hid (∀ j, j < n4 → (S4 j).size ≤ 1048576) := Lib.hid fun j hj => by have := tot_at S4 hj; omega
    clear ht hN1 hN2 hN3 hN4 hN5 hc1 hc2 hc3 hc4 hc5 hn1 hn2 hn3 hn4 hn5 HS3 HS4
    go_wp2_with fail
    refine (lens5 A1 n1 c1 A2 n2 c2 A3 n3 c3 A4 n4 c4 A5 n5 c5 _).mono ?_
    rintro e w' ⟨b, rfl, hb, rfl⟩
    cases b
    · go_wp2_with fail
      go_ret
      exact ⟨rfl, Below.refl _ _⟩
    obtain ⟨g1, g2, g3, g4, g5⟩ := hb rfl
    clear hb
    go_wp2_with fail
    refine (bytes6 A1 n1 c1 A2 n2 c2 A3 n3 c3 A4 n4 c4 A5 n5 c5 S3 S4 _ HA3.out HA4.out g1 g2 g3 g4 g5 HT3.out HT4.out).mono ?_
    rintro e w' ⟨z, rfl, rfl⟩
    cases hz : decide (1048576 < z)
    · go_wp2_with fail
      refine (build7 A1 n1 c1 A2 n2 c2 A3 n3 c3 A4 n4 c4 A5 n5 c5 Z1 Z2 Z5 S3 S4 _ HA1.out HA2.out HA3.out HA4.out HA5.out g1 g2 g3 g4 g5 HU5.out HT3.out).mono ?_
      rintro e wb ⟨v, ms, rfl, hm, hwb⟩
      obtain ⟨mA, mC, rfl⟩ := row_form hm.1
      obtain ⟨ab, hab⟩ : ∃ ab, (bits .and .u8 a6 a7 != 0) = ab := ⟨_, rfl⟩
      have HMs := Lib.hid hm
      clear hm
      go_wp2_with fail
      refine (conv8 a0 a6 a7 mA n1 mC (pickS S3 n3) (pickS S4 n4) (fun i => (pickB Z5 n5 i).toNat) Z1 (pickB Z2 n2) ab ms wb hab HMs.out g1 HU2.out).mono ?_
      rintro e wq ⟨v, xs, rfl, hu, hwq⟩
      obtain ⟨oA, oC, rfl⟩ := row_form hu.1
      have HU := Lib.hid hu
      have HB := Lib.hid (hwb.trans (hwq.mono hwb.size))
      obtain ⟨m, hm⟩ : ∃ m, (sel Z1 a0 n1).length = m := ⟨_, rfl⟩
      have HMM := Lib.hid hm
      have hm4 : m ≤ 4096 := by have := sel_le Z1 a0 n1; omega
      rw [hm]
      clear hu hwb hwq HMs hz hm
      go_wp2_with fail
      clear hab
      go_loopw [20, 21] (fun x i W => ∃ k : Nat, k ≤ n1 ∧ i = .int .i64 k ∧ x = .int .i64 ((sel Z1 a0 k).length : Int) ∧ Hid (Below wq.heap.size wq W)) (fun _ i _ => n1 - (intOf i).toNat)
      case atStart => exact ⟨0, by omega, rfl, rfl, Lib.hid (Below.refl _ _)⟩
      case round =>
        obtain ⟨k, hk, rfl, rfl, HW⟩ := hrel
        obtain ⟨wo, rfl⟩ : ∃ wo : World, wo = wr := ⟨_, rfl⟩
        by_cases hlt : k < n1
        · have hBw : Below w.heap.size w wo := HB.out.trans (HW.out.mono HB.out.size)
          have HBw := Lib.hid hBw
          obtain ⟨b, off, rfl, _, hc⟩ := (HA1.out.below hBw).of (by omega)
          have hck := hc k (by omega)
          clear hc hBw
          cases hkd : (Z1 k == a0)
          · have hkd' : (Z1 k != a0) = true := by simp [bne, hkd]
            go_wp2_with fail
            go_roundw
            case rel => exact ⟨k + 1, by omega, by go_num, by rw [sel_no hkd], HW⟩
            case measure => simp [intOf]; omega
          · have hkd' : (Z1 k != a0) = false := by simp [bne, hkd]
            have hge := sel_get hlt hkd
            obtain ⟨q, hq⟩ : ∃ q, (sel Z1 a0 k).length = q := ⟨_, rfl⟩
            have hqm : q < m := by rw [← HMM.out, ← hq]; exact (List.getElem?_eq_some_iff.1 hge).1
            rw [hq] at hge ⊢
            obtain ⟨nb, hnb, hnb1⟩ : ∃ nb : Nat, pickB Z5 n5 k = (nb : Int) ∧ nb ≤ 255 := by
              unfold pickB
              by_cases h : k < n5
              · have := HU5.out k h
                rw [if_pos h]
                exact ⟨(Z5 k).toNat, by omega, by omega⟩
              · rw [if_neg h]
                exact ⟨0, rfl, by omega⟩
            have hnbt : (pickB Z5 n5 k).toNat = nb := by omega
            obtain ⟨nv, ns, aO, m0, m1, m2, m3, m4, m5, m6, m7⟩ := (HU.out.below HW.out).2.2 q k hge
            obtain ⟨vA, vC, rfl⟩ := row_form m6.1
            obtain ⟨og, rfl⟩ := row_some HU.out.1 (by rw [HMM.out]; omega)
            have hrow := (HU.out.below HW.out).1
            obtain ⟨nc, hncN⟩ : ∃ nc, nb % 4 = nc := ⟨_, rfl⟩
            have hnc3 : nc ≤ 3 := by omega
            obtain ⟨b8, hb8⟩ : ∃ b, bit nb 8 = b := ⟨_, rfl⟩
            obtain ⟨b4, hb4⟩ : ∃ b, bit nb 4 = b := ⟨_, rfl⟩
            have r0 : wo.cell? ⟨og, q * 6, none⟩ = some (.string (idT (pickB Z2 n2 k))) := row_cell hrow m0
            have r1 : wo.cell? ⟨og, q * 6 + 1, none⟩ = some (.string (pickS S4 n4 k)) := row_cell hrow m1
            have r2 : wo.cell? ⟨og, q * 6 + 2, none⟩ = some (.string (pickS S3 n3 k)) := row_cell hrow m2
            have r3 : wo.cell? ⟨og, q * 6 + 3, none⟩ = some (.pointer aO) := row_cell hrow m3
            have r4 : wo.cell? ⟨og, q * 6 + 4, none⟩ = some (.slice vA nc vC) := by
              have h : wo.cell? ⟨og, q * 6 + 4, none⟩ = some (.slice vA ((pickB Z5 n5 k).toNat % 4) vC) := row_cell hrow m4
              rw [hnbt, hncN] at h
              exact h
            have r5 : wo.cell? ⟨og, q * 6 + 5, none⟩ = some .nilIface := row_cell hrow m5
            have HN0 : Hid (Nq wo (.slice vA nc vC) nc ab b8 ns) := Lib.hid (by
              have h : Nq wo (.slice vA ((pickB Z5 n5 k).toNat % 4) vC) ((pickB Z5 n5 k).toNat % 4) ab (bit (pickB Z5 n5 k).toNat 8) ns := m6
              rw [hnbt, hncN, hb8] at h
              exact h)
            have HL0 : Hid (Lc wo 40 aO ((mloc b4 (pickS S3 n3 k) k).map (LD.c40 ab))) := Lib.hid (by
              have h : Lc wo 40 aO ((mloc (bit (pickB Z5 n5 k).toNat 4) (pickS S3 n3 k) k).map (LD.c40 ab)) := m7
              rw [hnbt, hb4] at h
              exact h)
            have bz : ∃ z, ((nc : Int) == 0) = z ∧ vA.isNone = z := by
              by_cases h : nc = 0
              · have := HN0.out.2.1 h
                injection this with h1
                subst h1
                exact ⟨true, by rw [beq_iff_eq]; omega, rfl⟩
              · obtain ⟨g, h1⟩ := row_some HN0.out.1 (by omega)
                subst h1
                exact ⟨false, by rw [beq_eq_false_iff_ne]; omega, rfl⟩
            obtain ⟨vz, hnz, hvz⟩ := bz
            have hnc : (nb : Int) % 4 = (nc : Int) := by omega
            have HNC := Lib.hid hnc
            have HNZ := Lib.hid hnz
            have HVZ := Lib.hid hvz
            have HB8 : Hid ((bits .and .u8 (nb : Int) 8 != 0) = b8) := Lib.hid hb8
            have HB4 : Hid ((bits .and .u8 (nb : Int) 4 != 0) = b4) := Lib.hid hb4
            have HKD := Lib.hid hkd
            have HNB := Lib.hid hnb
            clear hrow m0 m1 m2 m3 m4 m5 m6 m7 hge hnbt hncN hb8 hb4 hnc hnz hvz hnb hkd
            have q0 : (0 : Int) ≤ (q : Int) := by omega
            have q1 : (q : Int) < (m : Int) := by omega
            have z1 : decide ((m : Int) ≤ (q : Int)) = false := decide_eq_false (by omega)
            have hn3' : n3 ≤ 1048576 := by omega
            have hn4' : n4 ≤ 1048576 := by omega
            have hn2' : n2 ≤ 1048576 := by omega
            have hk' : k ≤ 1048576 := by omega
            go_upto_region 18 with fail
            generalize hWm : wo.alloc _ = Wm
            have hbm : Below wo.heap.size wo Wm := by rw [← hWm]; exact (Below.refl _ _).alloc (Nat.le_refl _) _
            have hOm : Own Wm wo.heap.size 35 #[.string (idT (pickB Z2 n2 k)), .string (pickS S4 n4 k), .string (pickS S3 n3 k), .pointer aO, .slice vA nc vC, .nilIface] := by rw [← hWm]; exact Own.new _ _ _
            have HOm := Lib.hid hOm
            have HBm := Lib.hid (HBw.out.trans (hbm.mono HBw.out.size))
            have HWm := Lib.hid (HW.out.trans (hbm.mono HW.out.size))
            have HNm := Lib.hid (HN0.out.below hbm)
            have HLm := Lib.hid (HL0.out.below hbm)
            clear hbm hOm hWm r0 r1 r2 r3 r4 r5 HN0 HL0 hck hkd' z1
            go_wp2_with fail
            refine (pickS9 A3 n3 c3 k S3 Wm (HA3.out.below HBm.out) hn3' hk').mono ?_
            rintro e w' ⟨rfl, rfl⟩
            have hS : ∀ W, Below Wm.heap.size Wm W → (Below Wm.heap.size Wm W ∧ W.cell? ⟨wo.heap.size, 0, none⟩ = some (.string (idT (pickB Z2 n2 k))) ∧ W.cell? ⟨wo.heap.size, 1, none⟩ = some (.string (pickS S4 n4 k)) ∧ W.cell? ⟨wo.heap.size, 2, none⟩ = some (.string (pickS S3 n3 k))) :=
              fun W h => ⟨h, ((HOm.out.below h HOm.out.lt).cell 0).trans rfl, ((HOm.out.below h HOm.out.lt).cell 1).trans rfl, ((HOm.out.below h HOm.out.lt).cell 2).trans rfl⟩
            go_upto_region 19 with fail
            go_region_held3 (fun W => Below Wm.heap.size Wm W ∧ W.cell? ⟨wo.heap.size, 0, none⟩ = some (.string (idT (pickB Z2 n2 k))) ∧ W.cell? ⟨wo.heap.size, 1, none⟩ = some (.string (pickS S4 n4 k)) ∧ W.cell? ⟨wo.heap.size, 2, none⟩ = some (.string (pickS S3 n3 k)))
              (first | assumption | exact hS _ (below_drewN (Below.refl _ _) 1) | exact hS _ (thru (And.left (by assumption)) hb3))
              (first
                | (go_at_call 9; refine (pickS9 A4 n4 c4 k S4 _ (HA4.out.below (thru' HBm.out (And.left (by assumption)))) hn4' hk').mono ?_; rintro e w1 ⟨rfl, rfl⟩)
                | (go_at_call 11; refine (pickB11 A2 n2 c2 k Z2 _ (HA2.out.below (thru' HBm.out (And.left (by assumption)))) hn2' hk').mono ?_; rintro e w1 ⟨rfl, rfl⟩)
                | (go_at_call 10; refine (id10 (pickB Z2 n2 k) (HU2.out k) _).mono ?_; rintro e w3 ⟨rfl, hb3⟩))
            have hu3 : Below Wm.heap.size Wm w3 := undrew hb3
            have HO3 := Lib.hid (HOm.out.below hu3 HOm.out.lt)
            have HB3 := Lib.hid (thru' HBm.out hu3)
            have HW3 := Lib.hid (thru' HWm.out hu3)
            have HN3 := Lib.hid (HNm.out.below hu3)
            have HL3 := Lib.hid (HLm.out.below hu3)
            have u3 : w3.cell? ⟨wo.heap.size, 3, none⟩ = some (.pointer aO) := (HO3.out.cell 3).trans rfl
            have u4 : w3.cell? ⟨wo.heap.size, 4, none⟩ = some (.slice vA nc vC) := (HO3.out.cell 4).trans rfl
            have u5 : w3.cell? ⟨wo.heap.size, 5, none⟩ = some .nilIface := (HO3.out.cell 5).trans rfl
            clear hb3 hu3 HOm HBm HWm HNm HLm hS
            go_wp2_with fail
            refine (pickB11 A5 n5 c5 k Z5 w3 (HA5.out.below HB3.out) (by omega) hk').mono ?_
            rintro e w' ⟨rfl, rfl⟩
            rw [HNB.out]
            have hS3 : (pickS S3 n3 k).size ≤ 1048576 := (by
              unfold pickS
              by_cases h : k < n3
              · rw [if_pos h]; exact HT3.out k h
              · rw [if_neg h]; exact Nat.zero_le _)
            have hb8 := HB8.out
            have hb4 := HB4.out
            cases ab
            · cases b4
              · as_aux_lemma =>
                  obtain rfl : aO = none := by
                    rcases HL3.out with ⟨_, h2⟩ | ⟨p, cs, h1, h2, h3⟩
                    · exact h2
                    · cases h1
                  clear HL3
                  go_upto_region 36 with fail
                  clear u3 u5
                  have hnc := HNC.out
                  rw [hnc]
                  clear hnc
                  have hnz := HNZ.out
                  have hvz := HVZ.out
                  have hnilv := fun W => Lib.run_eql_slice_nil (P := Try.prog) W 33 42 vA nc vC 0 0 Try.underlying33
                  simp only [hvz] at hnilv
                  go_wp2_with fail
                  clear hnilv hvz hnz u4
                  go_loopw [28] (fun i W => ∃ j : Nat, j ≤ nc ∧ i = .int .i64 j ∧ Hid (Below w3.heap.size w3 W)) (fun i _ => nc - (intOf i).toNat)
                  case atStart => exact ⟨0, by omega, rfl, Lib.hid (Below.refl _ _)⟩
                  case round =>
                    obtain ⟨j, hj, rfl, HWj⟩ := hrel
                    obtain ⟨W, rfl⟩ : ∃ W : World, W = wr := ⟨_, rfl⟩
                    by_cases hjl : j < nc
                    · obtain ⟨aL, s0, s1, s2⟩ := (HN3.out.below HWj.out).2.2 j hjl
                      obtain ⟨ng, rfl⟩ := row_some HN3.out.1 (by omega)
                      have HNj := Lib.hid (HN3.out.below HWj.out)
                      have HOj := Lib.hid (HO3.out.below HWj.out HO3.out.lt)
                      have hS : ∀ W1, Below W.heap.size W W1 → (Below W.heap.size W W1 ∧ W1.cell? ⟨wo.heap.size, 4, none⟩ = some (.slice (some ⟨ng, 0, none⟩) nc vC) ∧ W1.cell? ⟨ng, j * 2, none⟩ = some (.string (noteT j)) ∧ W1.cell? ⟨ng, j * 2 + 1, none⟩ = some (.pointer aL)) :=
                        fun W1 h => ⟨h, ((HOj.out.below h HOj.out.lt).cell 4).trans rfl, row_cell (row_below (B := 0) HNj.out.1 h) s0, row_cell (row_below (B := 0) HNj.out.1 h) s1⟩
                      have q2 : (0 : Int) ≤ (j : Int) := by omega
                      have q3 : (j : Int) < (nc : Int) := by omega
                      have HLj := Lib.hid s2
                      clear s2
                      go_upto_region 41 with fail
                      go_region_held3 (fun W1 => Below W.heap.size W W1 ∧ W1.cell? ⟨wo.heap.size, 4, none⟩ = some (.slice (some ⟨ng, 0, none⟩) nc vC) ∧ W1.cell? ⟨ng, j * 2, none⟩ = some (.string (noteT j)) ∧ W1.cell? ⟨ng, j * 2 + 1, none⟩ = some (.pointer aL))
                        (first | assumption | exact hS _ (below_drewN (Below.refl _ _) 1))
                        ((go_at_call 12; refine (noteT12 j _).mono ?_; rintro e w1 ⟨rfl, rfl⟩))
                      have hbd : Below W.heap.size W W.drew := below_drewN (Below.refl _ _) 1
                      obtain ⟨hd0, v4, v5, v6⟩ := hS _ hbd
                      generalize hWd : W.drew = Wd at *
                      have HLd := Lib.hid (HLj.out.below hbd)
                      have HWd := Lib.hid (thru' HWj.out hbd)
                      clear hbd hS hd0
                      cases b8
                      · obtain rfl : aL = none := by
                          rcases HLd.out with ⟨_, h2⟩ | ⟨p, cs, h1, h2, h3⟩
                          · exact h2
                          · cases h1
                        go_wp2_with fail
                        go_roundw
                        case rel => exact ⟨j + 1, by omega, by go_num, HWd⟩
                        case measure => simp [intOf]; omega
                      · obtain ⟨p', rfl, HP'⟩ : ∃ p, aL = some ⟨p, 0, none⟩ ∧ Hid (Own Wd p 40 (LD.c40 false (locN j))) := by
                          rcases HLd.out with ⟨h1, _⟩ | ⟨p, cs, h1, h2, h3⟩
                          · cases h1
                          · injection h1 with h1
                            subst h1
                            exact ⟨p, h2, Lib.hid h3⟩
                        have y0 : Wd.cell? ⟨p', 0, none⟩ = some (.string ⟨#[114]⟩) := (HP'.out.cell 0).trans rfl
                        have y2 : Wd.cell? ⟨p', 2, none⟩ = some (.int .i64 ((j : Int) + 1)) := (HP'.out.cell 2).trans rfl
                        go_wp2_with fail
                        go_roundw
                        case rel => exact ⟨j + 1, by omega, by go_num, HWd⟩
                        case measure => simp [intOf]; omega
                    · have z2 : decide (j < nc) = false := decide_eq_false hjl
                      obtain rfl : nc = j := by omega
                      go_wp2_with fail
                      go_roundw
                      case rel => exact ⟨k + 1, by omega, by go_num, by rw [sel_yes HKD.out, List.length_append, hq]; rfl, Lib.hid (thru' HW3.out HWj.out)⟩
                      case measure => simp [intOf]; omega
              · as_aux_lemma =>
                  obtain ⟨p, rfl, HP⟩ : ∃ p, aO = some ⟨p, 0, none⟩ ∧ Hid (Own w3 p 40 (LD.c40 false (locM (pickS S3 n3 k) k))) := by
                    rcases HL3.out with ⟨h1, _⟩ | ⟨p, cs, h1, h2, h3⟩
                    · cases h1
                    · injection h1 with h1
                      subst h1
                      exact ⟨p, h2, Lib.hid h3⟩
                  have p0 : w3.cell? ⟨p, 0, none⟩ = some (.string (⟨#[82]⟩ ++ pickS S3 n3 k)) := (HP.out.cell 0).trans rfl
                  have p1 : w3.cell? ⟨p, 1, none⟩ = some (.string ⟨#[110, 115]⟩) := (HP.out.cell 1).trans rfl
                  have p2 : w3.cell? ⟨p, 2, none⟩ = some (.int .i64 ((k : Int) + 1)) := (HP.out.cell 2).trans rfl
                  have p3 : w3.cell? ⟨p, 3, none⟩ = some (.int .i64 (k : Int)) := (HP.out.cell 3).trans rfl
                  have p4 : w3.cell? ⟨p, 4, none⟩ = some (.int .i64 1) := (HP.out.cell 4).trans rfl
                  have p5 : w3.cell? ⟨p, 5, none⟩ = some (.string (pickS S3 n3 k)) := (HP.out.cell 5).trans rfl
                  have p6 : w3.cell? ⟨p, 6, none⟩ = some (.string ⟨#[]⟩) := (HP.out.cell 6).trans rfl
                  clear HL3
                  go_upto_region 36 with fail
                  clear p0 p1 p2 p3 p4 p5 p6
                  clear u3 u5
                  have hnc := HNC.out
                  rw [hnc]
                  clear hnc
                  have hnz := HNZ.out
                  have hvz := HVZ.out
                  have hnilv := fun W => Lib.run_eql_slice_nil (P := Try.prog) W 33 42 vA nc vC 0 0 Try.underlying33
                  simp only [hvz] at hnilv
                  go_wp2_with fail
                  clear hnilv hvz hnz u4
                  go_loopw [28] (fun i W => ∃ j : Nat, j ≤ nc ∧ i = .int .i64 j ∧ Hid (Below w3.heap.size w3 W)) (fun i _ => nc - (intOf i).toNat)
                  case atStart => exact ⟨0, by omega, rfl, Lib.hid (Below.refl _ _)⟩
                  case round =>
                    obtain ⟨j, hj, rfl, HWj⟩ := hrel
                    obtain ⟨W, rfl⟩ : ∃ W : World, W = wr := ⟨_, rfl⟩
                    by_cases hjl : j < nc
                    · obtain ⟨aL, s0, s1, s2⟩ := (HN3.out.below HWj.out).2.2 j hjl
                      obtain ⟨ng, rfl⟩ := row_some HN3.out.1 (by omega)
                      have HNj := Lib.hid (HN3.out.below HWj.out)
                      have HOj := Lib.hid (HO3.out.below HWj.out HO3.out.lt)
                      have hS : ∀ W1, Below W.heap.size W W1 → (Below W.heap.size W W1 ∧ W1.cell? ⟨wo.heap.size, 4, none⟩ = some (.slice (some ⟨ng, 0, none⟩) nc vC) ∧ W1.cell? ⟨ng, j * 2, none⟩ = some (.string (noteT j)) ∧ W1.cell? ⟨ng, j * 2 + 1, none⟩ = some (.pointer aL)) :=
                        fun W1 h => ⟨h, ((HOj.out.below h HOj.out.lt).cell 4).trans rfl, row_cell (row_below (B := 0) HNj.out.1 h) s0, row_cell (row_below (B := 0) HNj.out.1 h) s1⟩
                      have q2 : (0 : Int) ≤ (j : Int) := by omega
                      have q3 : (j : Int) < (nc : Int) := by omega
                      have HLj := Lib.hid s2
                      clear s2
                      go_upto_region 41 with fail
                      go_region_held3 (fun W1 => Below W.heap.size W W1 ∧ W1.cell? ⟨wo.heap.size, 4, none⟩ = some (.slice (some ⟨ng, 0, none⟩) nc vC) ∧ W1.cell? ⟨ng, j * 2, none⟩ = some (.string (noteT j)) ∧ W1.cell? ⟨ng, j * 2 + 1, none⟩ = some (.pointer aL))
                        (first | assumption | exact hS _ (below_drewN (Below.refl _ _) 1))
                        ((go_at_call 12; refine (noteT12 j _).mono ?_; rintro e w1 ⟨rfl, rfl⟩))
                      have hbd : Below W.heap.size W W.drew := below_drewN (Below.refl _ _) 1
                      obtain ⟨hd0, v4, v5, v6⟩ := hS _ hbd
                      generalize hWd : W.drew = Wd at *
                      have HLd := Lib.hid (HLj.out.below hbd)
                      have HWd := Lib.hid (thru' HWj.out hbd)
                      clear hbd hS hd0
                      cases b8
                      · obtain rfl : aL = none := by
                          rcases HLd.out with ⟨_, h2⟩ | ⟨p, cs, h1, h2, h3⟩
                          · exact h2
                          · cases h1
                        go_wp2_with fail
                        go_roundw
                        case rel => exact ⟨j + 1, by omega, by go_num, HWd⟩
                        case measure => simp [intOf]; omega
                      · obtain ⟨p', rfl, HP'⟩ : ∃ p, aL = some ⟨p, 0, none⟩ ∧ Hid (Own Wd p 40 (LD.c40 false (locN j))) := by
                          rcases HLd.out with ⟨h1, _⟩ | ⟨p, cs, h1, h2, h3⟩
                          · cases h1
                          · injection h1 with h1
                            subst h1
                            exact ⟨p, h2, Lib.hid h3⟩
                        have y0 : Wd.cell? ⟨p', 0, none⟩ = some (.string ⟨#[114]⟩) := (HP'.out.cell 0).trans rfl
                        have y2 : Wd.cell? ⟨p', 2, none⟩ = some (.int .i64 ((j : Int) + 1)) := (HP'.out.cell 2).trans rfl
                        go_wp2_with fail
                        go_roundw
                        case rel => exact ⟨j + 1, by omega, by go_num, HWd⟩
                        case measure => simp [intOf]; omega
                    · have z2 : decide (j < nc) = false := decide_eq_false hjl
                      obtain rfl : nc = j := by omega
                      go_wp2_with fail
                      go_roundw
                      case rel => exact ⟨k + 1, by omega, by go_num, by rw [sel_yes HKD.out, List.length_append, hq]; rfl, Lib.hid (thru' HW3.out HWj.out)⟩
                      case measure => simp [intOf]; omega
            · cases b4
              · as_aux_lemma =>
                  obtain rfl : aO = none := by
                    rcases HL3.out with ⟨_, h2⟩ | ⟨p, cs, h1, h2, h3⟩
                    · exact h2
                    · cases h1
                  clear HL3
                  go_upto_region 36 with fail
                  clear u3 u5
                  have hnc := HNC.out
                  rw [hnc]
                  clear hnc
                  have hnz := HNZ.out
                  have hvz := HVZ.out
                  have hnilv := fun W => Lib.run_eql_slice_nil (P := Try.prog) W 33 42 vA nc vC 0 0 Try.underlying33
                  simp only [hvz] at hnilv
                  go_wp2_with fail
                  clear hnilv hvz hnz u4
                  go_loopw [28] (fun i W => ∃ j : Nat, j ≤ nc ∧ i = .int .i64 j ∧ Hid (Below w3.heap.size w3 W)) (fun i _ => nc - (intOf i).toNat)
                  case atStart => exact ⟨0, by omega, rfl, Lib.hid (Below.refl _ _)⟩
                  case round =>
                    obtain ⟨j, hj, rfl, HWj⟩ := hrel
                    obtain ⟨W, rfl⟩ : ∃ W : World, W = wr := ⟨_, rfl⟩
                    by_cases hjl : j < nc
                    · obtain ⟨aL, s0, s1, s2⟩ := (HN3.out.below HWj.out).2.2 j hjl
                      obtain ⟨ng, rfl⟩ := row_some HN3.out.1 (by omega)
                      have HNj := Lib.hid (HN3.out.below HWj.out)
                      have HOj := Lib.hid (HO3.out.below HWj.out HO3.out.lt)
                      have hS : ∀ W1, Below W.heap.size W W1 → (Below W.heap.size W W1 ∧ W1.cell? ⟨wo.heap.size, 4, none⟩ = some (.slice (some ⟨ng, 0, none⟩) nc vC) ∧ W1.cell? ⟨ng, j * 2, none⟩ = some (.string (noteT j)) ∧ W1.cell? ⟨ng, j * 2 + 1, none⟩ = some (.pointer aL)) :=
                        fun W1 h => ⟨h, ((HOj.out.below h HOj.out.lt).cell 4).trans rfl, row_cell (row_below (B := 0) HNj.out.1 h) s0, row_cell (row_below (B := 0) HNj.out.1 h) s1⟩
                      have q2 : (0 : Int) ≤ (j : Int) := by omega
                      have q3 : (j : Int) < (nc : Int) := by omega
                      have HLj := Lib.hid s2
                      clear s2
                      go_upto_region 41 with fail
                      go_region_held3 (fun W1 => Below W.heap.size W W1 ∧ W1.cell? ⟨wo.heap.size, 4, none⟩ = some (.slice (some ⟨ng, 0, none⟩) nc vC) ∧ W1.cell? ⟨ng, j * 2, none⟩ = some (.string (noteT j)) ∧ W1.cell? ⟨ng, j * 2 + 1, none⟩ = some (.pointer aL))
                        (first | assumption | exact hS _ (below_drewN (Below.refl _ _) 1))
                        ((go_at_call 12; refine (noteT12 j _).mono ?_; rintro e w1 ⟨rfl, rfl⟩))
                      have hbd : Below W.heap.size W W.drew := below_drewN (Below.refl _ _) 1
                      obtain ⟨hd0, v4, v5, v6⟩ := hS _ hbd
                      generalize hWd : W.drew = Wd at *
                      have HLd := Lib.hid (HLj.out.below hbd)
                      have HWd := Lib.hid (thru' HWj.out hbd)
                      clear hbd hS hd0
                      cases b8
                      · obtain rfl : aL = none := by
                          rcases HLd.out with ⟨_, h2⟩ | ⟨p, cs, h1, h2, h3⟩
                          · exact h2
                          · cases h1
                        go_wp2_with fail
                        go_roundw
                        case rel => exact ⟨j + 1, by omega, by go_num, HWd⟩
                        case measure => simp [intOf]; omega
                      · obtain ⟨p', rfl, HP'⟩ : ∃ p, aL = some ⟨p, 0, none⟩ ∧ Hid (Own Wd p 40 (LD.c40 true (locN j))) := by
                          rcases HLd.out with ⟨h1, _⟩ | ⟨p, cs, h1, h2, h3⟩
                          · cases h1
                          · injection h1 with h1
                            subst h1
                            exact ⟨p, h2, Lib.hid h3⟩
                        have y0 : Wd.cell? ⟨p', 0, none⟩ = some (.string ⟨#[97]⟩) := (HP'.out.cell 0).trans rfl
                        have y2 : Wd.cell? ⟨p', 2, none⟩ = some (.int .i64 ((j : Int) + 1)) := (HP'.out.cell 2).trans rfl
                        go_wp2_with fail
                        go_roundw
                        case rel => exact ⟨j + 1, by omega, by go_num, HWd⟩
                        case measure => simp [intOf]; omega
                    · have z2 : decide (j < nc) = false := decide_eq_false hjl
                      obtain rfl : nc = j := by omega
                      go_wp2_with fail
                      go_roundw
                      case rel => exact ⟨k + 1, by omega, by go_num, by rw [sel_yes HKD.out, List.length_append, hq]; rfl, Lib.hid (thru' HW3.out HWj.out)⟩
                      case measure => simp [intOf]; omega
              · as_aux_lemma =>
                  obtain ⟨p, rfl, HP⟩ : ∃ p, aO = some ⟨p, 0, none⟩ ∧ Hid (Own w3 p 40 (LD.c40 true (locM (pickS S3 n3 k) k))) := by
                    rcases HL3.out with ⟨h1, _⟩ | ⟨p, cs, h1, h2, h3⟩
                    · cases h1
                    · injection h1 with h1
                      subst h1
                      exact ⟨p, h2, Lib.hid h3⟩
                  have p0 : w3.cell? ⟨p, 0, none⟩ = some (.string (⟨#[65]⟩ ++ pickS S3 n3 k)) := (HP.out.cell 0).trans rfl
                  have p1 : w3.cell? ⟨p, 1, none⟩ = some (.string ⟨#[110, 115]⟩) := (HP.out.cell 1).trans rfl
                  have p2 : w3.cell? ⟨p, 2, none⟩ = some (.int .i64 ((k : Int) + 1)) := (HP.out.cell 2).trans rfl
                  have p3 : w3.cell? ⟨p, 3, none⟩ = some (.int .i64 (k : Int)) := (HP.out.cell 3).trans rfl
                  have p4 : w3.cell? ⟨p, 4, none⟩ = some (.int .i64 1) := (HP.out.cell 4).trans rfl
                  have p5 : w3.cell? ⟨p, 5, none⟩ = some (.string (pickS S3 n3 k)) := (HP.out.cell 5).trans rfl
                  have p6 : w3.cell? ⟨p, 6, none⟩ = some (.string ⟨#[]⟩) := (HP.out.cell 6).trans rfl
                  clear HL3
                  go_upto_region 36 with fail
                  clear p0 p1 p2 p3 p4 p5 p6
                  clear u3 u5
                  have hnc := HNC.out
                  rw [hnc]
                  clear hnc
                  have hnz := HNZ.out
                  have hvz := HVZ.out
                  have hnilv := fun W => Lib.run_eql_slice_nil (P := Try.prog) W 33 42 vA nc vC 0 0 Try.underlying33
                  simp only [hvz] at hnilv
                  go_wp2_with fail
                  clear hnilv hvz hnz u4
                  go_loopw [28] (fun i W => ∃ j : Nat, j ≤ nc ∧ i = .int .i64 j ∧ Hid (Below w3.heap.size w3 W)) (fun i _ => nc - (intOf i).toNat)
                  case atStart => exact ⟨0, by omega, rfl, Lib.hid (Below.refl _ _)⟩
                  case round =>
                    obtain ⟨j, hj, rfl, HWj⟩ := hrel
                    obtain ⟨W, rfl⟩ : ∃ W : World, W = wr := ⟨_, rfl⟩
                    by_cases hjl : j < nc
                    · obtain ⟨aL, s0, s1, s2⟩ := (HN3.out.below HWj.out).2.2 j hjl
                      obtain ⟨ng, rfl⟩ := row_some HN3.out.1 (by omega)
                      have HNj := Lib.hid (HN3.out.below HWj.out)
                      have HOj := Lib.hid (HO3.out.below HWj.out HO3.out.lt)
                      have hS : ∀ W1, Below W.heap.size W W1 → (Below W.heap.size W W1 ∧ W1.cell? ⟨wo.heap.size, 4, none⟩ = some (.slice (some ⟨ng, 0, none⟩) nc vC) ∧ W1.cell? ⟨ng, j * 2, none⟩ = some (.string (noteT j)) ∧ W1.cell? ⟨ng, j * 2 + 1, none⟩ = some (.pointer aL)) :=
                        fun W1 h => ⟨h, ((HOj.out.below h HOj.out.lt).cell 4).trans rfl, row_cell (row_below (B := 0) HNj.out.1 h) s0, row_cell (row_below (B := 0) HNj.out.1 h) s1⟩
                      have q2 : (0 : Int) ≤ (j : Int) := by omega
                      have q3 : (j : Int) < (nc : Int) := by omega
                      have HLj := Lib.hid s2
                      clear s2
                      go_upto_region 41 with fail
                      go_region_held3 (fun W1 => Below W.heap.size W W1 ∧ W1.cell? ⟨wo.heap.size, 4, none⟩ = some (.slice (some ⟨ng, 0, none⟩) nc vC) ∧ W1.cell? ⟨ng, j * 2, none⟩ = some (.string (noteT j)) ∧ W1.cell? ⟨ng, j * 2 + 1, none⟩ = some (.pointer aL))
                        (first | assumption | exact hS _ (below_drewN (Below.refl _ _) 1))
                        ((go_at_call 12; refine (noteT12 j _).mono ?_; rintro e w1 ⟨rfl, rfl⟩))
                      have hbd : Below W.heap.size W W.drew := below_drewN (Below.refl _ _) 1
                      obtain ⟨hd0, v4, v5, v6⟩ := hS _ hbd
                      generalize hWd : W.drew = Wd at *
                      have HLd := Lib.hid (HLj.out.below hbd)
                      have HWd := Lib.hid (thru' HWj.out hbd)
                      clear hbd hS hd0
                      cases b8
                      · obtain rfl : aL = none := by
                          rcases HLd.out with ⟨_, h2⟩ | ⟨p, cs, h1, h2, h3⟩
                          · exact h2
                          · cases h1
                        go_wp2_with fail
                        go_roundw
                        case rel => exact ⟨j + 1, by omega, by go_num, HWd⟩
                        case measure => simp [intOf]; omega
                      · obtain ⟨p', rfl, HP'⟩ : ∃ p, aL = some ⟨p, 0, none⟩ ∧ Hid (Own Wd p 40 (LD.c40 true (locN j))) := by
                          rcases HLd.out with ⟨h1, _⟩ | ⟨p, cs, h1, h2, h3⟩
                          · cases h1
                          · injection h1 with h1
                            subst h1
                            exact ⟨p, h2, Lib.hid h3⟩
                        have y0 : Wd.cell? ⟨p', 0, none⟩ = some (.string ⟨#[97]⟩) := (HP'.out.cell 0).trans rfl
                        have y2 : Wd.cell? ⟨p', 2, none⟩ = some (.int .i64 ((j : Int) + 1)) := (HP'.out.cell 2).trans rfl
                        go_wp2_with fail
                        go_roundw
                        case rel => exact ⟨j + 1, by omega, by go_num, HWd⟩
                        case measure => simp [intOf]; omega
                    · have z2 : decide (j < nc) = false := decide_eq_false hjl
                      obtain rfl : nc = j := by omega
                      go_wp2_with fail
                      go_roundw
                      case rel => exact ⟨k + 1, by omega, by go_num, by rw [sel_yes HKD.out, List.length_append, hq]; rfl, Lib.hid (thru' HW3.out HWj.out)⟩
                      case measure => simp [intOf]; omega
        · have z0 : decide (k < n1) = false := decide_eq_false hlt
          obtain rfl : n1 = k := by omega
          have hmm := HMM.out
          rw [hmm]
          cases m with
          | zero =>
            obtain ⟨rfl, rfl⟩ : oA = none ∧ oC = 0 := by
              have := HU.out.2.1 (List.eq_nil_of_length_eq_zero hmm)
              rw [hmm] at this
              injection this with h1 h2 h3
              exact ⟨h1, h3⟩
            have hnilo := fun W => Lib.run_eql_slice_nil (P := Try.prog) W 29 35 none 0 0 0 0 Try.underlying29
            go_wp2
            go_ret
            exact ⟨rfl, HB.out.trans (HW.out.mono HB.out.size)⟩
          | succ m =>
            go_wp2
            go_ret
            exact ⟨rfl, HB.out.trans (HW.out.mono HB.out.size)⟩
    · go_wp2_with fail
      go_ret
      exact ⟨rfl, Below.refl _ _⟩
  · rw [szOk_no ht]
    go_wp2_with fail
    go_ret
    exact ⟨rfl, Below.refl _ _⟩

set_option maxRecDepth 10000000 in
theorem lifted (os : Os) (started : os.Started) (H : Type) (enc : TypeId × Value → H) :
    ReturnsInHanded {} Try.checked os 3 .any (Rows.fnMessagesToPublicFiltersByKindInOrderSpec.pre6 enc Try.prog Try.f3 Rows.fnMessagesToPublicFiltersByKindInOrderRow.domain false) (Rows.fnMessagesToPublicFiltersByKindInOrderSpec.post enc Try.prog Try.f3 false true false false) := by
  refine returnsInHanded_of_change (C := Try.checked) own started (by kernel_rfl) Try.func3
    (ChangeSpec.witness6 (enc := enc) (C := Try.checked) false ⟨#[], #[.int .u8 0, .slice none 0 0, .slice none 0 0, .slice none 0 0, .slice none 0 0, .slice none 0 0, .int .u8 0, .int .u8 0], []⟩ 8 (by kernel_rfl) (by kernel_rfl) (by kernel_rfl) (by kernel_rfl)) ?_
  intro W base args ds gs before hval0 hW hcnd _
  have hval : ∀ (j : Nat) t v, Try.f3.params[j]? = some t → args[j]? = some v → Value.okWide Try.prog W .any base t v := hval0
  have hW' := hW
  obtain ⟨p, q, hA0, hV, rfl, hfz, hnd⟩ := hW
  have hA : DataW.TrodAll enc Try.prog W 0 (fun _ => true) true Try.f3.params.toList args.toList ds p := hA0
  rw [Try.params3] at hA hval
  obtain ⟨v0, vs0, d0, ds0, p0, q0, hargs0, rfl, rfl, h0, r0⟩ := trodAll_cons hA
  obtain ⟨v1, vs1, d1, ds1, p1, q1, hargs1, rfl, rfl, h1, r1⟩ := trodAll_cons r0
  obtain ⟨v2, vs2, d2, ds2, p2, q2, hargs2, rfl, rfl, h2, r2⟩ := trodAll_cons r1
  obtain ⟨v3, vs3, d3, ds3, p3, q3, hargs3, rfl, rfl, h3, r3⟩ := trodAll_cons r2
  obtain ⟨v4, vs4, d4, ds4, p4, q4, hargs4, rfl, rfl, h4, r4⟩ := trodAll_cons r3
  obtain ⟨v5, vs5, d5, ds5, p5, q5, hargs5, rfl, rfl, h5, r5⟩ := trodAll_cons r4
  obtain ⟨v6, vs6, d6, ds6, p6, q6, hargs6, rfl, rfl, h6, r6⟩ := trodAll_cons r5
  obtain ⟨v7, vs7, d7, ds7, p7, q7, hargs7, rfl, rfl, h7, r7⟩ := trodAll_cons r6
  obtain ⟨rfl, rfl, rfl⟩ := trodAll_nil r7
  obtain rfl : args = #[v0, v1, v2, v3, v4, v5, v6, v7] := by cases args; simp_all
  obtain ⟨a0, rfl, rfl, rfl, w0⟩ := open_int Try.underlying5 (hval 0 5 v0 rfl rfl) h0
  obtain ⟨A1, n1, c1, Z1, rfl, hn1, hc1, hz1, hA1, hZ1⟩ := Mem.open_ints' Try.underlying22 Try.underlying5 (by kernel_rfl) (hval 1 22 v1 rfl rfl) h1
  obtain ⟨A2, n2, c2, Z2, rfl, hn2, hc2, hz2, hA2, hZ2⟩ := Mem.open_ints' Try.underlying22 Try.underlying5 (by kernel_rfl) (hval 2 22 v2 rfl rfl) h2
  obtain ⟨A3, n3, c3, S3, rfl, hn3, hc3, hz3, hA3, hS3⟩ := Mem.open_strings Try.underlying23 Try.underlying9 (by kernel_rfl) (hval 3 23 v3 rfl rfl) h3
  obtain ⟨A4, n4, c4, S4, rfl, hn4, hc4, hz4, hA4, hS4⟩ := Mem.open_strings Try.underlying23 Try.underlying9 (by kernel_rfl) (hval 4 23 v4 rfl rfl) h4
  obtain ⟨A5, n5, c5, Z5, rfl, hn5, hc5, hz5, hA5, hZ5⟩ := Mem.open_ints' Try.underlying22 Try.underlying5 (by kernel_rfl) (hval 5 22 v5 rfl rfl) h5
  obtain ⟨a6, rfl, rfl, rfl, w6⟩ := open_int Try.underlying5 (hval 6 5 v6 rfl rfl) h6
  obtain ⟨a7, rfl, rfl, rfl, w7⟩ := open_int Try.underlying5 (hval 7 5 v7 rfl rfl) h7
  clear hA0 hval0
  refine (walk a0 A1 n1 c1 Z1 A2 n2 c2 Z2 A3 n3 c3 S3 A4 n4 c4 S4 A5 n5 c5 Z5 a6 a7 W w0 hA1 hc1 hn1 hz1 hZ1 hA2 hc2 hn2 hz2 hZ2 hA3 hc3 hn3 hz3 hS3 hA4 hc4 hn4 hz4 hS4 hA5 hc5 hn5 hz5 hZ5 w6 w7).mono fun e W' ⟨he, hg⟩ => ?_
  subst he
  exact ⟨_, rfl, law_post laid readEach rfl rfl Try.underlying4 ⟨rfl, rfl, rfl⟩ hW' hg⟩

theorem over : Rows.fnMessagesToPublicFiltersByKindInOrderRow.holds Try.pinned (OpenSpec.ofChange Rows.fnMessagesToPublicFiltersByKindInOrderSpec) :=
  OpenClaim.holds_of_wide 3 Try.f3 rfl rfl rfl rfl rfl rfl rfl ⟨rfl, rfl, rfl, rfl, rfl⟩ rfl rfl rfl rfl rfl (by kernel_rfl) Try.func3 (by kernel_rfl)
    (of_decide_eq_true (by kernel_rfl)) (by unfold Func.isWrapper; first | (rw [if_pos (by decide +kernel)]; kernel_rfl) | (rw [if_neg (by decide +kernel)]; exact ⟨rfl, rfl⟩))
    (fun os started H enc _ => lifted os started H enc)

/-- The statement. -/
theorem proved : Rows.FnMessagesToPublicFiltersByKindInOrderSaid :=
  over
#print axioms proved
end Go.Proofs.Ytmjfdhgfpgeboab.fnMessagesToPublicFiltersByKindInOrder
