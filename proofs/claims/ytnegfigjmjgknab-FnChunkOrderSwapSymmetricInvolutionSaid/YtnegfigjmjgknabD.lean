/-
  Proved: the law FnChunkOrderSwapSymmetricInvolution of folder n011_139 returns true for every argument that its parameter types allow, and leaves its arguments as they were; there is no further condition.
-/
import Derived.Test.YtnegfigjmjgknabRows
import Derived.WalkKit
import Derived.ProofKit
import Derived.OpenShut
import Derived.Below
import Derived.Carry
import Derived.ChangeMaps5
import Derived.Handy
import Derived.Lib.Hide
import Derived.WalkSpells
import Derived.OwnWalk
import Derived.Deep.QuietTactic
import Derived.BigQuiet
import Derived.Test.YtnegfigjmjgknabCo
namespace Go.Proofs.Ytnegfigjmjgknab.fnChunkOrderSwapSymmetricInvolution
open Go.ChangeShapes Go.WideShapes Go.ChangeAt Go.RowKit
set_option linter.unusedVariables false

theorem own : ownKnob Try.prog.godebug = none := by kernel_rfl
theorem laid : laidOutB Try.prog = true := by kernel_rfl
theorem readAll : (Try.f6.params.toList.all fun t => Try.prog.readableRec t && decide (t < Try.prog.types.size)) = true := by kernel_rfl
theorem readEach : ∀ t ∈ Try.f6.params.toList, Try.prog.readableRec t = true ∧ t < Try.prog.types.size := fun t ht => by
  have := List.all_eq_true.1 readAll t ht
  simpa using this
section
variable {H : Type} {enc : TypeId × Value → H} {P : Program}
theorem trodAll_stays (hl : laidOutB P = true) {W W' : World} (hb : Below W.heap.size W W') {sp : Nat → Bool} : ∀ {ts : List TypeId} {vs : List Value} {ds : List (DataW H)} {ps : List MemPlace},
    (∀ t ∈ ts, P.readableRec t = true ∧ t < P.types.size) → DataW.TrodAll enc P W 0 (fun _ => true) true ts vs ds ps → (∀ p ∈ ps, p.block < W.heap.size) → (∀ p ∈ ps, sp p.block = true) → DataW.TrodAll enc P W' 0 sp true ts vs ds ps
  | [], [], [], _, _, h, _, _ => h
  | _ :: _, _ :: _, _ :: _, _, hT, ⟨p, q, h1, h2, e⟩, hlt, hs =>
    ⟨p, q, WideElems.Trod_stays hl (hT _ (List.mem_cons.2 (Or.inl rfl))).1 (hT _ (List.mem_cons.2 (Or.inl rfl))).2 h1 (fun x hx => hb.same (hlt x (by rw [e]; exact List.mem_append_left _ hx))) (fun x hx => hs x (by rw [e]; exact List.mem_append_left _ hx)),
      trodAll_stays hl hb (fun t ht => hT t (List.mem_cons.2 (Or.inr ht))) h2 (fun x hx => hlt x (by rw [e]; exact List.mem_append_right _ hx)) (fun x hx => hs x (by rw [e]; exact List.mem_append_right _ hx)), e⟩

/-- A law's step: the result is true, the arguments are kept, the world has changed in new blocks alone. -/
theorem law_post {f : Func} {s : ChangeSpec} {apart fresh handsOn again : Bool} {W W' : World} {args : Array Value} {ds gs : List (DataW H)} {before : List MemPlace} {tb : TypeId}
    (hl : laidOutB P = true) (hps : ∀ t ∈ f.params.toList, P.readableRec t = true ∧ t < P.types.size) (hv : s.vars = []) (hr : f.resultTypes = #[tb]) (ht : P.underlying tb = some .bool)
    (hs : (s.fn H (ds ++ [])).results = [.lit (.bool true)] ∧ (s.fn H (ds ++ [])).args = ds ∧ (s.fn H (ds ++ [])).vars = [])
    (hW : DataW.Whole enc P f.params.toList s.vars apart W args.toList ds gs before) (hb : Below W.heap.size W W') :
    s.post enc P f apart fresh handsOn again W args (.bool true) W' := by
  have hlt : ∀ p ∈ before, p.block < W.heap.size := fun p hp => hW.lt p hp
  have hold : ∀ p ∈ before, (fun b => decide (b < W.heap.size)) p.block = true := fun p hp => by simpa using hlt p hp
  have hW0 := hW
  obtain ⟨pa, pv, hA, hV, rfl, hz, hn⟩ := hW
  rw [hv] at hV
  obtain ⟨rfl, rfl⟩ := trodVars_none hV
  have hres : ∀ (b : Nat) (sp : Nat → Bool) (hd : Bool), DataW.TrodAll enc P W' b sp hd f.resultTypes.toList ((Value.bool true).resultList f.resultTypes.size) (s.fn H (ds ++ [])).results [] := fun b sp hd => by
    rw [hs.1, hr]; exact trodAll_cons_mk (shut_bool ht _) trodAll_mk0
  have hargs : ∀ sp : Nat → Bool, (∀ p ∈ pa ++ [], sp p.block = true) → DataW.TrodAll enc P W' 0 sp true f.params.toList args.toList (s.fn H (ds ++ [])).args pa := fun sp hsp => by
    rw [hs.2.1]; exact trodAll_stays hl hb hps hA (fun p hp => hlt p (by simpa using hp)) (fun p hp => hsp p (by simpa using hp))
  have hvars : ∀ sp : Nat → Bool, DataW.TrodVars enc P W' sp s.vars (s.fn H (ds ++ [])).vars [] := fun sp => by rw [hv, hs.2.2]; rfl
  refine ⟨ds, [], pa ++ [], [], pa, [], hW0, hres _ _ _, hargs _ hold, hvars _, World.keptBut_mono (fun p hp => ⟨hp, Or.inr (List.mem_append.1 hp)⟩) (hb.frame (· ∈ pa ++ [])), fun _ => ?_⟩
  refine ⟨?_, _, _, ([] ++ pa) ++ [], ⟨[] ++ pa, [], trodAll_append (hargs _ (fun _ _ => rfl)) (hres _ _ _), hvars _, rfl, ?_, ?_⟩, ?_⟩
  · intro j t r h1 h2
    rw [hr] at h1 h2
    match j, h1, h2 with
    | 0, h1, h2 =>
      obtain rfl : tb = t := by simpa using h1
      obtain rfl : Value.bool true = r := by simpa [Value.resultList] using h2
      exact okWide_bool_mk ht _
    | j + 1, h1, _ => simp at h1
  · intro b off hp
    have hp' : MemPlace.cell b off ∈ pa ++ [] := by simpa using hp
    rw [hb.frozen (hlt _ hp')]
    exact hz b off hp'
  · intro ha
    simpa using hn ha
  · intro p hp _
    simpa using hp
end

open Mem Rws Sz Co
set_option maxRecDepth 100000 in
set_option maxHeartbeats 4000000 in
theorem walk (A0 : Option Addr) (n0 c0 : Nat) (Z0 : Nat → Int) (A1 : Option Addr) (n1 c1 : Nat) (Z1 : Nat → Int) (A2 : Option Addr) (n2 c2 : Nat) (Z2 : Nat → Int) (a3 : Int) (a4 : Int) (w : World) (hA0 : Mem.Rd w w.heap.size 1 A0 n0 (fun j => .int .u32 (Z0 j))) (hc0 : c0 ≤ maxLen) (hn0 : n0 ≤ c0) (hz0 : A0 = none → n0 = 0 ∧ c0 = 0) (hZ0 : ∀ j, j < n0 → (Lit.int .u32 (Z0 j)).wf = true) (hA1 : Mem.Rd w w.heap.size 1 A1 n1 (fun j => .int .u32 (Z1 j))) (hc1 : c1 ≤ maxLen) (hn1 : n1 ≤ c1) (hz1 : A1 = none → n1 = 0 ∧ c1 = 0) (hZ1 : ∀ j, j < n1 → (Lit.int .u32 (Z1 j)).wf = true) (hA2 : Mem.Rd w w.heap.size 1 A2 n2 (fun j => .int .u32 (Z2 j))) (hc2 : c2 ≤ maxLen) (hn2 : n2 ≤ c2) (hz2 : A2 = none → n2 = 0 ∧ c2 = 0) (hZ2 : ∀ j, j < n2 → (Lit.int .u32 (Z2 j)).wf = true) (w3 : (Lit.int .i64 a3).wf = true) (w4 : (Lit.int .i64 a4).wf = true) :
    Calls Try.prog 6 #[.slice A0 n0 c0, .slice A1 n1 c1, .slice A2 n2 c2, .int .i64 a3, .int .i64 a4] w fun e w' => e = .returned (.bool true) ∧ Below w.heap.size w w' := by
  have HA0 := Lib.hid hA0
  have HA1 := Lib.hid hA1
  have HA2 := Lib.hid hA2
  have HZ0 := Lib.hid hz0
  have HZ1 := Lib.hid hz1
  have HZ2 := Lib.hid hz2
  have hN0 : n0 ≤ maxLen := Nat.le_trans hn0 hc0
  have hN1 : n1 ≤ maxLen := Nat.le_trans hn1 hc1
  have hN2 : n2 ≤ maxLen := Nat.le_trans hn2 hc2
  clear hA0 hA1 hA2 hZ0 hZ1 hZ2 hz0 hz1 hz2
  go_enter Try.func6, Try.ntmps6
  go_wp2_with fail
  refine (bytes17 A0 n0 c0 A1 n1 c1 A2 n2 c2 a3 a4 _ hN0 hN1 hN2).mono ?_
  rintro e w' ⟨rfl, rfl⟩
  by_cases ht : n0 + n1 + n2 ≤ 1048576
  · rw [szOk_yes ht]
    clear hN0 hN1 hN2 hc0 hc1 hc2 w3 w4 hn0 hn1 hn2
    go_wp2_with fail
    all_goals first | (go_ret; exact ⟨rfl, by go_grown⟩) | skip
    have e1 : n1 = n0 := by omega
    have e2 : n2 = n0 := by
      have h : ((n2 : Int) != (n0 : Int)) = false := by assumption
      simp at h
      omega
    obtain ⟨i, rfl⟩ : ∃ i : Nat, a3 = (i : Int) := ⟨a3.toNat, by omega⟩
    obtain ⟨j, rfl⟩ : ∃ j : Nat, a4 = (j : Int) := ⟨a4.toNat, by omega⟩
    have hi : i < n0 := by omega
    have hj : j < n0 := by omega
    have hN : n0 ≤ 1048576 := by omega
    subst e1
    obtain rfl : n1 = n2 := by omega
    clear e2
    refine (copy18 A0 n1 c0 Z0 _ HA0.out HZ0.out hN).mono ?_
    rintro e w1 ⟨B0, d0, rfl, r0, b0⟩
    have R0 := Lib.hid r0
    clear r0
    go_wp2_with fail
    refine (copy18 A1 n1 c1 Z1 _ (HA1.out.below b0 |>.mono b0.size) HZ1.out hN).mono ?_
    rintro e w2 ⟨B1, d1, rfl, r1, b1⟩
    have R1 := Lib.hid r1
    have b01 := b0.trans (b1.mono b0.size)
    clear r1
    go_wp2_with fail
    refine (copy18 A2 n1 c2 Z2 _ (HA2.out.below b01 |>.mono b01.size) HZ2.out hN).mono ?_
    rintro e w3 ⟨B2, d2, rfl, r2, b2⟩
    have R2 := Lib.hid r2
    have R1' := Lib.hid ((R1.out.below b2).mono b2.size)
    have R0' := Lib.hid ((((R0.out.below b1).mono b1.size).below b2).mono b2.size)
    have b3 := b01.trans (b2.mono b01.size)
    clear r2 R0 R1 b0 b1 b01 b2 HA0 HA1 HA2 HZ0 HZ1 HZ2
    have hz3 := b3.size
    go_wp2_with fail
    refine (make19 B0 n1 d0 Z0 B1 d1 Z1 B2 d2 Z2 _ R0'.out R1'.out R2.out hN).mono ?_
    rintro e w4 ⟨ga, rfl, hga, ca, b4⟩
    have hz4 := b4.size
    go_wp2_with fail
    refine (make19 B0 n1 d0 Z0 B1 d1 Z1 B2 d2 Z2 _ ((R0'.out.below b4).mono hz4) ((R1'.out.below b4).mono hz4) ((R2.out.below b4).mono hz4) hN).mono ?_
    rintro e w5 ⟨gb, rfl, hgb, cb, b5⟩
    have hla := ca.lt
    have ca5 := ca.below b5 hla
    have b35 := b4.trans (b5.mono hz4)
    have T0 := R0'.out.below b35
    have T1 := R1'.out.below b35
    have T2 := R2.out.below b35
    have bw5 := b3.trans (b35.mono hz3)
    clear ca b4 b5 R0' R1' R2 b3
    go_wp2_with fail
    refine (swap20 ga n1 n1 i j _ _ ca5 hi hj hN).mono ?_
    rintro e w6 ⟨rfl, s6⟩
    have ca6 := swapped ca5 s6
    have cb6 := s6.far cb (by omega)
    have T0' := s6.rd T0 hga
    have T1' := s6.rd T1 hga
    have T2' := s6.rd T2 hga
    have bw6 := s6.below bw5 (by omega)
    clear s6 ca5 cb T0 T1 T2 bw5
    go_wp2_with fail
    refine (swap20 gb n1 n1 j i _ _ cb6 hj hi hN).mono ?_
    rintro e w7 ⟨rfl, s7⟩
    have hgab : w3.heap.size ≤ gb := by omega
    have cb7 := swapped cb6 s7
    have ca7 := s7.far ca6 (by omega)
    have U0 := s7.rd T0' hgab
    have U1 := s7.rd T1' hgab
    have U2 := s7.rd T2' hgab
    have bw7 := s7.below bw6 (by omega)
    clear s7 ca6 cb6 T0' T1' T2' bw6
    go_wp2_with fail
    go_loopw [14] (fun x wr => ∃ k : Nat, k ≤ n1 ∧ x = .int .i64 k ∧ Cells wr ga 58 (n1 * 3) (iv (swi i j (tri Z0 Z1 Z2))) ∧ Cells wr gb 58 (n1 * 3) (iv (swi j i (tri Z0 Z1 Z2))) ∧ Rd wr w3.heap.size 1 B0 n1 (fun j => .int .u32 (Z0 j)) ∧ Rd wr w3.heap.size 1 B1 n1 (fun j => .int .u32 (Z1 j)) ∧ Rd wr w3.heap.size 1 B2 n1 (fun j => .int .u32 (Z2 j)) ∧ Below w.heap.size w wr) (fun x _ => n1 - (intOf x).toNat)
    case atStart => exact ⟨0, by omega, rfl, ca7, cb7, U0, U1, U2, bw7⟩
    case round =>
      clear ca7 cb7 U0 U1 U2 bw7
      obtain ⟨k, hk, rfl, ca, cb, r0, r1, r2, hb⟩ := hrel
      have CA := Lib.hid ca
      have CB := Lib.hid cb
      have R0 := Lib.hid r0
      have R1 := Lib.hid r1
      have R2 := Lib.hid r2
      have HB := Lib.hid hb
      clear ca cb r0 r1 r2 hb
      by_cases hlt : k < n1
      · go_wp2_with fail
        refine (at21 gb n1 n1 k _ _ CB.out hlt hN).mono ?_
        rintro e w8 ⟨rfl, N, rfl⟩
        go_wp2_with fail
        refine (same22 ga n1 n1 k _ _ _ _ _ (CA.out.drewN N) hlt hN (swi_comm _ _ _ _) (swi_comm _ _ _ _) (swi_comm _ _ _ _)).mono ?_
        rintro e w9 ⟨rfl, M, rfl⟩
        go_wp2_with fail
        refine ⟨⟨k + 1, by omega, by go_num, CA.out, CB.out, R0.out, R1.out, R2.out, below_drewN HB.out _⟩, by simp [intOf]; omega⟩
      · obtain rfl : n1 = k := by omega
        go_wp2_with fail
        refine (swap20 ga n1 n1 i j _ _ CA.out hi hj hN).mono ?_
        rintro e w10 ⟨rfl, s10⟩
        have ca10 := (swapped CA.out s10).congr (G := iv (tri Z0 Z1 Z2)) fun l _ => by simp only [iv]; rw [swi_swi]
        have U0 := s10.rd R0.out hga
        have U1 := s10.rd R1.out hga
        have U2 := s10.rd R2.out hga
        have bw10 := s10.below HB.out (by omega)
        clear CA CB R0 R1 R2 HB s10
        go_wp2_with fail
        go_loopw [18] (fun x wr => ∃ k : Nat, k ≤ n1 ∧ x = .int .i64 k ∧ Cells wr ga 58 (n1 * 3) (iv (tri Z0 Z1 Z2)) ∧ Rd wr w3.heap.size 1 B0 n1 (fun j => .int .u32 (Z0 j)) ∧ Rd wr w3.heap.size 1 B1 n1 (fun j => .int .u32 (Z1 j)) ∧ Rd wr w3.heap.size 1 B2 n1 (fun j => .int .u32 (Z2 j)) ∧ Below w.heap.size w wr) (fun x _ => n1 - (intOf x).toNat)
        case atStart => exact ⟨0, by omega, rfl, ca10, U0, U1, U2, bw10⟩
        case round =>
          clear ca10 U0 U1 U2 bw10
          obtain ⟨k, hk, rfl, ca, r0, r1, r2, hb⟩ := hrel
          have CA := Lib.hid ca
          have HB := Lib.hid hb
          have R0 := Lib.hid r0
          have R1 := Lib.hid r1
          have R2 := Lib.hid r2
          clear ca hb r0 r1 r2
          by_cases hlt : k < n1
          · obtain ⟨x0, o0, rfl, hx0, hc0⟩ := R0.out (by omega)
            obtain ⟨x1, o1, rfl, hx1, hc1⟩ := R1.out (by omega)
            obtain ⟨x2, o2, rfl, hx2, hc2⟩ := R2.out (by omega)
            have k0 := hc0 k (by omega)
            have k1 := hc1 k (by omega)
            have k2 := hc2 k (by omega)
            have hi0 : (0 : Int) ≤ (k : Int) := by omega
            have hi1 : (k : Int) < (n1 : Int) := by omega
            clear hc0 hc1 hc2
            have HT := Lib.hid (tri_at Z0 Z1 Z2 k)
            go_wp2_with fail
            go_quiet ((go_at_call 22; exact Calls.quiet_of (same22 ga n1 n1 k _ _ _ _ _ (CA.out.drewN _) hlt hN HT.out.1 HT.out.2.1 HT.out.2.2)))
            go_wp2_with fail
            refine ⟨⟨k + 1, by omega, by go_num, CA.out, R0.out, R1.out, R2.out, below_drewN HB.out _⟩, by simp [intOf]; omega⟩
          · go_wp2_with fail
            go_ret
            exact ⟨rfl, HB.out⟩
  · rw [szOk_no ht]
    go_wp2_with fail
    go_ret
    exact ⟨rfl, by go_grown⟩

set_option maxRecDepth 100000 in
theorem lifted (os : Os) (started : os.Started) (H : Type) (enc : TypeId × Value → H) :
    ReturnsInHanded {} Try.checked os 6 .any (Rows.fnChunkOrderSwapSymmetricInvolutionSpec.pre6 enc Try.prog Try.f6 Rows.fnChunkOrderSwapSymmetricInvolutionRow.domain false) (Rows.fnChunkOrderSwapSymmetricInvolutionSpec.post enc Try.prog Try.f6 false true false false) := by
  refine returnsInHanded_of_change (C := Try.checked) own started (by kernel_rfl) Try.func6
    (ChangeSpec.witness6 (enc := enc) (C := Try.checked) false ⟨#[], #[.slice none 0 0, .slice none 0 0, .slice none 0 0, .int .i64 0, .int .i64 0], []⟩ 8 (by kernel_rfl) (by kernel_rfl) (by kernel_rfl) (by kernel_rfl)) ?_
  intro W base args ds gs before hval0 hW hcnd _
  have hval : ∀ (j : Nat) t v, Try.f6.params[j]? = some t → args[j]? = some v → Value.okWide Try.prog W .any base t v := hval0
  have hW' := hW
  obtain ⟨p, q, hA0, hV, rfl, hfz, hnd⟩ := hW
  have hA : DataW.TrodAll enc Try.prog W 0 (fun _ => true) true Try.f6.params.toList args.toList ds p := hA0
  rw [Try.params6] at hA hval
  obtain ⟨v0, vs0, d0, ds0, p0, q0, hargs0, rfl, rfl, h0, r0⟩ := trodAll_cons hA
  obtain ⟨v1, vs1, d1, ds1, p1, q1, hargs1, rfl, rfl, h1, r1⟩ := trodAll_cons r0
  obtain ⟨v2, vs2, d2, ds2, p2, q2, hargs2, rfl, rfl, h2, r2⟩ := trodAll_cons r1
  obtain ⟨v3, vs3, d3, ds3, p3, q3, hargs3, rfl, rfl, h3, r3⟩ := trodAll_cons r2
  obtain ⟨v4, vs4, d4, ds4, p4, q4, hargs4, rfl, rfl, h4, r4⟩ := trodAll_cons r3
  obtain ⟨rfl, rfl, rfl⟩ := trodAll_nil r4
  obtain rfl : args = #[v0, v1, v2, v3, v4] := by cases args; simp_all
  obtain ⟨A0, n0, c0, Z0, rfl, hn0, hc0, hz0, hA0, hZ0⟩ := Mem.open_ints' Try.underlying39 Try.underlying46 (by kernel_rfl) (hval 0 39 v0 rfl rfl) h0
  obtain ⟨A1, n1, c1, Z1, rfl, hn1, hc1, hz1, hA1, hZ1⟩ := Mem.open_ints' Try.underlying39 Try.underlying46 (by kernel_rfl) (hval 1 39 v1 rfl rfl) h1
  obtain ⟨A2, n2, c2, Z2, rfl, hn2, hc2, hz2, hA2, hZ2⟩ := Mem.open_ints' Try.underlying39 Try.underlying46 (by kernel_rfl) (hval 2 39 v2 rfl rfl) h2
  obtain ⟨a3, rfl, rfl, rfl, w3⟩ := open_int Try.underlying3 (hval 3 3 v3 rfl rfl) h3
  obtain ⟨a4, rfl, rfl, rfl, w4⟩ := open_int Try.underlying3 (hval 4 3 v4 rfl rfl) h4
  clear hA0 hval0
  refine (walk A0 n0 c0 Z0 A1 n1 c1 Z1 A2 n2 c2 Z2 a3 a4 W hA0 hc0 hn0 hz0 hZ0 hA1 hc1 hn1 hz1 hZ1 hA2 hc2 hn2 hz2 hZ2 w3 w4).mono fun e W' ⟨he, hg⟩ => ?_
  subst he
  exact ⟨_, rfl, law_post laid readEach rfl rfl Try.underlying4 ⟨rfl, rfl, rfl⟩ hW' hg⟩

theorem over : Rows.fnChunkOrderSwapSymmetricInvolutionRow.holds Try.pinned (OpenSpec.ofChange Rows.fnChunkOrderSwapSymmetricInvolutionSpec) :=
  OpenClaim.holds_of_wide 6 Try.f6 rfl rfl rfl rfl rfl rfl rfl ⟨rfl, rfl, rfl, rfl, rfl⟩ rfl rfl rfl rfl rfl (by kernel_rfl) Try.func6 (by kernel_rfl)
    (of_decide_eq_true (by kernel_rfl)) (by unfold Func.isWrapper; first | (rw [if_pos (by decide +kernel)]; kernel_rfl) | (rw [if_neg (by decide +kernel)]; exact ⟨rfl, rfl⟩))
    (fun os started H enc _ => lifted os started H enc)

/-- The statement. -/
theorem proved : Rows.FnChunkOrderSwapSymmetricInvolutionSaid :=
  over
#print axioms proved
end Go.Proofs.Ytnegfigjmjgknab.fnChunkOrderSwapSymmetricInvolution
