/-
  Proved: the law FnOnStartScriptKeepsOrderAndOutcome of folder n011_115 returns true for every argument that its parameter types allow, and leaves its arguments as they were; there is no further condition.
-/
import Derived.Test.YtobpghjknciobabRows
import Derived.WalkKit
import Derived.ProofKit
import Derived.OpenShut
import Derived.Below
import Derived.Carry
import Derived.ChangeMaps5
import Derived.Handy
import Derived.Lib.Hide
import Derived.WalkSpells
import Derived.OwnWalk
import Derived.Deep.CutRange
import Derived.Deep.QuietTactic
import Derived.Lib.LazyBuf
import Derived.Test.YtobpghjknciobabStr
import Derived.Test.YtobpghjknciobabMem
import Derived.Test.YtobpghjknciobabOpb
import Derived.Test.YtobpghjknciobabHo
import Derived.Test.YtobpghjknciobabSz
import Derived.Test.YtobpghjknciobabPa
import Derived.Test.YtobpghjknciobabPb
import Derived.Test.YtobpghjknciobabPc
import Derived.Test.YtobpghjknciobabPd
namespace Go.Proofs.Ytobpghjknciobab.fnOnStartScriptKeepsOrderAndOutcome
open Go.ChangeShapes Go.WideShapes Go.ChangeAt Go.RowKit
set_option linter.unusedVariables false

theorem own : ownKnob Try.prog.godebug = none := by kernel_rfl
theorem laid : laidOutB Try.prog = true := by kernel_rfl
theorem readAll : (Try.f3.params.toList.all fun t => Try.prog.readableRec t && decide (t < Try.prog.types.size)) = true := by kernel_rfl
theorem readEach : ∀ t ∈ Try.f3.params.toList, Try.prog.readableRec t = true ∧ t < Try.prog.types.size := fun t ht => by
  have := List.all_eq_true.1 readAll t ht
  simpa using this
section
variable {H : Type} {enc : TypeId × Value → H} {P : Program}
theorem trodAll_stays (hl : laidOutB P = true) {W W' : World} (hb : Below W.heap.size W W') {sp : Nat → Bool} : ∀ {ts : List TypeId} {vs : List Value} {ds : List (DataW H)} {ps : List MemPlace},
    (∀ t ∈ ts, P.readableRec t = true ∧ t < P.types.size) → DataW.TrodAll enc P W 0 (fun _ => true) true ts vs ds ps → (∀ p ∈ ps, p.block < W.heap.size) → (∀ p ∈ ps, sp p.block = true) → DataW.TrodAll enc P W' 0 sp true ts vs ds ps
  | [], [], [], _, _, h, _, _ => h
  | _ :: _, _ :: _, _ :: _, _, hT, ⟨p, q, h1, h2, e⟩, hlt, hs =>
    ⟨p, q, WideElems.Trod_stays hl (hT _ (List.mem_cons.2 (Or.inl rfl))).1 (hT _ (List.mem_cons.2 (Or.inl rfl))).2 h1 (fun x hx => hb.same (hlt x (by rw [e]; exact List.mem_append_left _ hx))) (fun x hx => hs x (by rw [e]; exact List.mem_append_left _ hx)),
      trodAll_stays hl hb (fun t ht => hT t (List.mem_cons.2 (Or.inr ht))) h2 (fun x hx => hlt x (by rw [e]; exact List.mem_append_right _ hx)) (fun x hx => hs x (by rw [e]; exact List.mem_append_right _ hx)), e⟩

/-- A law's step: the result is true, the arguments are kept, the world has changed in new blocks alone. -/
theorem law_post {f : Func} {s : ChangeSpec} {apart fresh handsOn again : Bool} {W W' : World} {args : Array Value} {ds gs : List (DataW H)} {before : List MemPlace} {tb : TypeId}
    (hl : laidOutB P = true) (hps : ∀ t ∈ f.params.toList, P.readableRec t = true ∧ t < P.types.size) (hv : s.vars = []) (hr : f.resultTypes = #[tb]) (ht : P.underlying tb = some .bool)
    (hs : (s.fn H (ds ++ [])).results = [.lit (.bool true)] ∧ (s.fn H (ds ++ [])).args = ds ∧ (s.fn H (ds ++ [])).vars = [])
    (hW : DataW.Whole enc P f.params.toList s.vars apart W args.toList ds gs before) (hb : Below W.heap.size W W') :
    s.post enc P f apart fresh handsOn again W args (.bool true) W' := by
  have hlt : ∀ p ∈ before, p.block < W.heap.size := fun p hp => hW.lt p hp
  have hold : ∀ p ∈ before, (fun b => decide (b < W.heap.size)) p.block = true := fun p hp => by simpa using hlt p hp
  have hW0 := hW
  obtain ⟨pa, pv, hA, hV, rfl, hz, hn⟩ := hW
  rw [hv] at hV
  obtain ⟨rfl, rfl⟩ := trodVars_none hV
  have hres : ∀ (b : Nat) (sp : Nat → Bool) (hd : Bool), DataW.TrodAll enc P W' b sp hd f.resultTypes.toList ((Value.bool true).resultList f.resultTypes.size) (s.fn H (ds ++ [])).results [] := fun b sp hd => by
    rw [hs.1, hr]; exact trodAll_cons_mk (shut_bool ht _) trodAll_mk0
  have hargs : ∀ sp : Nat → Bool, (∀ p ∈ pa ++ [], sp p.block = true) → DataW.TrodAll enc P W' 0 sp true f.params.toList args.toList (s.fn H (ds ++ [])).args pa := fun sp hsp => by
    rw [hs.2.1]; exact trodAll_stays hl hb hps hA (fun p hp => hlt p (by simpa using hp)) (fun p hp => hsp p (by simpa using hp))
  have hvars : ∀ sp : Nat → Bool, DataW.TrodVars enc P W' sp s.vars (s.fn H (ds ++ [])).vars [] := fun sp => by rw [hv, hs.2.2]; rfl
  refine ⟨ds, [], pa ++ [], [], pa, [], hW0, hres _ _ _, hargs _ hold, hvars _, World.keptBut_mono (fun p hp => ⟨hp, Or.inr (List.mem_append.1 hp)⟩) (hb.frame (· ∈ pa ++ [])), fun _ => ?_⟩
  refine ⟨?_, _, _, ([] ++ pa) ++ [], ⟨[] ++ pa, [], trodAll_append (hargs _ (fun _ _ => rfl)) (hres _ _ _), hvars _, rfl, ?_, ?_⟩, ?_⟩
  · intro j t r h1 h2
    rw [hr] at h1 h2
    match j, h1, h2 with
    | 0, h1, h2 =>
      obtain rfl : tb = t := by simpa using h1
      obtain rfl : Value.bool true = r := by simpa [Value.resultList] using h2
      exact okWide_bool_mk ht _
    | j + 1, h1, _ => simp at h1
  · intro b off hp
    have hp' : MemPlace.cell b off ∈ pa ++ [] := by simpa using hp
    rw [hb.frozen (hlt _ hp')]
    exact hz b off hp'
  · intro ha
    simpa using hn ha
  · intro p hp _
    simpa using hp
end

open Go.PlainAid Mem Sz Ho Pa Pb Pc Pd Go.Proofs
set_option linter.unusedSimpArgs false
set_option maxRecDepth 10000000 in
set_option maxHeartbeats 40000000 in
theorem walk (a0 : ByteArray) (A1 : Option Addr) (n1 c1 : Nat) (Z1 : Nat → Bool) (w : World) (w0 : a0.size ≤ maxLen) (hA1 : Mem.Rd w w.heap.size 1 A1 n1 (fun j => .bool (Z1 j))) (hc1 : c1 ≤ maxLen) (hn1 : n1 ≤ c1) (hz1 : A1 = none → n1 = 0 ∧ c1 = 0) :
    Calls Try.prog 3 #[.string a0, .slice A1 n1 c1] w fun e w' => e = .returned (.bool true) ∧ Below w.heap.size w w' := by
  have HA1 := Lib.hid hA1
  have hN1 : n1 ≤ maxLen := Nat.le_trans hn1 hc1
  clear hA1 hz1
  go_enter Try.func3, Try.ntmps3
  go_wp2_with fail
  refine (bytes4 a0 A1 n1 c1 _ w0 hN1).mono ?_
  rintro e w' ⟨rfl, rfl⟩
  by_cases ht : a0.size + n1 ≤ 1048576
  · rw [szOk_yes ht]
    by_cases h4 : n1 ≤ 4096
    · have z0 : decide ((4096 : Int) < n1) = false := decide_eq_false (by omega)
      have z1 : decide ((1048576 : Int) < a0.size + n1) = false := decide_eq_false (by omega)
      go_wp2_with fail
      refine (impl5 a0 Z1 w).mono ?_
      rintro e w1 ⟨p, rfl, hS, hb⟩
      have HS := Lib.hid hS
      have HB := Lib.hid hb
      clear hS hb z0 z1
      go_wp2_with fail
      go_loopw [6] (fun i wr => ∃ (k : Nat) (v : Value) (xs : List Value), k ≤ n1 ∧ i = .int .i64 k ∧ Hid (St wr w.heap.size p a0 Z1 k v xs) ∧ Hid (Below w.heap.size w wr)) (fun i _ => n1 - (intOf i).toNat)
      case atStart => exact ⟨0, _, _, Nat.zero_le _, rfl, HS, HB⟩
      case round =>
        clear HS HB
        obtain ⟨k, v, xs, hk, rfl, HS, HB⟩ := hrel
        obtain ⟨wo, rfl⟩ : ∃ wo : World, wo = wr := ⟨_, rfl⟩
        by_cases hlt : k < n1
        · obtain ⟨b, off, rfl, _, hc⟩ := (HA1.out.below HB.out).of (by omega)
          have hck := hc k (by omega)
          clear hc
          cases hz : Z1 k
          · rw [hz] at hck
            have H : Hid (Calls Try.prog 6 #[.pointer (some ⟨p, 0, none⟩), .func (.func 8) #[] #[]] wo (On w.heap.size p a0 Z1 k wo)) := Lib.hid (by
              have h := on6 w.heap.size p k a0 Z1 v xs wo HS.out (by omega)
              unfold fnOf at h
              rw [hz] at h
              exact h)
            have HZ := Lib.hid hz
            clear hz
            go_wp2_with fail
            refine H.out.mono ?_
            rintro e w2 ⟨rfl, v', xs', h1, h2⟩
            have H1 := Lib.hid h1
            have H2 := Lib.hid (HB.out.trans h2)
            clear h1 h2 H
            go_wp2_with fail
            go_roundw
            case rel => exact ⟨k + 1, v', xs', by omega, by go_num, H1, H2⟩
            case measure => simp [intOf]; omega
          · rw [hz] at hck
            have H : Hid (Calls Try.prog 6 #[.pointer (some ⟨p, 0, none⟩), .func (.func 7) #[] #[]] wo (On w.heap.size p a0 Z1 k wo)) := Lib.hid (by
              have h := on6 w.heap.size p k a0 Z1 v xs wo HS.out (by omega)
              unfold fnOf at h
              rw [hz] at h
              exact h)
            have HZ := Lib.hid hz
            clear hz
            go_wp2_with fail
            refine H.out.mono ?_
            rintro e w2 ⟨rfl, v', xs', h1, h2⟩
            have H1 := Lib.hid h1
            have H2 := Lib.hid (HB.out.trans h2)
            clear h1 h2 H
            go_wp2_with fail
            go_roundw
            case rel => exact ⟨k + 1, v', xs', by omega, by go_num, H1, H2⟩
            case measure => simp [intOf]; omega
        · obtain rfl : n1 = k := by omega
          have z0 : decide ((n1 : Int) < n1) = false := decide_eq_false (by omega)
          obtain ⟨A, c, rfl⟩ := row_form HS.out.row
          go_wp2_with fail
          refine (plug9 p a0 A n1 c wo HS.out.own).mono ?_
          rintro e w2 ⟨rfl, hb2⟩
          have HB2 := Lib.hid hb2
          clear hb2 z0
          go_upto_region 15 with fail
          generalize hWp : w2.alloc _ = Wp
          have hbp : Below wo.heap.size wo Wp := by rw [← hWp]; exact HB2.out.alloc HB2.out.size _
          have hop : Own Wp w2.heap.size 32 #[.string a0, .slice A n1 c, .slice none 0 0, .slice none 0 0] := by rw [← hWp]; exact Own.new _ _ _
          have u1 : Wp.cell? ⟨w2.heap.size, 1, none⟩ = some (.slice A n1 c) := (hop.cell 1).trans rfl
          have u2 : Wp.cell? ⟨w2.heap.size, 2, none⟩ = some (.slice none 0 0) := (hop.cell 2).trans rfl
          have u3 : Wp.cell? ⟨w2.heap.size, 3, none⟩ = some (.slice none 0 0) := (hop.cell 3).trans rfl
          have HO := Lib.hid hop
          have HSp := Lib.hid (HS.out.below hbp)
          have HBp := Lib.hid (HB.out.trans (hbp.mono HB.out.size))
          clear hWp hbp hop
          go_wp2_with fail
          clear u1 u2 u3
          go_loopw [8] (fun i wr => ∃ k : Nat, k ≤ n1 ∧ i = .int .i64 k ∧ Hid (Below Wp.heap.size Wp wr)) (fun i _ => n1 - (intOf i).toNat)
          case atStart => exact ⟨0, Nat.zero_le _, rfl, Lib.hid (Below.refl _ _)⟩
          case round =>
            obtain ⟨k, hk, rfl, HW⟩ := hrel
            obtain ⟨W, rfl⟩ : ∃ W : World, W = wr := ⟨_, rfl⟩
            by_cases hlt : k < n1
            · obtain ⟨g, rfl⟩ := row_some HSp.out.row (by omega)
              obtain ⟨bx, m0, m1, hbx⟩ := HSp.out.each k hlt
              obtain ⟨b, off, rfl, _, hc⟩ := (HA1.out.below (HBp.out.trans (HW.out.mono HBp.out.size))).of (by omega)
              have hrow := row_below (B := 0) HSp.out.row HW.out
              have hl := hrow.1
              have r0 : W.cell? ⟨g, k * 2, none⟩ = some (.func (.func 13) #[] #[.pointer (some ⟨bx, 0, none⟩)]) := (row_at hrow _ (by omega)).trans m0
              have r1 : W.cell? ⟨g, k * 2 + 1, none⟩ = some (.string a0) := (row_at hrow _ (by omega)).trans m1
              have u1 : W.cell? ⟨w2.heap.size, 1, none⟩ = some (.slice (some ⟨g, 0, none⟩) n1 c) := ((HO.out.below HW.out HO.out.lt).cell 1).trans rfl
              have HBx := Lib.hid (hbx.below HW.out hbx.lt)
              have q0 : (0 : Int) ≤ (k : Int) := by omega
              have q1 : (k : Int) < (n1 : Int) := by omega
              clear hc hrow hl m0 m1 hbx
              go_upto_region 21 with fail
              generalize hW1 : W.alloc _ = W1
              have hb1 : Below W.heap.size W W1 := by rw [← hW1]; exact (Below.refl _ _).alloc (Nat.le_refl _) _
              have ho1 : Own W1 W.heap.size 36 #[.func (.func 13) #[] #[.pointer (some ⟨bx, 0, none⟩)], .string a0] := by rw [← hW1]; exact Own.new _ _ _
              have v0 : W1.cell? ⟨W.heap.size, 0, none⟩ = some (.func (.func 13) #[] #[.pointer (some ⟨bx, 0, none⟩)]) := (ho1.cell 0).trans rfl
              have v1 : W1.cell? ⟨W.heap.size, 1, none⟩ = some (.string a0) := (ho1.cell 1).trans rfl
              have HB1 := Lib.hid hb1
              have HBx1 : Hid (Own W1 bx 27 #[.func (.func (if Z1 k then 7 else 8)) #[] #[]]) := Lib.hid (HBx.out.below hb1 HBx.out.lt)
              clear hW1 hb1 ho1 r0 r1 u1
              go_wp2_with fail
              refine (cb13 bx (Z1 k) W1 HBx1.out).mono ?_
              clear v0 v1
              rintro e w5 (⟨hz, pz, rfl, hb5⟩ | ⟨hz, g3, c3, rfl, hr3, hb5⟩)
              · have HB5 := Lib.hid (HB1.out.trans (hb5.mono HB1.out.size))
                clear hb5
                go_upto_region 24 with fail
                generalize hW6 : w5.alloc _ = W6
                have hb6 : Below W.heap.size W W6 := by rw [← hW6]; exact HB5.out.alloc HB5.out.size _
                have ho6 : Own W6 w5.heap.size 41 #[.iface 63 (.pointer (some pz)), .slice none 0 0] := by rw [← hW6]; exact Own.new _ _ _
                have x0 : W6.cell? ⟨w5.heap.size, 0, none⟩ = some (.iface 63 (.pointer (some pz))) := (ho6.cell 0).trans rfl
                have x1 : W6.cell? ⟨w5.heap.size, 1, none⟩ = some (.slice none 0 0) := (ho6.cell 1).trans rfl
                have HW6 := Lib.hid (HW.out.trans (hb6.mono HW.out.size))
                obtain ⟨_, _, hEq, _, hc6⟩ := (HA1.out.below (HBp.out.trans (HW6.out.mono HBp.out.size))).of (by omega)
                injection hEq with hEq
                injection hEq with h1 h2
                subst h1 h2
                have hck := hc6 k (by omega)
                rw [hz] at hck
                have HZ := Lib.hid hz
                clear hc6 hz hW6 hb6 ho6
                have hnil := fun W => run_neq_slice_nil (P := Try.prog) W 39 75 none 0 0 Try.underlying39
                go_wp2_with fail
                go_roundw
                case rel => exact ⟨k + 1, by omega, by go_num, HW6⟩
                case measure => simp [intOf]; omega
              · have HB5 := Lib.hid (HB1.out.trans (hb5.mono HB1.out.size))
                clear hb5
                go_upto_region 24 with fail
                generalize hW6 : w5.alloc _ = W6
                have hb56 : Below w5.heap.size w5 W6 := by rw [← hW6]; exact (Below.refl _ _).alloc (Nat.le_refl _) _
                have ho6 : Own W6 w5.heap.size 41 #[.nilIface, .slice (some ⟨g3, 0, none⟩) 3 c3] := by rw [← hW6]; exact Own.new _ _ _
                have hb6 : Below W.heap.size W W6 := HB5.out.trans (hb56.mono HB5.out.size)
                have x0 : W6.cell? ⟨w5.heap.size, 0, none⟩ = some .nilIface := (ho6.cell 0).trans rfl
                have x1 : W6.cell? ⟨w5.heap.size, 1, none⟩ = some (.slice (some ⟨g3, 0, none⟩) 3 c3) := (ho6.cell 1).trans rfl
                have HR6 := Lib.hid (row_below (B := 0) hr3 hb56)
                have HW6 := Lib.hid (HW.out.trans (hb6.mono HW.out.size))
                obtain ⟨_, _, hEq, _, hc6⟩ := (HA1.out.below (HBp.out.trans (HW6.out.mono HBp.out.size))).of (by omega)
                injection hEq with hEq
                injection hEq with h1 h2
                subst h1 h2
                have hck := hc6 k (by omega)
                rw [hz] at hck
                have HZ := Lib.hid hz
                clear hc6 hz hW6 hb6 ho6 hb56 hr3
                go_wp2_with fail
                refine (is10 g3 c3 W6 HR6.out).mono ?_
                rintro e w' ⟨rfl, rfl⟩
                go_wp2_with fail
                go_roundw
                case rel => exact ⟨k + 1, by omega, by go_num, HW6⟩
                case measure => simp [intOf]; omega
            · obtain rfl : n1 = k := by omega
              have z0 : decide ((n1 : Int) < n1) = false := decide_eq_false (by omega)
              go_wp2
              go_ret
              exact ⟨rfl, HBp.out.trans (HW.out.mono HBp.out.size)⟩
    · have z0 : decide ((4096 : Int) < n1) = true := decide_eq_true (by omega)
      go_wp2_with fail
      go_ret
      exact ⟨rfl, Below.refl _ _⟩
  · rw [szOk_no ht]
    go_wp2_with fail
    go_ret
    exact ⟨rfl, Below.refl _ _⟩

set_option maxRecDepth 10000000 in
theorem lifted (os : Os) (started : os.Started) (H : Type) (enc : TypeId × Value → H) :
    ReturnsInHanded {} Try.checked os 3 .any (Rows.fnOnStartScriptKeepsOrderAndOutcomeSpec.pre6 enc Try.prog Try.f3 Rows.fnOnStartScriptKeepsOrderAndOutcomeRow.domain false) (Rows.fnOnStartScriptKeepsOrderAndOutcomeSpec.post enc Try.prog Try.f3 false true false false) := by
  refine returnsInHanded_of_change (C := Try.checked) own started (by kernel_rfl) Try.func3
    (ChangeSpec.witness6 (enc := enc) (C := Try.checked) false ⟨#[], #[.string ⟨#[]⟩, .slice none 0 0], []⟩ 8 (by kernel_rfl) (by kernel_rfl) (by kernel_rfl) (by kernel_rfl)) ?_
  intro W base args ds gs before hval0 hW hcnd _
  have hval : ∀ (j : Nat) t v, Try.f3.params[j]? = some t → args[j]? = some v → Value.okWide Try.prog W .any base t v := hval0
  have hW' := hW
  obtain ⟨p, q, hA0, hV, rfl, hfz, hnd⟩ := hW
  have hA : DataW.TrodAll enc Try.prog W 0 (fun _ => true) true Try.f3.params.toList args.toList ds p := hA0
  rw [Try.params3] at hA hval
  obtain ⟨v0, vs0, d0, ds0, p0, q0, hargs0, rfl, rfl, h0, r0⟩ := trodAll_cons hA
  obtain ⟨v1, vs1, d1, ds1, p1, q1, hargs1, rfl, rfl, h1, r1⟩ := trodAll_cons r0
  obtain ⟨rfl, rfl, rfl⟩ := trodAll_nil r1
  obtain rfl : args = #[v0, v1] := by cases args; simp_all
  obtain ⟨a0, rfl, rfl, rfl, w0⟩ := Go.ChangeMaps.open_string Try.underlying9 (hval 0 9 v0 rfl rfl) h0
  obtain ⟨A1, n1, c1, Z1, rfl, hn1, hc1, hz1, hA1⟩ := Opb.open_bools' Try.underlying22 Try.underlying4 (by kernel_rfl) (hval 1 22 v1 rfl rfl) h1
  clear hA0 hval0
  refine (walk a0 A1 n1 c1 Z1 W w0 hA1 hc1 hn1 hz1).mono fun e W' ⟨he, hg⟩ => ?_
  subst he
  exact ⟨_, rfl, law_post laid readEach rfl rfl Try.underlying4 ⟨rfl, rfl, rfl⟩ hW' hg⟩

theorem over : Rows.fnOnStartScriptKeepsOrderAndOutcomeRow.holds Try.pinned (OpenSpec.ofChange Rows.fnOnStartScriptKeepsOrderAndOutcomeSpec) :=
  OpenClaim.holds_of_wide 3 Try.f3 rfl rfl rfl rfl rfl rfl rfl ⟨rfl, rfl, rfl, rfl, rfl⟩ rfl rfl rfl rfl rfl (by kernel_rfl) Try.func3 (by kernel_rfl)
    (of_decide_eq_true (by kernel_rfl)) (by unfold Func.isWrapper; first | (rw [if_pos (by decide +kernel)]; kernel_rfl) | (rw [if_neg (by decide +kernel)]; exact ⟨rfl, rfl⟩))
    (fun os started H enc _ => lifted os started H enc)

/-- The statement. -/
theorem proved : Rows.FnOnStartScriptKeepsOrderAndOutcomeSaid :=
  over
#print axioms proved
end Go.Proofs.Ytobpghjknciobab.fnOnStartScriptKeepsOrderAndOutcome
