/-
  Proved: the tied card of the law FnLeadingCommentIsInvisibleToNext of folder n011_111: it returns true for every argument that its parameter types allow, wherever unicode/utf8's two tables hold what their initialisers lay, and leaves its arguments as they were; there is no further condition.
-/
import Derived.Test.YtcljenkgbbbfpaaDoorCards
import Derived.Test.YtcljenkgbbbfpaaDoorTie
import Derived.Test.YtcljenkgbbbfpaaDoorShelf
import Derived.WalkKit
import Derived.ProofKit
import Derived.OpenShut
import Derived.Below
import Derived.Carry
import Derived.ChangeMaps5
import Derived.Deep.DeepHandedRow
import Derived.Lib.LaidTab
import Derived.Lib.LaidU8
import Derived.PinnedBridge
import Derived.Handy
import Derived.Lib.Hide
import Derived.WalkSpells
import Derived.OwnWalk
import Derived.Test.YtcljenkgbbbfpaaDoorZt
import Derived.Test.YtcljenkgbbbfpaaDoorSz
namespace Go.Proofs.YtcljenkgbbbfpaaDoor.fnLeadingCommentIsInvisibleToNext
open Go.ChangeShapes Go.WideShapes Go.ChangeAt Go.RowKit
set_option linter.unusedVariables false

theorem own : ownKnob Tryd.prog.godebug = none := by kernel_rfl
theorem laid : laidOutB Tryd.prog = true := by kernel_rfl
theorem readAll : (Tryd.f8.params.toList.all fun t => Tryd.prog.readableRec t && decide (t < Tryd.prog.types.size)) = true := by kernel_rfl
theorem readEach : ∀ t ∈ Tryd.f8.params.toList, Tryd.prog.readableRec t = true ∧ t < Tryd.prog.types.size := fun t ht => by
  have := List.all_eq_true.1 readAll t ht
  simpa using this
theorem extra : U8Extra Tryd.prog Tryd.lays260_ren := ⟨by kernel_rfl, by kernel_rfl, by kernel_rfl, by kernel_rfl, by kernel_rfl, by kernel_rfl, by kernel_rfl⟩
theorem accept_eq : (Rows.laid_unicode_utf8_acceptRanges : DataW Unit) = Lib.acceptData := by kernel_rfl
/-- What the row's list gives: the two tables. -/
theorem tabs {W : World} (h : laidMetH Tryd.prog Rows.fnLeadingCommentIsInvisibleToNextRow.laid W) : Lib.Utf8Tabs 1 2 W :=
  utf8Tabs_of_reads Tryd.lays260 extra
    (Lib.laidMet.reads h (by rw [← Pinned.utf8First_eq]; exact List.mem_cons.2 (Or.inr (List.mem_cons.2 (Or.inl rfl)))))
    (Lib.laidMet.reads h (by rw [← accept_eq]; exact List.mem_cons.2 (Or.inl rfl)))
section
variable {H : Type} {enc : TypeId × Value → H} {P : Program}
theorem trodAll_stays (hl : laidOutB P = true) {W W' : World} (hb : Below W.heap.size W W') {sp : Nat → Bool} : ∀ {ts : List TypeId} {vs : List Value} {ds : List (DataW H)} {ps : List MemPlace},
    (∀ t ∈ ts, P.readableRec t = true ∧ t < P.types.size) → DataW.TrodAll enc P W 0 (fun _ => true) true ts vs ds ps → (∀ p ∈ ps, p.block < W.heap.size) → (∀ p ∈ ps, sp p.block = true) → DataW.TrodAll enc P W' 0 sp true ts vs ds ps
  | [], [], [], _, _, h, _, _ => h
  | _ :: _, _ :: _, _ :: _, _, hT, ⟨p, q, h1, h2, e⟩, hlt, hs =>
    ⟨p, q, WideElems.Trod_stays hl (hT _ (List.mem_cons.2 (Or.inl rfl))).1 (hT _ (List.mem_cons.2 (Or.inl rfl))).2 h1 (fun x hx => hb.same (hlt x (by rw [e]; exact List.mem_append_left _ hx))) (fun x hx => hs x (by rw [e]; exact List.mem_append_left _ hx)),
      trodAll_stays hl hb (fun t ht => hT t (List.mem_cons.2 (Or.inr ht))) h2 (fun x hx => hlt x (by rw [e]; exact List.mem_append_right _ hx)) (fun x hx => hs x (by rw [e]; exact List.mem_append_right _ hx)), e⟩

/-- A law's step: the result is true, the arguments are kept, the world has changed in new blocks alone. -/
theorem law_post {f : Func} {s : ChangeSpec} {apart fresh handsOn again : Bool} {W W' : World} {args : Array Value} {ds gs : List (DataW H)} {before : List MemPlace} {tb : TypeId}
    (hl : laidOutB P = true) (hps : ∀ t ∈ f.params.toList, P.readableRec t = true ∧ t < P.types.size) (hv : s.vars = []) (hr : f.resultTypes = #[tb]) (ht : P.underlying tb = some .bool)
    (hs : (s.fn H (ds ++ [])).results = [.lit (.bool true)] ∧ (s.fn H (ds ++ [])).args = ds ∧ (s.fn H (ds ++ [])).vars = [])
    (hW : DataW.Whole enc P f.params.toList s.vars apart W args.toList ds gs before) (hb : Below W.heap.size W W') :
    s.post enc P f apart fresh handsOn again W args (.bool true) W' := by
  have hlt : ∀ p ∈ before, p.block < W.heap.size := fun p hp => hW.lt p hp
  have hold : ∀ p ∈ before, (fun b => decide (b < W.heap.size)) p.block = true := fun p hp => by simpa using hlt p hp
  have hW0 := hW
  obtain ⟨pa, pv, hA, hV, rfl, hz, hn⟩ := hW
  rw [hv] at hV
  obtain ⟨rfl, rfl⟩ := trodVars_none hV
  have hres : ∀ (b : Nat) (sp : Nat → Bool) (hd : Bool), DataW.TrodAll enc P W' b sp hd f.resultTypes.toList ((Value.bool true).resultList f.resultTypes.size) (s.fn H (ds ++ [])).results [] := fun b sp hd => by
    rw [hs.1, hr]; exact trodAll_cons_mk (shut_bool ht _) trodAll_mk0
  have hargs : ∀ sp : Nat → Bool, (∀ p ∈ pa ++ [], sp p.block = true) → DataW.TrodAll enc P W' 0 sp true f.params.toList args.toList (s.fn H (ds ++ [])).args pa := fun sp hsp => by
    rw [hs.2.1]; exact trodAll_stays hl hb hps hA (fun p hp => hlt p (by simpa using hp)) (fun p hp => hsp p (by simpa using hp))
  have hvars : ∀ sp : Nat → Bool, DataW.TrodVars enc P W' sp s.vars (s.fn H (ds ++ [])).vars [] := fun sp => by rw [hv, hs.2.2]; rfl
  refine ⟨ds, [], pa ++ [], [], pa, [], hW0, hres _ _ _, hargs _ hold, hvars _, World.keptBut_mono (fun p hp => ⟨hp, Or.inr (List.mem_append.1 hp)⟩) (hb.frame (· ∈ pa ++ [])), fun _ => ?_⟩
  refine ⟨?_, _, _, ([] ++ pa) ++ [], ⟨[] ++ pa, [], trodAll_append (hargs _ (fun _ _ => rfl)) (hres _ _ _), hvars _, rfl, ?_, ?_⟩, ?_⟩
  · intro j t r h1 h2
    rw [hr] at h1 h2
    match j, h1, h2 with
    | 0, h1, h2 =>
      obtain rfl : tb = t := by simpa using h1
      obtain rfl : Value.bool true = r := by simpa [Value.resultList] using h2
      exact okWide_bool_mk ht _
    | j + 1, h1, _ => simp at h1
  · intro b off hp
    have hp' : MemPlace.cell b off ∈ pa ++ [] := by simpa using hp
    rw [hb.frozen (hlt _ hp')]
    exact hz b off hp'
  · intro ha
    simpa using hn ha
  · intro p hp _
    simpa using hp
end

open Go.PlainAid Str Mem Sz Rws De Dw Lu Cu Za Zh Zl Zs Zt
theorem heap3 {w : World} (h : Lib.Utf8Tabs 1 2 w) : 3 ≤ w.heap.size := by
  have := (h.2 0 (by omega)).1
  have := World.block_lt_of_cell? w _ this
  exact this
set_option maxRecDepth 100000 in
set_option maxHeartbeats 4000000 in
theorem walk (a0 : ByteArray) (a1 : ByteArray) (w : World) (hT : Lib.Utf8Tabs 1 2 w) (w0 : a0.size ≤ maxLen) (w1 : a1.size ≤ maxLen) :
    Calls Tryd.prog 8 #[.string a0, .string a1] w fun e w' => e = .returned (.bool true) ∧ Below w.heap.size w w' := by
  have hw3 := heap3 hT
  have HT := Lib.hid hT
  clear hT
  go_enter Tryd.func8, Tryd.ntmps8
  go_wp2_with fail
  refine (bytes31 a0 a1 _ w0 w1).mono ?_
  rintro e w' ⟨rfl, rfl⟩
  by_cases ht : a0.size + a1.size ≤ 1048576
  rotate_left
  focus
    rw [szOk_no ht]
    go_wp2_with fail
    go_ret
    exact ⟨rfl, by go_grown⟩
  rw [szOk_yes ht]
  clear w0 w1
  by_cases g0 : a0.size ≤ 524288
  rotate_left
  focus
    have t1 : decide (524288 < (a0.size : Int)) = true := decide_eq_true (by omega)
    clear g0
    go_wp2_with fail
    go_ret
    exact ⟨rfl, by go_grown⟩
  by_cases g1 : a1.size ≤ 524288
  rotate_left
  focus
    have t1 : decide (524288 < (a0.size : Int)) = false := decide_eq_false (by omega)
    have t2 : decide (524288 < (a1.size : Int)) = true := decide_eq_true (by omega)
    clear g0 g1
    go_wp2_with fail
    go_ret
    exact ⟨rfl, by go_grown⟩
  have t1 : decide (524288 < (a0.size : Int)) = false := decide_eq_false (by omega)
  have t2 : decide (524288 < (a1.size : Int)) = false := decide_eq_false (by omega)
  go_wp2_with fail
  clear t1 t2
  refine (con32 a0 ⟨#[42, 47]⟩ _ (by omega) (by decide)).mono ?_
  rintro e w1 ⟨b1, rfl, h1, hb1⟩
  cases b1
  rotate_left
  focus
    have HB1 := Lib.hid hb1
    clear h1 hb1
    go_wp2_with fail
    go_ret
    exact ⟨rfl, HB1.out⟩
  have H1 := Lib.hid (h1 rfl)
  have HB1 := Lib.hid hb1
  clear h1 hb1
  go_wp2_with fail
  refine (leg33 a0 _ (by omega)).mono ?_
  rintro e w2 ⟨b2, rfl, h2, hb2⟩
  have HB2 := Lib.hid (HB1.out.trans (hb2.mono HB1.out.size))
  clear hb2 HB1
  cases b2
  rotate_left
  focus
    clear h2
    go_wp2_with fail
    go_ret
    exact ⟨rfl, HB2.out⟩
  have H2 := Lib.hid (h2 rfl)
  clear h2
  go_wp2_with fail
  refine (dom34 a1 _ (by omega)).mono ?_
  rintro e w3 ⟨b3, rfl, h3, hb3⟩
  have HB3 := Lib.hid (HB2.out.trans (hb3.mono HB2.out.size))
  clear hb3 HB2
  cases b3
  focus
    clear h3
    go_wp2_with fail
    go_ret
    exact ⟨rfl, HB3.out⟩
  have HD := Lib.hid (dom_dq (h3 rfl))
  have HCM := Lib.hid (cmt_cm (b := a0) (t := a1) H1.out H2.out)
  have HSH := Lib.hid (cmt_sh a0 a1)
  have hsz : (cmt a0 a1).size ≤ 1048580 := by rw [HSH.out.sz]; omega
  have HSZ := Lib.hid hsz
  clear h3 H1 H2
  go_wp2_with fail
  refine (Zj.new35 (cmt a0 a1) _).mono ?_
  rintro e w4 ⟨ga, rfl, hga, hon, hb4⟩
  have HBA := Lib.hid (HB3.out.trans (hb4.mono HB3.out.size))
  have HON := Lib.hid hon
  have hgw : w.heap.size ≤ ga := by have := HB3.out.size; omega
  clear hon hb4 HB3 hga
  go_wp2_with fail
  refine (firstL ga (cmt a0 a1) _ HON.out (tabs_below HT.out hw3 HBA.out) (Nat.le_trans hw3 HBA.out.size) HSZ.out).mono ?_
  rintro e w5 ⟨rfl, hA, hF⟩
  have HA := Lib.hid hA
  have HBB := Lib.hid (below_fr HBA.out hgw hF)
  have hgl : ga < w5.heap.size := hA.lt
  clear hA hF HON HBA
  go_wp2_with fail
  refine (Zj.new35 a1 _).mono ?_
  rintro e w6 ⟨gb, rfl, hgb, hon, hb6⟩
  have hne : ga ≠ gb := by omega
  have HA6 := Lib.hid (HA.out.below hb6)
  have HBC := Lib.hid (HBB.out.trans (hb6.mono HBB.out.size))
  have HON := Lib.hid hon
  have hgv : w.heap.size ≤ gb := by have := HBB.out.size; omega
  clear hon hb6 hgb hgl HA HBB
  go_wp2_with fail
  refine (firstL gb a1 _ HON.out (tabs_below HT.out hw3 HBC.out) (Nat.le_trans hw3 HBC.out.size) (by omega)).mono ?_
  rintro e w7 ⟨rfl, hB, hF⟩
  have HR0 : Hid (Rd w ga gb (cmt a0 a1) a1 (a0.size + 4) 0 0 w7) := Lib.hid ⟨Nat.le_refl _, Nat.zero_le _, Or.inr ⟨Fr.refl _ _, ⟨#[]⟩, 0, 0, a0.size + 2, 0, 0, 0, Zt.At.far HA6.out hne hF, HCM.out, by omega, (cmt_open a0 a1 0 (by decide)).trans (by decide), (cmt_open a0 a1 1 (by decide)).trans (by decide)⟩, ⟨⟨#[]⟩, 0, 0, 0, 0, 0, 0, Nat.le_refl _, hB⟩, below_fr HBC.out hgv hF⟩
  clear hB hF HA6 HBC HON HCM
  go_wp2_with fail
  go_loopw [9, 10, 11] (fun v9 v10 v11 wr => ∃ p k : Nat, v9 = .int .i64 (k : Int) ∧ Hid (Rd w ga gb (cmt a0 a1) a1 (a0.size + 4) p k wr)) (fun v9 v10 v11 _ => a1.size + 2 - (intOf v9).toNat)
  case atStart => exact ⟨0, 0, rfl, HR0⟩
  case round =>
    clear HR0
    obtain ⟨p, k, rfl, HR⟩ := hrel
    obtain ⟨wq, rfl⟩ : ∃ x : World, x = wr := ⟨_, rfl⟩
    have t1 : decide ((k : Int) ≤ (a1.size : Int) + 1) = true := decide_eq_true (by have := HR.out.kp; have := HR.out.pt; omega)
    have t1' : decide (k ≤ a1.size + 1) = true := decide_eq_true (by have := HR.out.kp; have := HR.out.pt; omega)
    have HE0 := Lib.hid HR.out.be
    have hpt := HR.out.pt
    have hkp := HR.out.kp
    go_wp2_with fail
    refine (nextL ga (cmt a0 a1) (a0.size + 4 + p) _ HR.out.ba (by rw [HSH.out.sz]; omega) HSZ.out (tabs_below HT.out hw3 HE0.out) (Nat.le_trans hw3 HE0.out.size) (by omega) ((dq_sh HSH.out HD.out).mono (by omega))).mono ?_
    rintro e w8 ⟨rfl, ha, hf⟩
    rw [HSH.out.tok p] at ha
    have HA8 := Lib.hid ha
    have HB8 := Lib.hid (HR.out.bb.far (Ne.symm hne) hf)
    have HE8 := Lib.hid (below_fr HE0.out hgw hf)
    clear ha hf HE0 HR
    go_wp2_with fail
    refine (nextL gb a1 p _ HB8.out.bef hpt (by omega) (tabs_below HT.out hw3 HE8.out) (Nat.le_trans hw3 HE8.out.size) (by omega) (HD.out.mono (Nat.zero_le _))).mono ?_
    rintro e w9 ⟨rfl, hb, hf⟩
    obtain ⟨E, U, K, F, hT⟩ : ∃ E U K F, Zk.tok a1 p = (E, U, K, F) := by
      rcases Zk.tok a1 p with ⟨E, U, K, F⟩
      exact ⟨E, U, K, F, rfl⟩
    have HA9 : Hid (Aft ga (cmt a0 a1) (a0.size + 4 + p) (a0.size + 4 + E, U, K, F) w9) := Lib.hid (by have h := HA8.out; rw [hT] at h; exact Aft.far h hne hf)
    have HB9 : Hid (Aft gb a1 p (E, U, K, F) w9) := Lib.hid (by rw [hT] at hb; exact hb)
    have HE9 := Lib.hid (below_fr HE8.out hgv hf)
    have HTK := Lib.hid hT
    clear hb hf hT HA8 HB8 HE8
    go_wp2_with fail
    refine (tokL ga _ (a0.size + 4 + p) (a0.size + 4 + E) U K F _ HA9.out ((p : Int) + ((a0.size : Int) + 4)) ((E : Int) - (p : Int)) (by omega) (by omega)).mono ?_
    rintro e w10 ⟨rfl, hb⟩
    have HA10 := Lib.hid (HA9.out.below hb)
    have HB10 := Lib.hid (HB9.out.below hb)
    have HE10 := Lib.hid (HE9.out.trans (hb.mono HE9.out.size))
    clear hb HA9 HB9 HE9
    go_wp2_with fail
    generalize hW : World.alloc _ _ = w11
    have hb11 : Below w10.heap.size w10 w11 := by rw [← hW]; exact (Below.refl _ _).alloc (Nat.le_refl _) _
    have hO11 : Own w11 w10.heap.size 36 #[.int .i32 ((p : Int) + ((a0.size : Int) + 4)), .int .i32 ((E : Int) - (p : Int)), .int .u16 U, .int .u8 K, .int .u8 F] := by rw [← hW]; exact Own.new _ _ _
    have HA11 := Lib.hid (HA10.out.below hb11)
    have HB11 := Lib.hid (HB10.out.below hb11)
    have HE11 := Lib.hid (HE10.out.trans (hb11.mono HE10.out.size))
    have HO11 := Lib.hid hO11
    clear hW hb11 hO11 HA10 HB10 HE10
    generalize w10.heap.size = x1 at HO11 ⊢
    refine (tokL gb _ p E U K F _ HB11.out (p : Int) ((E : Int) - (p : Int)) rfl rfl).mono ?_
    rintro e w12 ⟨rfl, hb⟩
    have HA12 := Lib.hid (HA11.out.below hb)
    have HB12 := Lib.hid (HB11.out.below hb)
    have HE12 := Lib.hid (HE11.out.trans (hb.mono HE11.out.size))
    have HO12 := Lib.hid (HO11.out.below hb HO11.out.lt)
    clear hb HA11 HB11 HE11 HO11
    go_upto_region 22 with fail
    generalize hW : World.alloc _ _ = w13
    have hb13 : Below w12.heap.size w12 w13 := by rw [← hW]; exact (Below.refl _ _).alloc (Nat.le_refl _) _
    have hO13 : Own w13 w12.heap.size 36 #[.int .i32 (p : Int), .int .i32 ((E : Int) - (p : Int)), .int .u16 U, .int .u8 K, .int .u8 F] := by rw [← hW]; exact Own.new _ _ _
    have HA13 := Lib.hid (HA12.out.below hb13)
    have HB13 := Lib.hid (HB12.out.below hb13)
    have HE13 := Lib.hid (HE12.out.trans (hb13.mono HE12.out.size))
    have HO13 := Lib.hid (HO12.out.below hb13 HO12.out.lt)
    have HP13 := Lib.hid hO13
    clear hW hb13 hO13 HA12 HB12 HE12 HO12
    generalize w12.heap.size = x2 at HP13 ⊢
    have q0 : w13.cell? ⟨x1, 0, none⟩ = some (.int .i32 ((p : Int) + ((a0.size : Int) + 4))) := (HO13.out.cell 0).trans rfl
    have q1 : w13.cell? ⟨x1, 1, none⟩ = some (.int .i32 ((E : Int) - (p : Int))) := (HO13.out.cell 1).trans rfl
    have q2 : w13.cell? ⟨x1, 2, none⟩ = some (.int .u16 U) := (HO13.out.cell 2).trans rfl
    have q3 : w13.cell? ⟨x1, 3, none⟩ = some (.int .u8 K) := (HO13.out.cell 3).trans rfl
    have q4 : w13.cell? ⟨x1, 4, none⟩ = some (.int .u8 F) := (HO13.out.cell 4).trans rfl
    have r0 : w13.cell? ⟨x2, 0, none⟩ = some (.int .i32 (p : Int)) := (HP13.out.cell 0).trans rfl
    have r1 : w13.cell? ⟨x2, 1, none⟩ = some (.int .i32 ((E : Int) - (p : Int))) := (HP13.out.cell 1).trans rfl
    have r2 : w13.cell? ⟨x2, 2, none⟩ = some (.int .u16 U) := (HP13.out.cell 2).trans rfl
    have r3 : w13.cell? ⟨x2, 3, none⟩ = some (.int .u8 K) := (HP13.out.cell 3).trans rfl
    have r4 : w13.cell? ⟨x2, 4, none⟩ = some (.int .u8 F) := (HP13.out.cell 4).trans rfl
    have y0 : (0 : Int) ≤ (p : Int) := by omega
    have y1 : (p : Int) ≤ 524288 := by omega
    have y2 : (a0.size : Int) ≤ 524288 := by omega
    clear HO13 HP13
    by_cases hlt : p < a1.size
    · have hgood := Zk.tok_good hlt
      rw [HTK.out] at hgood
      obtain ⟨hE1, hE2, hK⟩ := hgood
      dsimp only at hE1 hE2 hK
      have tK : (K == 0) = false := beq_eq_false_iff_ne.2 hK
      have HEE := Lib.hid (And.intro hE1 hE2)
      clear hE1 hE2 hK
      generalize (E : Int) - (p : Int) = L at q1 r1
      go_wp2_with fail
      go_roundw
      case rel => exact ⟨E, k + 1, by go_num, Lib.hid ⟨by have := HEE.out.1; omega, HEE.out.2, (HA13.out.pl (by have := HEE.out.1; omega)).bef, HB13.out.pl (Nat.le_of_lt HEE.out.1), HE13.out⟩⟩
      case measure => simp [intOf]; omega
    · have hp : p = a1.size := by omega
      subst hp
      have hend := Zk.tok_end (s := a1) (Nat.le_refl a1.size)
      rw [HTK.out] at hend
      injection hend with e1 hend
      injection hend with e2 hend
      injection hend with e3 e4
      subst e1 e2 e3 e4
      have HNL := Lib.hid (nl_law HSH.out)
      generalize ((a1.size : Int) - (a1.size : Int)) = L at q1 r1
      have HZ : Hid (((cmt a0 a1).extract 0 (a0.size + 4)).size ≤ 2000000) := Lib.hid (by rw [Str.size_extract]; omega)
      have z0 : (0 : Int) ≤ (a0.size : Int) + 4 := by omega
      go_wp2_with fail
      go_quiet (first | (go_at_call 39; exact Calls.quiet_of_same ((nlL ga _ _ _ _ _ _ _ (HA13.out.drewN _)).mono fun _ _ h => ⟨h.1, h.2.symm⟩)) | (go_at_call 39; exact Calls.quiet_of_same ((nlL gb _ _ _ _ _ _ _ (HB13.out.drewN _)).mono fun _ _ h => ⟨h.1, h.2.symm⟩)) | (go_at_call 40; exact Calls.quiet_of_same ((cnt40 ((cmt a0 a1).extract 0 (a0.size + 4)) _ HZ.out).mono fun _ _ h => ⟨h.1, h.2.symm⟩)))
      have HBE := Lib.hid (HE13.out.trans ((Mem.below_drewN (Below.refl w13.heap.size w13) nq).mono HE13.out.size))
      rw [nl_law2 HSH.out HSZ.out]
      clear HNL q0 q1 q2 q3 q4 r0 r1 r2 r3 r4
      go_wp2_with fail
      go_ret
      exact ⟨rfl, HBE.out⟩

set_option maxRecDepth 100000 in
/-- What the walk gives, for every argument and every world that holds the tables. -/
theorem contract (H : Type) (enc : TypeId × Value → H) (W : World) (base : Nat) (args : Array Value) (ds gs : List (DataW H)) (before : List MemPlace)
    (hval : ∀ (j : Nat) t v, Tryd.f8.params[j]? = some t → args[j]? = some v → Value.okWide Tryd.prog W .any base t v)
    (hW : DataW.Whole enc Tryd.prog Tryd.f8.params.toList Rows.fnLeadingCommentIsInvisibleToNextSpec.vars false W args.toList ds gs before) (hL : laidMetH Tryd.prog Rows.fnLeadingCommentIsInvisibleToNextRow.laid W) :
    Calls Tryd.prog 8 args W fun e W' => ∃ v, e = .returned v ∧ Rows.fnLeadingCommentIsInvisibleToNextSpec.post enc Tryd.prog Tryd.f8 false true false false W args v W' := by
  have hW' := hW
  obtain ⟨p, q, hA0, hV, rfl, hfz, hnd⟩ := hW
  have hA : DataW.TrodAll enc Tryd.prog W 0 (fun _ => true) true Tryd.f8.params.toList args.toList ds p := hA0
  rw [Tryd.params8] at hA hval
  obtain ⟨v0, vs0, d0, ds0, p0, q0, hargs0, rfl, rfl, h0, r0⟩ := trodAll_cons hA
  obtain ⟨v1, vs1, d1, ds1, p1, q1, hargs1, rfl, rfl, h1, r1⟩ := trodAll_cons r0
  obtain ⟨rfl, rfl, rfl⟩ := trodAll_nil r1
  obtain rfl : args = #[v0, v1] := by cases args; simp_all
  obtain ⟨a0, rfl, rfl, rfl, w0⟩ := Go.ChangeMaps.open_string Tryd.underlying9 (hval 0 9 v0 rfl rfl) h0
  obtain ⟨a1, rfl, rfl, rfl, w1⟩ := Go.ChangeMaps.open_string Tryd.underlying9 (hval 1 9 v1 rfl rfl) h1
  clear hA0
  refine (walk a0 a1 W (tabs hL) w0 w1).mono fun e W' ⟨he, hg⟩ => ?_
  subst he
  exact ⟨_, rfl, law_post laid readEach rfl rfl Tryd.underlying4 ⟨rfl, rfl, rfl⟩ hW' hg⟩

def firstBlock : Obj → Obj
  | .cells _ t frozen => .cells (Pinned.utf8FirstZ.map fun (z : Nat) => Value.int .u8 z).toArray t frozen
  | o => o
def acceptBlock : Obj → Obj
  | .cells _ t frozen => .cells ((List.range 16).flatMap fun i => [Value.int .u8 (Lib.accLo i : Nat), Value.int .u8 (Lib.accHi i : Nat)]).toArray t frozen
  | o => o
/-- A world for the witness: the settled one, the two tables holding what their initialisers lay. -/
noncomputable def laidWorld (os : Os) : World :=
  { World.holding Tryd.prog os ⟨#[], #[], []⟩ with heap := ((World.holding Tryd.prog os ⟨#[], #[], []⟩).heap.modify 1 firstBlock).modify 2 acceptBlock }
theorem laid_met (os : Os) : laidMet Tryd.prog Rows.fnLeadingCommentIsInvisibleToNextRow.laid ((laidWorld os).forCall (fun _ _ => 0) ⟨#[], #[.string ⟨#[]⟩, .string ⟨#[]⟩], []⟩).memory :=
  laidMet_of_run' 8 (by kernel_rfl) (by kernel_rfl)
theorem reads (os : Os) {H : Type} (enc : TypeId × Value → H) : ∃ places, DataW.whole enc Tryd.prog ((laidWorld os).forCall (fun _ _ => 0) ⟨#[], #[.string ⟨#[]⟩, .string ⟨#[]⟩], []⟩).memory Tryd.f8.params.toList Rows.fnLeadingCommentIsInvisibleToNextSpec.vars false (#[.string ⟨#[]⟩, .string ⟨#[]⟩] : Array Value).toList 8 = some ([.lit (.string []), .lit (.string [])], [], places) :=
  ⟨[], by kernel_rfl⟩

set_option maxRecDepth 100000 in
theorem lifted (os : Os) (started : os.Started) (H : Type) (enc : TypeId × Value → H) (F : Stop.Interp) :
    ReturnsInHanded {} Tryd.checked os 8 .any ((OpenSpec.ofChange Rows.fnLeadingCommentIsInvisibleToNextSpec).preRow enc Tryd.prog Tryd.f8 Rows.fnLeadingCommentIsInvisibleToNextRow.domain false Rows.fnLeadingCommentIsInvisibleToNextRow.laid) (((OpenSpec.ofChange Rows.fnLeadingCommentIsInvisibleToNextSpec).at F).post enc Tryd.prog Tryd.f8 false true false false) := by
  obtain ⟨places, hx⟩ := reads os enc
  refine returnsInHanded_of_row (C := Tryd.checked) (s := OpenSpec.ofChange Rows.fnLeadingCommentIsInvisibleToNextSpec) own started (by kernel_rfl) Tryd.func8
    (witness_row_at (enc := enc) (C := Tryd.checked) false (laidWorld os) #[.string ⟨#[]⟩, .string ⟨#[]⟩] rfl (by kernel_rfl) (by kernel_rfl) (by kernel_rfl)
      (OpenSpec.preRow_of_cond 8 hx (by kernel_rfl) (fun k hk => by cases hk) (by kernel_rfl) (laid_met os))) ?_
  intro W base args ds gs before hval hW _ _ _ hL _ _
  exact contract H enc W base args ds gs before hval hW hL

theorem said : Rows.FnLeadingCommentIsInvisibleToNextSaid :=
  OpenClaim.holds_of_cond 8 Tryd.f8 rfl rfl rfl rfl rfl rfl rfl ⟨rfl, rfl, rfl, rfl, rfl⟩ rfl rfl rfl rfl rfl (by kernel_rfl) Tryd.func8 (by kernel_rfl)
    (of_decide_eq_true (by kernel_rfl)) (by unfold Func.isWrapper; first | (rw [if_pos (by decide +kernel)]; kernel_rfl) | (rw [if_neg (by decide +kernel)]; exact ⟨rfl, rfl⟩))
    (fun os started H enc _ F => by rw [OpenClaim.pre_eq_preRow]; exact lifted os started H enc F)

/-- No parameter wants a stand-in; the program's own looks are off. -/
theorem plain (f : FuncId) (fn : Func) (hf : Tryd.pinned.checked.prog.funcNamed Rows.fnLeadingCommentIsInvisibleToNextRow.func = some f) (hfn : Tryd.pinned.checked.prog.funcs[f]? = some fn) :
    false = Tryd.pinned.checked.prog.looks [] ∧ ∀ (j : Nat) t, fn.params[j]? = some t → Tryd.pinned.checked.prog.wantsStandIn t = false := by
  obtain rfl : f = 8 := Option.some.inj ((show Tryd.prog.funcNamed Rows.fnLeadingCommentIsInvisibleToNextRow.func = some 8 by kernel_rfl).symm.trans hf) |>.symm
  obtain rfl : fn = Tryd.f8 := (Option.some.inj (Tryd.func8.symm.trans hfn)).symm
  refine ⟨by kernel_rfl, fun j t ht => ?_⟩
  rw [Tryd.params8] at ht
  have hm : t ∈ [9, 9] := by simpa using Array.mem_of_getElem? ht
  have hall : ([9, 9] : List TypeId).all (fun t => !Tryd.prog.wantsStandIn t) = true := by kernel_rfl
  have hh : Tryd.prog.wantsStandIn t = false := by simpa using List.all_eq_true.1 hall t hm
  exact hh

/-- The card. -/
theorem card : Rows.FnLeadingCommentIsInvisibleToNextCardSaid :=
  Claim7.holds_tied_plain_at .later [] _ _ _ _ said (fun _ h => by cases h) (by kernel_rfl) (fun _ h => by cases h) fnLeadingCommentIsInvisibleToNext_row_tie rfl ⟨rfl, rfl⟩ (by kernel_rfl) rfl plain (by kernel_rfl)
#print axioms card
end Go.Proofs.YtcljenkgbbbfpaaDoor.fnLeadingCommentIsInvisibleToNext
