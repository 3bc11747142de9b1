/-
  Proved: the law FnIncreaseThenDecreaseRestores of folder n011_173 returns true for every argument that its parameter types allow, and leaves its arguments as they were; there is no further condition.
-/
import Derived.Test.YtiaipcgidmaogacRows
import Derived.WalkKit
import Derived.ProofKit
import Derived.OpenShut
import Derived.Below
import Derived.Carry
import Derived.ChangeMaps5
import Derived.Handy
import Derived.Lib.Hide
import Derived.WalkSpells
import Derived.OwnWalk
import Derived.Maps.AppendAt
import Derived.Test.YtiaipcgidmaogacSz
import Derived.Test.YtiaipcgidmaogacStr
namespace Go.Proofs.Ytiaipcgidmaogac.fnIncreaseThenDecreaseRestores
open Go.ChangeShapes Go.WideShapes Go.ChangeAt Go.RowKit
set_option linter.unusedVariables false

theorem own : ownKnob Try.prog.godebug = none := by kernel_rfl
theorem laid : laidOutB Try.prog = true := by kernel_rfl
theorem readAll : (Try.f5.params.toList.all fun t => Try.prog.readableRec t && decide (t < Try.prog.types.size)) = true := by kernel_rfl
theorem readEach : ∀ t ∈ Try.f5.params.toList, Try.prog.readableRec t = true ∧ t < Try.prog.types.size := fun t ht => by
  have := List.all_eq_true.1 readAll t ht
  simpa using this
section
variable {H : Type} {enc : TypeId × Value → H} {P : Program}
theorem trodAll_stays (hl : laidOutB P = true) {W W' : World} (hb : Below W.heap.size W W') {sp : Nat → Bool} : ∀ {ts : List TypeId} {vs : List Value} {ds : List (DataW H)} {ps : List MemPlace},
    (∀ t ∈ ts, P.readableRec t = true ∧ t < P.types.size) → DataW.TrodAll enc P W 0 (fun _ => true) true ts vs ds ps → (∀ p ∈ ps, p.block < W.heap.size) → (∀ p ∈ ps, sp p.block = true) → DataW.TrodAll enc P W' 0 sp true ts vs ds ps
  | [], [], [], _, _, h, _, _ => h
  | _ :: _, _ :: _, _ :: _, _, hT, ⟨p, q, h1, h2, e⟩, hlt, hs =>
    ⟨p, q, WideElems.Trod_stays hl (hT _ (List.mem_cons.2 (Or.inl rfl))).1 (hT _ (List.mem_cons.2 (Or.inl rfl))).2 h1 (fun x hx => hb.same (hlt x (by rw [e]; exact List.mem_append_left _ hx))) (fun x hx => hs x (by rw [e]; exact List.mem_append_left _ hx)),
      trodAll_stays hl hb (fun t ht => hT t (List.mem_cons.2 (Or.inr ht))) h2 (fun x hx => hlt x (by rw [e]; exact List.mem_append_right _ hx)) (fun x hx => hs x (by rw [e]; exact List.mem_append_right _ hx)), e⟩

/-- A law's step: the result is true, the arguments are kept, the world has changed in new blocks alone. -/
theorem law_post {f : Func} {s : ChangeSpec} {apart fresh handsOn again : Bool} {W W' : World} {args : Array Value} {ds gs : List (DataW H)} {before : List MemPlace} {tb : TypeId}
    (hl : laidOutB P = true) (hps : ∀ t ∈ f.params.toList, P.readableRec t = true ∧ t < P.types.size) (hv : s.vars = []) (hr : f.resultTypes = #[tb]) (ht : P.underlying tb = some .bool)
    (hs : (s.fn H (ds ++ [])).results = [.lit (.bool true)] ∧ (s.fn H (ds ++ [])).args = ds ∧ (s.fn H (ds ++ [])).vars = [])
    (hW : DataW.Whole enc P f.params.toList s.vars apart W args.toList ds gs before) (hb : Below W.heap.size W W') :
    s.post enc P f apart fresh handsOn again W args (.bool true) W' := by
  have hlt : ∀ p ∈ before, p.block < W.heap.size := fun p hp => hW.lt p hp
  have hold : ∀ p ∈ before, (fun b => decide (b < W.heap.size)) p.block = true := fun p hp => by simpa using hlt p hp
  have hW0 := hW
  obtain ⟨pa, pv, hA, hV, rfl, hz, hn⟩ := hW
  rw [hv] at hV
  obtain ⟨rfl, rfl⟩ := trodVars_none hV
  have hres : ∀ (b : Nat) (sp : Nat → Bool) (hd : Bool), DataW.TrodAll enc P W' b sp hd f.resultTypes.toList ((Value.bool true).resultList f.resultTypes.size) (s.fn H (ds ++ [])).results [] := fun b sp hd => by
    rw [hs.1, hr]; exact trodAll_cons_mk (shut_bool ht _) trodAll_mk0
  have hargs : ∀ sp : Nat → Bool, (∀ p ∈ pa ++ [], sp p.block = true) → DataW.TrodAll enc P W' 0 sp true f.params.toList args.toList (s.fn H (ds ++ [])).args pa := fun sp hsp => by
    rw [hs.2.1]; exact trodAll_stays hl hb hps hA (fun p hp => hlt p (by simpa using hp)) (fun p hp => hsp p (by simpa using hp))
  have hvars : ∀ sp : Nat → Bool, DataW.TrodVars enc P W' sp s.vars (s.fn H (ds ++ [])).vars [] := fun sp => by rw [hv, hs.2.2]; rfl
  refine ⟨ds, [], pa ++ [], [], pa, [], hW0, hres _ _ _, hargs _ hold, hvars _, World.keptBut_mono (fun p hp => ⟨hp, Or.inr (List.mem_append.1 hp)⟩) (hb.frame (· ∈ pa ++ [])), fun _ => ?_⟩
  refine ⟨?_, _, _, ([] ++ pa) ++ [], ⟨[] ++ pa, [], trodAll_append (hargs _ (fun _ _ => rfl)) (hres _ _ _), hvars _, rfl, ?_, ?_⟩, ?_⟩
  · intro j t r h1 h2
    rw [hr] at h1 h2
    match j, h1, h2 with
    | 0, h1, h2 =>
      obtain rfl : tb = t := by simpa using h1
      obtain rfl : Value.bool true = r := by simpa [Value.resultList] using h2
      exact okWide_bool_mk ht _
    | j + 1, h1, _ => simp at h1
  · intro b off hp
    have hp' : MemPlace.cell b off ∈ pa ++ [] := by simpa using hp
    rw [hb.frozen (hlt _ hp')]
    exact hz b off hp'
  · intro ha
    simpa using hn ha
  · intro p hp _
    simpa using hp
end

open Go.PlainAid Str Mem Sz
def sp2 : ByteArray := ⟨#[32, 32]⟩
def what : ByteArray := ⟨#[114, 111, 117, 110, 100, 116, 114, 105, 112]⟩
def ind : Nat → ByteArray
  | 0 => ⟨#[]⟩
  | k + 1 => ind k ++ sp2
theorem ind_size (k : Nat) : (ind k).size = 2 * k := by
  induction k with
  | zero => rfl
  | succ k ih => simp only [ind]; rw [size_append, ih]; show 2 * k + 2 = _; omega
def cellsOf (I : ByteArray) : Array Value := #[.string what, .string I, .slice none 0 0]
theorem inc_any (g : Nat) (I : ByteArray) (hI : I.size ≤ 100000) (w : World) (ho : Own w g 68 (cellsOf I)) : Calls Try.prog 19 #[.pointer (some ⟨g, 0, none⟩)] w fun e w' => e = .returned (.tuple #[]) ∧ w.setCell ⟨g, 1, none⟩ (.string (I ++ sp2)) = w' := by
  have c1 : w.cell? ⟨g, 1, none⟩ = some (.string I) := ho.cell 1
  have f1 := ho.frozen 1
  go_enter Try.func19, Try.ntmps19
  go_wp2
  go_returns
  exact ⟨rfl, rfl⟩
theorem dec_any (g : Nat) (I : ByteArray) (hI : I.size ≤ 100000) (h2 : 2 ≤ I.size) (w : World) (ho : Own w g 68 (cellsOf I)) : Calls Try.prog 21 #[.pointer (some ⟨g, 0, none⟩)] w fun e w' => e = .returned (.tuple #[]) ∧ w.setCell ⟨g, 1, none⟩ (.string (I.extract 2 I.size)) = w' := by
  have c1 : w.cell? ⟨g, 1, none⟩ = some (.string I) := ho.cell 1
  have f1 := ho.frozen 1
  go_enter Try.func21, Try.ntmps21
  go_wp2
  go_returns
  exact ⟨rfl, rfl⟩
theorem indent_any (g : Nat) (I : ByteArray) (w : World) (c1 : w.cell? ⟨g, 1, none⟩ = some (.string I)) : Calls Try.prog 20 #[.pointer (some ⟨g, 0, none⟩)] w fun e w' => e = .returned (.string I) ∧ w = w' := by
  go_enter Try.func20, Try.ntmps20
  go_wp2
  go_ret
  exact ⟨rfl, rfl⟩
theorem notes_any (g : Nat) (v : Value) (w : World) (c1 : w.cell? ⟨g, 2, none⟩ = some v) (A : Option Addr) (n c : Nat) (hv : v = .slice A n c) : Calls Try.prog 22 #[.pointer (some ⟨g, 0, none⟩)] w fun e w' => e = .returned (.slice A n c) ∧ w = w' := by
  subst hv
  go_enter Try.func22, Try.ntmps22
  go_wp2
  go_ret
  exact ⟨rfl, rfl⟩
theorem set1 {w : World} {g : Nat} {I J : ByteArray} (h : Own w g 68 (cellsOf I)) : Own (w.setCell ⟨g, 1, none⟩ (.string J)) g 68 (cellsOf J) := h.set 1 _
theorem new_any (w : World) : Calls Try.prog 18 #[.string what] w fun e w' => e = .returned (.pointer (some ⟨w.heap.size, 0, none⟩)) ∧ w.alloc (.cells (cellsOf (ind 0)) 68) = w' := by
  go_enter Try.func18, Try.ntmps18
  go_wp2
  go_ret
  exact ⟨rfl, rfl⟩
theorem ind_list (k : Nat) : (ind k).data.toList = List.replicate (2 * k) 32 := by
  induction k with
  | zero => rfl
  | succ k ih =>
    simp only [ind]
    rw [append_list, ih]
    show List.replicate (2 * k) (32 : UInt8) ++ List.replicate 2 32 = _
    rw [List.replicate_append_replicate]
    congr 1
theorem cut_ind (k : Nat) : (ind k ++ sp2).extract 2 (ind k ++ sp2).size = ind k := by
  refine list_inj ?_
  rw [extract_list, ind_list, List.take_of_length_le (by simp)]
  have h := ind_list (k + 1)
  simp only [ind] at h
  rw [h, List.drop_replicate]
  congr 1
def Noted (g : Nat) (s : ByteArray) (B : Nat) (w : World) (e : Ending) (w' : World) : Prop :=
  e = .returned (.tuple #[]) ∧ (∃ h c, w'.cell? ⟨g, 2, none⟩ = some (.slice (some ⟨h, 0, none⟩) 1 c) ∧ w'.cell? ⟨h, 2, none⟩ = some (.string s)) ∧ Below B w w'
theorem note_any (g B : Nat) (I t : ByteArray) (hI : I.size ≤ 100000) (ht : t.size ≤ 1048576) (w : World) (ho : Own w g 68 (cellsOf I)) (hB : B ≤ g) : Calls Try.prog 23 #[.pointer (some ⟨g, 0, none⟩), .string t] w (Noted g (I ++ t) B w) := by
  have c1 : w.cell? ⟨g, 1, none⟩ = some (.string I) := ho.cell 1
  have c2 : w.cell? ⟨g, 2, none⟩ = some (.slice none 0 0) := ho.cell 2
  have f2 := ho.frozen 2
  have hlt := ho.lt
  have HO := Lib.hid ho
  clear ho
  have fin : ∀ (s : ByteArray) (c : Nat) (Z : Array Value), Noted g s B w (.returned (.tuple #[])) (((w.setCell ⟨g, 2, none⟩ (.slice (some ⟨w.heap.size + 1, 0, none⟩) 1 c)).alloc (.cells #[Value.nilIface, Value.pointer none, Value.string s, Value.bool true] 59)).alloc (.cells (#[Value.nilIface, Value.pointer none, Value.string s, Value.bool true] ++ Z) 59)).drew := by
    intro s c Z
    refine ⟨rfl, ⟨w.heap.size + 1, c, ?_, ?_⟩, (((Below.refl B w).setCell (p := ⟨g, 2, none⟩) hB _).alloc (by rw [World.size_setCell]; omega) _ |>.alloc (by simp; omega) _).drew⟩
    · exact (((HO.out.set 2 _).alloc _).alloc _).drew.cell 2
    · have h := (Own.new ((w.setCell ⟨g, 2, none⟩ (.slice (some ⟨w.heap.size + 1, 0, none⟩) 1 c)).alloc (.cells #[Value.nilIface, Value.pointer none, Value.string s, Value.bool true] 59)) 59 (#[Value.nilIface, Value.pointer none, Value.string s, Value.bool true] ++ Z)).cell 2
      rw [World.size_alloc, World.size_setCell] at h
      refine (show _ = _ from h).trans ?_
      rw [Array.getElem?_append_left (by show 2 < 4; omega)]
      rfl
  have FIN := Lib.hid fin
  clear fin
  by_cases he : I.toList.isEmpty = true
  · have hIt : I ++ t = t := by
      refine list_inj ?_
      rw [append_list]
      have : I.data.toList = [] := by rw [← ByteArray.toList_eq]; simpa using he
      rw [this]; rfl
    have he' : (!I.toList.isEmpty) = false := by simp [he]
    rw [hIt]
    clear hIt he
    go_enter Try.func23, Try.ntmps23
    go_wp2_with (first | (go_at_call 28; go_in))
    go_returns
    exact FIN.out _ _ _
  · have he' : (!I.toList.isEmpty) = true := by simpa using he
    clear he
    go_enter Try.func23, Try.ntmps23
    go_wp2_with (first | (go_at_call 28; go_in))
    go_returns
    exact FIN.out _ _ _
set_option maxRecDepth 100000 in
set_option maxHeartbeats 4000000 in
theorem walk (a0 : Int) (a1 : ByteArray) (w : World) (w0 : (Lit.int .i64 a0).wf = true) (w1 : a1.size ≤ maxLen) :
    Calls Try.prog 5 #[.int .i64 a0, .string a1] w fun e w' => e = .returned (.bool true) ∧ Below w.heap.size w w' := by
  have h0 : -9223372036854775808 ≤ a0 ∧ a0 ≤ 9223372036854775807 := by simpa [Lit.wf, IntKind.min, IntKind.max, IntKind.signed, IntKind.bits] using w0
  clear w0
  by_cases ht : a1.size ≤ 1048576
  · by_cases c1 : a0 < 0
    · go_enter Try.func5, Try.ntmps5
      go_wp2_with fail
      refine (bytes17 a0 a1 _ w1).mono ?_
      rintro e w' ⟨rfl, rfl⟩
      rw [szOk_yes ht]
      go_wp2_with fail
      all_goals go_ret
      all_goals exact ⟨by simp_all, by go_grown⟩
    by_cases c2 : 4096 < a0
    · go_enter Try.func5, Try.ntmps5
      go_wp2_with fail
      refine (bytes17 a0 a1 _ w1).mono ?_
      rintro e w' ⟨rfl, rfl⟩
      rw [szOk_yes ht]
      go_wp2_with fail
      all_goals go_ret
      all_goals exact ⟨by simp_all, by go_grown⟩
    obtain ⟨z, rfl⟩ := Int.eq_ofNat_of_zero_le (show 0 ≤ a0 by omega)
    have hz : z ≤ 4096 := by omega
    have t1 : decide ((z : Int) < 0) = false := by simp only [decide_eq_false_iff_not]; omega
    have t2 : decide ((4096 : Int) < (z : Int)) = false := by simp only [decide_eq_false_iff_not]; omega
    go_enter Try.func5, Try.ntmps5
    go_wp2_with fail
    refine (bytes17 _ a1 _ w1).mono ?_
    rintro e w' ⟨rfl, rfl⟩
    rw [szOk_yes ht]
    go_wp2_with fail
    refine (new_any _).mono ?_
    rintro e w' ⟨rfl, rfl⟩
    have ho : Own (w.alloc (.cells (cellsOf (ind 0)) 68)) w.heap.size 68 (cellsOf (ind 0)) := Own.new _ _ _
    have hbw : Below w.heap.size w (w.alloc (.cells (cellsOf (ind 0)) 68)) := by go_grown
    generalize w.alloc (.cells (cellsOf (ind 0)) 68) = v0 at *
    go_wp2_with fail
    go_loopw [6] (fun i wr => ∃ k : Nat, k ≤ z ∧ i = .int .i64 k ∧ Own wr w.heap.size 68 (cellsOf (ind k)) ∧ Below w.heap.size w wr) (fun i _ => z - (intOf i).toNat)
    case atStart => exact ⟨0, by omega, rfl, ho, hbw⟩
    case round =>
      clear ho hbw
      obtain ⟨k, hk, rfl, ho, hb⟩ := hrel
      have hik := ind_size k
      have hik' : (ind k).size ≤ 8192 := by omega
      have HO := Lib.hid ho
      have HK := Lib.hid hik
      clear ho hik
      by_cases hlt : k < z
      · go_wp2_with fail
        refine (inc_any w.heap.size (ind k) (by omega) _ HO.out).mono ?_
        rintro e w' ⟨rfl, rfl⟩
        have HO2 := Lib.hid (set1 (J := ind k ++ sp2) HO.out)
        have hb2 := hb.setCell (p := ⟨w.heap.size, 1, none⟩) (Nat.le_refl _) (.string (ind k ++ sp2))
        generalize wr.setCell ⟨w.heap.size, 1, none⟩ (.string (ind k ++ sp2)) = w9 at *
        go_wp2_with fail
        go_roundw
        case rel => exact ⟨k + 1, by omega, by go_num, HO2.out, hb2⟩
        case measure => simp [intOf]; omega
      · obtain rfl : z = k := by omega
        go_wp2_with fail
        refine (indent_any w.heap.size (ind z) _ (HO.out.cell 1)).mono ?_
        rintro e w' ⟨rfl, rfl⟩
        have hJs : (ind z ++ sp2).size = (ind z).size + 2 := by rw [size_append]; rfl
        have hJc := cut_ind z
        have HI := Lib.hid (inc_any w.heap.size (ind z) (by omega) wr HO.out)
        have HO2 := Lib.hid (set1 (J := ind z ++ sp2) HO.out)
        have hb2 := hb.setCell (p := ⟨w.heap.size, 1, none⟩) (Nat.le_refl _) (.string (ind z ++ sp2))
        clear HK hb
        generalize ind z ++ sp2 = J at *
        generalize ind z = I at *
        have HJC := Lib.hid hJc
        have e1 : ((J.size : Int) != (I.size : Int) + 2) = false := by simp; omega
        have hJ2 : 2 ≤ J.size := by omega
        have hJ3 : J.size ≤ 100000 := by omega
        clear hJs hJc
        go_wp2_with fail
        refine HI.out.mono ?_
        rintro e w' ⟨rfl, rfl⟩
        generalize wr.setCell ⟨w.heap.size, 1, none⟩ (.string J) = v2 at *
        go_wp2_with fail
        refine (indent_any w.heap.size J _ (HO2.out.cell 1)).mono ?_
        rintro e w' ⟨rfl, rfl⟩
        go_wp2_with fail
        refine (dec_any w.heap.size J hJ3 hJ2 _ HO2.out).mono ?_
        rintro e w' ⟨rfl, rfl⟩
        rw [HJC.out]
        have HO3 := Lib.hid (set1 (J := I) HO2.out)
        have hb3 := hb2.setCell (p := ⟨w.heap.size, 1, none⟩) (Nat.le_refl _) (.string I)
        clear hb2
        generalize v2.setCell ⟨w.heap.size, 1, none⟩ (.string I) = v3 at *
        go_wp2_with fail
        refine (indent_any w.heap.size I _ (HO3.out.cell 1)).mono ?_
        rintro e w' ⟨rfl, rfl⟩
        go_wp2_with fail
        refine (notes_any w.heap.size (.slice none 0 0) _ (HO3.out.cell 2) none 0 0 rfl).mono ?_
        rintro e w' ⟨rfl, rfl⟩
        go_wp2_with fail
        refine (note_any w.heap.size w.heap.size I a1 (by omega) ht _ HO3.out (Nat.le_refl _)).mono ?_
        rintro e v4 ⟨rfl, ⟨h, c, n1, n2⟩, b4⟩
        have hb4 := hb3.trans b4
        clear hb3 b4
        go_wp2_with fail
        refine (notes_any w.heap.size _ _ n1 (some ⟨h, 0, none⟩) 1 c rfl).mono ?_
        rintro e w' ⟨rfl, rfl⟩
        go_wp2_with fail
        go_ret
        exact ⟨by simp, hb4⟩
  · go_enter Try.func5, Try.ntmps5
    go_wp2_with fail
    refine (bytes17 a0 a1 _ w1).mono ?_
    rintro e w' ⟨rfl, rfl⟩
    rw [szOk_no ht]
    go_wp2_with fail
    all_goals go_ret
    all_goals exact ⟨by simp_all, by go_grown⟩

set_option maxRecDepth 100000 in
theorem lifted (os : Os) (started : os.Started) (H : Type) (enc : TypeId × Value → H) :
    ReturnsInHanded {} Try.checked os 5 .any (Rows.fnIncreaseThenDecreaseRestoresSpec.pre6 enc Try.prog Try.f5 Rows.fnIncreaseThenDecreaseRestoresRow.domain false) (Rows.fnIncreaseThenDecreaseRestoresSpec.post enc Try.prog Try.f5 false true false false) := by
  refine returnsInHanded_of_change (C := Try.checked) own started (by kernel_rfl) Try.func5
    (ChangeSpec.witness6 (enc := enc) (C := Try.checked) false ⟨#[], #[.int .i64 0, .string ⟨#[]⟩], []⟩ 8 (by kernel_rfl) (by kernel_rfl) (by kernel_rfl) (by kernel_rfl)) ?_
  intro W base args ds gs before hval0 hW hcnd _
  have hval : ∀ (j : Nat) t v, Try.f5.params[j]? = some t → args[j]? = some v → Value.okWide Try.prog W .any base t v := hval0
  have hW' := hW
  obtain ⟨p, q, hA0, hV, rfl, hfz, hnd⟩ := hW
  have hA : DataW.TrodAll enc Try.prog W 0 (fun _ => true) true Try.f5.params.toList args.toList ds p := hA0
  rw [Try.params5] at hA hval
  obtain ⟨v0, vs0, d0, ds0, p0, q0, hargs0, rfl, rfl, h0, r0⟩ := trodAll_cons hA
  obtain ⟨v1, vs1, d1, ds1, p1, q1, hargs1, rfl, rfl, h1, r1⟩ := trodAll_cons r0
  obtain ⟨rfl, rfl, rfl⟩ := trodAll_nil r1
  obtain rfl : args = #[v0, v1] := by cases args; simp_all
  obtain ⟨a0, rfl, rfl, rfl, w0⟩ := open_int Try.underlying3 (hval 0 3 v0 rfl rfl) h0
  obtain ⟨a1, rfl, rfl, rfl, w1⟩ := Go.ChangeMaps.open_string Try.underlying9 (hval 1 9 v1 rfl rfl) h1
  clear hA0 hval0
  refine (walk a0 a1 W w0 w1).mono fun e W' ⟨he, hg⟩ => ?_
  subst he
  exact ⟨_, rfl, law_post laid readEach rfl rfl Try.underlying4 ⟨rfl, rfl, rfl⟩ hW' hg⟩

theorem over : Rows.fnIncreaseThenDecreaseRestoresRow.holds Try.pinned (OpenSpec.ofChange Rows.fnIncreaseThenDecreaseRestoresSpec) :=
  OpenClaim.holds_of_wide 5 Try.f5 rfl rfl rfl rfl rfl rfl rfl ⟨rfl, rfl, rfl, rfl, rfl⟩ rfl rfl rfl rfl rfl (by kernel_rfl) Try.func5 (by kernel_rfl)
    (of_decide_eq_true (by kernel_rfl)) (by unfold Func.isWrapper; first | (rw [if_pos (by decide +kernel)]; kernel_rfl) | (rw [if_neg (by decide +kernel)]; exact ⟨rfl, rfl⟩))
    (fun os started H enc _ => lifted os started H enc)

/-- The statement. -/
theorem proved : Rows.FnIncreaseThenDecreaseRestoresSaid :=
  over
#print axioms proved
end Go.Proofs.Ytiaipcgidmaogac.fnIncreaseThenDecreaseRestores
