/-
  Proved: the law FnParseDataURLCharacterised of folder n011_65 returns true for every argument that its parameter types allow, and leaves its arguments as they were; there is no further condition.
-/
import Derived.Test.YtnegfigjmjgknacRows
import Derived.WalkKit
import Derived.ProofKit
import Derived.OpenShut
import Derived.Below
import Derived.Carry
import Derived.ChangeMaps5
import Derived.Handy
import Derived.Lib.Hide
import Derived.WalkSpells
import Derived.Deep.QuietTactic
import Derived.BigQuiet
import Derived.Test.YtnegfigjmjgknacUrl
namespace Go.Proofs.Ytnegfigjmjgknac.fnParseDataURLCharacterised
open Go.ChangeShapes Go.WideShapes Go.ChangeAt Go.RowKit
set_option linter.unusedVariables false

theorem own : ownKnob Try.prog.godebug = none := by kernel_rfl
theorem laid : laidOutB Try.prog = true := by kernel_rfl
theorem readAll : (Try.f5.params.toList.all fun t => Try.prog.readableRec t && decide (t < Try.prog.types.size)) = true := by kernel_rfl
theorem readEach : ∀ t ∈ Try.f5.params.toList, Try.prog.readableRec t = true ∧ t < Try.prog.types.size := fun t ht => by
  have := List.all_eq_true.1 readAll t ht
  simpa using this
section
variable {H : Type} {enc : TypeId × Value → H} {P : Program}
theorem trodAll_stays (hl : laidOutB P = true) {W W' : World} (hb : Below W.heap.size W W') {sp : Nat → Bool} : ∀ {ts : List TypeId} {vs : List Value} {ds : List (DataW H)} {ps : List MemPlace},
    (∀ t ∈ ts, P.readableRec t = true ∧ t < P.types.size) → DataW.TrodAll enc P W 0 (fun _ => true) true ts vs ds ps → (∀ p ∈ ps, p.block < W.heap.size) → (∀ p ∈ ps, sp p.block = true) → DataW.TrodAll enc P W' 0 sp true ts vs ds ps
  | [], [], [], _, _, h, _, _ => h
  | _ :: _, _ :: _, _ :: _, _, hT, ⟨p, q, h1, h2, e⟩, hlt, hs =>
    ⟨p, q, WideElems.Trod_stays hl (hT _ (List.mem_cons.2 (Or.inl rfl))).1 (hT _ (List.mem_cons.2 (Or.inl rfl))).2 h1 (fun x hx => hb.same (hlt x (by rw [e]; exact List.mem_append_left _ hx))) (fun x hx => hs x (by rw [e]; exact List.mem_append_left _ hx)),
      trodAll_stays hl hb (fun t ht => hT t (List.mem_cons.2 (Or.inr ht))) h2 (fun x hx => hlt x (by rw [e]; exact List.mem_append_right _ hx)) (fun x hx => hs x (by rw [e]; exact List.mem_append_right _ hx)), e⟩

/-- A law's step: the result is true, the arguments are kept, the world has changed in new blocks alone. -/
theorem law_post {f : Func} {s : ChangeSpec} {apart fresh handsOn again : Bool} {W W' : World} {args : Array Value} {ds gs : List (DataW H)} {before : List MemPlace} {tb : TypeId}
    (hl : laidOutB P = true) (hps : ∀ t ∈ f.params.toList, P.readableRec t = true ∧ t < P.types.size) (hv : s.vars = []) (hr : f.resultTypes = #[tb]) (ht : P.underlying tb = some .bool)
    (hs : (s.fn H (ds ++ [])).results = [.lit (.bool true)] ∧ (s.fn H (ds ++ [])).args = ds ∧ (s.fn H (ds ++ [])).vars = [])
    (hW : DataW.Whole enc P f.params.toList s.vars apart W args.toList ds gs before) (hb : Below W.heap.size W W') :
    s.post enc P f apart fresh handsOn again W args (.bool true) W' := by
  have hlt : ∀ p ∈ before, p.block < W.heap.size := fun p hp => hW.lt p hp
  have hold : ∀ p ∈ before, (fun b => decide (b < W.heap.size)) p.block = true := fun p hp => by simpa using hlt p hp
  have hW0 := hW
  obtain ⟨pa, pv, hA, hV, rfl, hz, hn⟩ := hW
  rw [hv] at hV
  obtain ⟨rfl, rfl⟩ := trodVars_none hV
  have hres : ∀ (b : Nat) (sp : Nat → Bool) (hd : Bool), DataW.TrodAll enc P W' b sp hd f.resultTypes.toList ((Value.bool true).resultList f.resultTypes.size) (s.fn H (ds ++ [])).results [] := fun b sp hd => by
    rw [hs.1, hr]; exact trodAll_cons_mk (shut_bool ht _) trodAll_mk0
  have hargs : ∀ sp : Nat → Bool, (∀ p ∈ pa ++ [], sp p.block = true) → DataW.TrodAll enc P W' 0 sp true f.params.toList args.toList (s.fn H (ds ++ [])).args pa := fun sp hsp => by
    rw [hs.2.1]; exact trodAll_stays hl hb hps hA (fun p hp => hlt p (by simpa using hp)) (fun p hp => hsp p (by simpa using hp))
  have hvars : ∀ sp : Nat → Bool, DataW.TrodVars enc P W' sp s.vars (s.fn H (ds ++ [])).vars [] := fun sp => by rw [hv, hs.2.2]; rfl
  refine ⟨ds, [], pa ++ [], [], pa, [], hW0, hres _ _ _, hargs _ hold, hvars _, World.keptBut_mono (fun p hp => ⟨hp, Or.inr (List.mem_append.1 hp)⟩) (hb.frame (· ∈ pa ++ [])), fun _ => ?_⟩
  refine ⟨?_, _, _, ([] ++ pa) ++ [], ⟨[] ++ pa, [], trodAll_append (hargs _ (fun _ _ => rfl)) (hres _ _ _), hvars _, rfl, ?_, ?_⟩, ?_⟩
  · intro j t r h1 h2
    rw [hr] at h1 h2
    match j, h1, h2 with
    | 0, h1, h2 =>
      obtain rfl : tb = t := by simpa using h1
      obtain rfl : Value.bool true = r := by simpa [Value.resultList] using h2
      exact okWide_bool_mk ht _
    | j + 1, h1, _ => simp at h1
  · intro b off hp
    have hp' : MemPlace.cell b off ∈ pa ++ [] := by simpa using hp
    rw [hb.frozen (hlt _ hp')]
    exact hz b off hp'
  · intro ha
    simpa using hn ha
  · intro p hp _
    simpa using hp
end

open Go.PlainAid Str Url
def pD : ByteArray := ⟨#[100, 97, 116, 97, 58]⟩
def pB : ByteArray := ⟨#[59, 98, 97, 115, 101, 54, 52]⟩
def pC : ByteArray := ⟨#[44]⟩
theorem parse_no (u : ByteArray) (hu : u.size ≤ 1048576) (w : World) (h : (preB u pD && hasB u 44) = false) :
    Calls Try.prog 19 #[.string u] w fun e w' => e = .returned (.tuple #[.agg #[.string ⟨#[]⟩, .string ⟨#[]⟩, .bool false], .bool false]) ∧ Below w.heap.size w w' := by
  cases hp : preB u pD
  · have hP := Lib.hid hp
    clear hp
    go_enter Try.func19, Try.ntmps19
    go_wp2_with fail
    refine (hasPrefix_any u pD _ (by unfold maxLen; omega) (by decide)).mono ?_
    rintro e w' ⟨rfl, rfl⟩
    rw [hP.out]
    go_wp2_with fail
    go_returns
    exact ⟨rfl, by go_grown⟩
  · have hP := Lib.hid hp
    have hh : hasB u 44 = false := by simpa [hp] using h
    have hi : firstIdx u ((44 : Int).toNat.toUInt8) = -1 := by
      rcases first_ways u 44 (by omega) with ⟨h1, h2⟩ | ⟨i, h1, h2, h3, h4, h5⟩
      · exact h1
      · rw [show ((44 : Nat) : Int) = 44 from rfl, hh] at h5; cases h5
    have hI := Lib.hid hi
    clear hp h hi hh
    go_enter Try.func19, Try.ntmps19
    go_wp2_with fail
    refine (hasPrefix_any u pD _ (by unfold maxLen; omega) (by decide)).mono ?_
    rintro e w' ⟨rfl, rfl⟩
    rw [hP.out]
    go_wp2_with fail
    refine (indexByte_any u 44 _).mono ?_
    rintro e w' ⟨rfl, rfl⟩
    rw [hI.out]
    go_wp2_with fail
    go_returns
    exact ⟨rfl, by go_grown⟩
set_option maxHeartbeats 1000000 in
theorem parse_yes (u : ByteArray) (hu : u.size ≤ 1048576) (w : World) (i : Nat) (m : ByteArray) (hM : Hid (u.extract 5 i = m)) (hp : preB u pD = true) (h5 : 5 ≤ i) (hlt : i < u.size) (hf : firstIdx u (44 : Nat).toUInt8 = i) :
    Calls Try.prog 19 #[.string u] w fun e w' => e = .returned (.tuple #[.agg #[.string (if sufB m pB then m.extract 0 (m.size - 7) else m), .string (u.extract (i + 1) u.size), .bool (sufB m pB)], .bool true]) ∧ Below w.heap.size w w' := by
  have hP := Lib.hid hp
  have hI := Lib.hid hf
  clear hp hf
  have hm : ((i : Int) != -1) = true := by simp
  have hsz' : m.size ≤ 1048576 := by rw [← hM.out, size_extract]; omega
  cases hs : sufB m pB
  · have hX := Lib.hid hs
    clear hs
    go_enter Try.func19, Try.ntmps19
    go_wp2_with fail
    refine (hasPrefix_any u pD _ (by unfold maxLen; omega) (by decide)).mono ?_
    rintro e w' ⟨rfl, rfl⟩
    rw [hP.out]
    go_wp2_with fail
    refine (indexByte_any u 44 _).mono ?_
    rintro e w' ⟨rfl, rfl⟩
    rw [show (44 : Int).toNat.toUInt8 = (44 : Nat).toUInt8 from rfl, hI.out]
    go_wp2_with fail
    rw [hM.out]
    refine (hasSuffix_any m pB _ (by unfold maxLen; omega) (by decide)).mono ?_
    rintro e w' ⟨rfl, rfl⟩
    rw [hX.out]
    go_wp2_with fail
    go_returns
    exact ⟨rfl, by go_grown⟩
  · have hX := Lib.hid hs
    have h7 : 7 ≤ m.size := ((sufB_iff _ _).1 hs).1
    clear hs
    go_enter Try.func19, Try.ntmps19
    go_wp2_with fail
    refine (hasPrefix_any u pD _ (by unfold maxLen; omega) (by decide)).mono ?_
    rintro e w' ⟨rfl, rfl⟩
    rw [hP.out]
    go_wp2_with fail
    refine (indexByte_any u 44 _).mono ?_
    rintro e w' ⟨rfl, rfl⟩
    rw [show (44 : Int).toNat.toUInt8 = (44 : Nat).toUInt8 from rfl, hI.out]
    go_wp2_with fail
    rw [hM.out]
    refine (hasSuffix_any m pB _ (by unfold maxLen; omega) (by decide)).mono ?_
    rintro e w' ⟨rfl, rfl⟩
    rw [hX.out]
    go_wp2_with fail
    go_returns
    exact ⟨rfl, by go_grown⟩
theorem fields_any (m d : ByteArray) (b : Bool) (w : World) : Calls Try.prog 20 #[.agg #[.string m, .string d, .bool b]] w fun e w' => e = .returned (.tuple #[.string m, .string d, .bool b]) ∧ Below w.heap.size w w' := by
  go_enter Try.func20, Try.ntmps20
  go_wp2
  go_quiet (fail)
  go_wp2
  go_ret3
  exact ⟨rfl, ⟨rfl, rfl, rfl, by simp, fun k hk => Below.heap_alloc w _ k hk⟩⟩
theorem below_drewN {B : Nat} {a w : World} (h : Below B a w) (n : Nat) : Below B a (w.drewN n) := ⟨h.os, h.tape, h.output, h.size, h.block⟩
theorem pre_list {s p : ByteArray} (h : preB s p = true) : s.data.toList.take p.size = p.data.toList := by
  unfold preB at h
  rw [Bool.and_eq_true, decide_eq_true_eq, decide_eq_true_eq] at h
  have := congrArg (fun x : ByteArray => x.data.toList) h.2
  simpa only [extract_list, List.drop_zero] using this
theorem suf_list {s p : ByteArray} (h : sufB s p = true) : s.data.toList.drop (s.size - p.size) = p.data.toList ∧ p.size ≤ s.size := by
  unfold sufB at h
  rw [Bool.and_eq_true, decide_eq_true_eq, decide_eq_true_eq] at h
  have := congrArg (fun x : ByteArray => x.data.toList) h.2
  refine ⟨?_, h.1⟩
  simp only [extract_list] at this
  rwa [List.take_of_length_le (by simp)] at this
theorem split_at (u pD pC : ByteArray) (i : Nat) (e0 : pD.size = 5) (ec : pC.data.toList = [44]) (hp : preB u pD = true) (h5 : 5 ≤ i) (hlt : i < u.size) (hc : bt u i = 44) :
    ((pD ++ u.extract 5 i) ++ pC) ++ u.extract (i + 1) u.size = u := by
  refine list_inj ?_
  simp only [append_list, extract_list, ec]
  have h1 := pre_list hp
  rw [e0] at h1
  have hl : i < u.data.toList.length := by simpa using hlt
  have hg : u.data.toList[i] = 44 := by
    rw [bt_get u i hlt] at hc
    refine UInt8.toNat_inj.1 ?_
    show u[i].toNat = 44
    omega
  rw [← h1, List.take_of_length_le (l := u.data.toList) (i := u.size) (by simp)]
  generalize u.data.toList = l at *
  have h2 : l.take 5 ++ (l.take i).drop 5 = l.take i := by
    have := List.take_append_drop 5 (l.take i)
    rwa [List.take_take, Nat.min_eq_left h5] at this
  rw [h2, ← hg]
  have h3 := List.take_append_drop i l
  rw [List.drop_eq_getElem_cons hl] at h3
  rw [List.append_assoc, List.singleton_append]
  exact h3
theorem split_b (m pB : ByteArray) (e1 : pB.size = 7) (h : sufB m pB = true) : m.extract 0 (m.size - 7) ++ pB = m := by
  obtain ⟨h1, h2⟩ := suf_list h
  refine list_inj ?_
  rw [append_list, extract_list, ← h1, List.drop_zero, e1]
  exact List.take_append_drop _ _
set_option maxRecDepth 100000 in
set_option maxHeartbeats 4000000 in
theorem walk (a0 : ByteArray) (w0 : a0.size ≤ maxLen) (w : World) :
    Calls Try.prog 5 #[.string a0] w fun e w' => e = .returned (.bool true) ∧ Below w.heap.size w w' := by
  by_cases hu : a0.size ≤ 1048576
  · have hd : decide (a0.size ≤ 1048576) = true := by simp [hu]
    have hmx : a0.size ≤ maxLen := by unfold maxLen; omega
    cases hw : (preB a0 pD && hasB a0 44)
    · go_enter Try.func5, Try.ntmps5
      go_wp2_with fail
      refine (size_ok a0 _).mono ?_
      rintro e w' ⟨rfl, rfl⟩
      rw [hd]
      go_wp2_with fail
      refine (parse_no a0 hu _ hw).mono ?_
      rintro e w1 ⟨rfl, hb1⟩
      go_wp2_with fail
      refine (fields_any _ _ _ _).mono ?_
      rintro e w2 ⟨rfl, hb2⟩
      have hb : Below w.heap.size w w2 := by
        refine (hb1.alloc hb1.size _).trans (hb2.mono ?_)
        have := hb1.size
        simp; omega
      clear hb1 hb2
      go_wp2_with fail
      refine (zzHasPrefix_any a0 pD _ hmx (by decide)).mono ?_
      rintro e w3 ⟨rfl, n, rfl⟩
      have hb := below_drewN hb n
      cases hp : preB a0 pD
      · clear hw
        go_wp2_with fail
        go_ret
        exact ⟨rfl, hb⟩
      · have hh : hasB a0 44 = false := by simpa [hp] using hw
        clear hw
        go_wp2_with fail
        refine (zzHasByte_any a0 44 _ hmx).mono ?_
        rintro e w3 ⟨rfl, rfl⟩
        rw [hh]
        go_wp2_with fail
        go_ret
        exact ⟨rfl, hb⟩
    · have hp : preB a0 pD = true := by revert hw; cases preB a0 pD <;> simp
      have hh : hasB a0 44 = true := by simpa [hp] using hw
      have hpre := (preB_iff a0 pD).1 hp
      obtain ⟨i, hlt, hfi, hci, hno⟩ : ∃ i : Nat, i < a0.size ∧ firstIdx a0 (44 : Nat).toUInt8 = i ∧ bt a0 i = 44 ∧ ∀ j, j < i → bt a0 j ≠ 44 := by
        rcases first_ways a0 44 (by omega) with ⟨h1, h2⟩ | ⟨i, h1, h2, h3, h4, _⟩
        · rw [show ((44 : Nat) : Int) = 44 from rfl, hh] at h2; cases h2
        · exact ⟨i, h1, h2, h3, h4⟩
      have h5 : 5 ≤ i := by
        rcases Nat.lt_or_ge i 5 with h | h
        · have hpi := hpre.2 i h
          rw [hci] at hpi
          have key : ∀ k : Nat, k < 5 → bt pD k ≠ 44 := by decide +kernel
          exact absurd hpi.symm (key i h)
        · exact h
      clear hw hpre
      have hP := Lib.hid hp
      have hH := Lib.hid hh
      generalize hme : a0.extract 5 i = m
      have hM := Lib.hid hme
      have hms : m.size = i - 5 := by rw [← hme, size_extract]; omega
      have hmb : ∀ k, k < i - 5 → bt m k ≠ 44 := fun k hk => by rw [← hme, bt_extract _ _ _ _ (by omega)]; exact hno _ (by omega)
      generalize hde : a0.extract (i + 1) a0.size = d
      have hD := Lib.hid hde
      cases hs : sufB m pB
      · have hn : hasB m 44 = false := (hasB_no m 44).2 fun k hk => hmb k (by omega)
        have hr : ((pD ++ m) ++ pC) ++ d = a0 := by rw [← hme, ← hde]; exact split_at a0 pD pC i rfl rfl hp h5 hlt hci
        have hmm : m.size ≤ 1048576 := by omega
        have hdd : d.size ≤ 1048576 := by rw [← hde, size_extract]; omega
        have hS := Lib.hid hs
        have hN := Lib.hid hn
        have hR := Lib.hid hr
        clear hr hn hmb hno hci hh hp hme hde hs
        go_enter Try.func5, Try.ntmps5
        go_wp2_with fail
        refine (size_ok a0 _).mono ?_
        rintro e w' ⟨rfl, rfl⟩
        rw [hd]
        go_wp2_with fail
        refine (parse_yes a0 hu _ i m hM hP.out h5 hlt hfi).mono ?_
        rintro e w1 ⟨rfl, hb1⟩
        rw [hS.out, hD.out]
        clear hfi hms hM
        simp only [Bool.false_eq_true, if_false]
        obtain ⟨m', rfl⟩ : ∃ m' : ByteArray, m' = m := ⟨m, rfl⟩
        have hms' : m'.size ≤ maxLen := by unfold maxLen; omega
        go_wp2_with fail
        refine (fields_any _ _ _ _).mono ?_
        rintro e w2 ⟨rfl, hb2⟩
        have hb : Below w.heap.size w w2 := by
          refine (hb1.alloc hb1.size _).trans (hb2.mono ?_)
          have := hb1.size
          simp; omega
        clear hb1 hb2
        go_wp2_with fail
        refine (zzHasPrefix_any a0 pD _ hmx (by decide)).mono ?_
        rintro e w3 ⟨rfl, n, rfl⟩
        rw [hP.out]
        have hb := below_drewN hb n
        go_wp2_with fail
        refine (zzHasByte_any a0 44 _ hmx).mono ?_
        rintro e w3 ⟨rfl, rfl⟩
        rw [hH.out]
        go_wp2_with fail
        refine (zzHasByte_any m' 44 _ hms').mono ?_
        rintro e w3 ⟨rfl, rfl⟩
        rw [hN.out]
        go_wp2_with fail
        refine (zzHasSuffix_any m' pB _ hms' (by decide)).mono ?_
        rintro e w3 ⟨rfl, n2, rfl⟩
        rw [hS.out]
        have hb := below_drewN hb n2
        go_wp2_with fail
        go_ret
        refine ⟨?_, by first | exact hb | (rw [World.drewN_drewN] at hb; exact hb)⟩
        refine congrArg (fun b => Ending.returned (.bool b)) ?_
        rw [toList_beq]
        exact decide_eq_true hR.out
      · have hn : hasB (m.extract 0 (m.size - 7)) 44 = false := (hasB_no _ 44).2 fun k hk => by
          rw [size_extract] at hk
          rw [bt_extract _ _ _ _ (by omega), Nat.zero_add]
          exact hmb k (by omega)
        have hr : (((pD ++ m.extract 0 (m.size - 7)) ++ pB) ++ pC) ++ d = a0 := by
          have hx := split_b m pB rfl hs
          have hy : ((pD ++ m) ++ pC) ++ d = a0 := by rw [← hme, ← hde]; exact split_at a0 pD pC i rfl rfl hp h5 hlt hci
          have hz : (pD ++ m.extract 0 (m.size - 7)) ++ pB = pD ++ m := by
            refine list_inj ?_
            have := congrArg (fun x : ByteArray => x.data.toList) hx
            simp only [append_list] at this ⊢
            rw [List.append_assoc, this]
          rw [hz, hy]
        have hmm : (m.extract 0 (m.size - 7)).size ≤ 1048576 := by rw [size_extract]; omega
        have hdd : d.size ≤ 1048576 := by rw [← hde, size_extract]; omega
        have hS := Lib.hid hs
        have hN := Lib.hid hn
        have hR := Lib.hid hr
        clear hr hn hmb hno hci hh hp hme hde hs
        go_enter Try.func5, Try.ntmps5
        go_wp2_with fail
        refine (size_ok a0 _).mono ?_
        rintro e w' ⟨rfl, rfl⟩
        rw [hd]
        go_wp2_with fail
        refine (parse_yes a0 hu _ i m hM hP.out h5 hlt hfi).mono ?_
        rintro e w1 ⟨rfl, hb1⟩
        rw [hS.out, hD.out]
        clear hfi hms hM
        simp only [if_true]
        clear hS
        generalize m.extract 0 (m.size - 7) = m' at *
        have hms' : m'.size ≤ maxLen := by unfold maxLen; omega
        go_wp2_with fail
        refine (fields_any _ _ _ _).mono ?_
        rintro e w2 ⟨rfl, hb2⟩
        have hb : Below w.heap.size w w2 := by
          refine (hb1.alloc hb1.size _).trans (hb2.mono ?_)
          have := hb1.size
          simp; omega
        clear hb1 hb2
        go_wp2_with fail
        refine (zzHasPrefix_any a0 pD _ hmx (by decide)).mono ?_
        rintro e w3 ⟨rfl, n, rfl⟩
        rw [hP.out]
        have hb := below_drewN hb n
        go_wp2_with fail
        refine (zzHasByte_any a0 44 _ hmx).mono ?_
        rintro e w3 ⟨rfl, rfl⟩
        rw [hH.out]
        go_wp2_with fail
        refine (zzHasByte_any m' 44 _ hms').mono ?_
        rintro e w3 ⟨rfl, rfl⟩
        rw [hN.out]
        go_wp2_with fail
        go_ret
        refine ⟨?_, by first | exact hb | (rw [World.drewN_drewN] at hb; exact hb)⟩
        refine congrArg (fun b => Ending.returned (.bool b)) ?_
        rw [toList_beq]
        exact decide_eq_true hR.out
  · have hd : decide (a0.size ≤ 1048576) = false := by simp; omega
    go_enter Try.func5, Try.ntmps5
    go_wp2_with fail
    refine (size_ok a0 _).mono ?_
    rintro e w' ⟨rfl, rfl⟩
    rw [hd]
    go_wp2_with fail
    go_ret
    exact ⟨rfl, by go_grown⟩

set_option maxRecDepth 100000 in
theorem lifted (os : Os) (started : os.Started) (H : Type) (enc : TypeId × Value → H) :
    ReturnsInHanded {} Try.checked os 5 .any (Rows.fnParseDataURLCharacterisedSpec.pre6 enc Try.prog Try.f5 Rows.fnParseDataURLCharacterisedRow.domain false) (Rows.fnParseDataURLCharacterisedSpec.post enc Try.prog Try.f5 false true false false) := by
  refine returnsInHanded_of_change (C := Try.checked) own started (by kernel_rfl) Try.func5
    (ChangeSpec.witness6 (enc := enc) (C := Try.checked) false ⟨#[], #[.string ⟨#[]⟩], []⟩ 8 (by kernel_rfl) (by kernel_rfl) (by kernel_rfl) (by kernel_rfl)) ?_
  intro W base args ds gs before hval0 hW hcnd _
  have hval : ∀ (j : Nat) t v, Try.f5.params[j]? = some t → args[j]? = some v → Value.okWide Try.prog W .any base t v := hval0
  have hW' := hW
  obtain ⟨p, q, hA0, hV, rfl, hfz, hnd⟩ := hW
  have hA : DataW.TrodAll enc Try.prog W 0 (fun _ => true) true Try.f5.params.toList args.toList ds p := hA0
  rw [Try.params5] at hA hval
  obtain ⟨v0, vs0, d0, ds0, p0, q0, hargs0, rfl, rfl, h0, r0⟩ := trodAll_cons hA
  obtain ⟨rfl, rfl, rfl⟩ := trodAll_nil r0
  obtain rfl : args = #[v0] := by cases args; simp_all
  obtain ⟨a0, rfl, rfl, rfl, w0⟩ := Go.ChangeMaps.open_string Try.underlying9 (hval 0 9 v0 rfl rfl) h0
  clear hA0 hval0
  refine (walk a0 w0 W).mono fun e W' ⟨he, hg⟩ => ?_
  subst he
  exact ⟨_, rfl, law_post laid readEach rfl rfl Try.underlying4 ⟨rfl, rfl, rfl⟩ hW' hg⟩

theorem over : Rows.fnParseDataURLCharacterisedRow.holds Try.pinned (OpenSpec.ofChange Rows.fnParseDataURLCharacterisedSpec) :=
  OpenClaim.holds_of_wide 5 Try.f5 rfl rfl rfl rfl rfl rfl rfl ⟨rfl, rfl, rfl, rfl, rfl⟩ rfl rfl rfl rfl rfl (by kernel_rfl) Try.func5 (by kernel_rfl)
    (of_decide_eq_true (by kernel_rfl)) (by unfold Func.isWrapper; first | (rw [if_pos (by decide +kernel)]; kernel_rfl) | (rw [if_neg (by decide +kernel)]; exact ⟨rfl, rfl⟩))
    (fun os started H enc _ => lifted os started H enc)

/-- The statement. -/
theorem proved : Rows.FnParseDataURLCharacterisedSaid :=
  over
#print axioms proved
end Go.Proofs.Ytnegfigjmjgknac.fnParseDataURLCharacterised
