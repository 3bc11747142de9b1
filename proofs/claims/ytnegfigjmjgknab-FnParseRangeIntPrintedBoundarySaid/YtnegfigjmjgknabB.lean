/-
  Proved: the law FnParseRangeIntPrintedBoundary of folder n011_7 returns true for every argument that its parameter types allow, and leaves its arguments as they were; there is no further condition.
-/
import Derived.Test.YtnegfigjmjgknabRows
import Derived.WalkKit
import Derived.ProofKit
import Derived.OpenShut
import Derived.Below
import Derived.Carry
import Derived.ChangeMaps5
import Derived.Handy
import Derived.Lib.Hide
import Derived.WalkSpells
import Derived.OwnWalk
import Derived.Test.YtnegfigjmjgknabDec
namespace Go.Proofs.Ytnegfigjmjgknab.fnParseRangeIntPrintedBoundary
open Go.ChangeShapes Go.WideShapes Go.ChangeAt Go.RowKit
set_option linter.unusedVariables false

theorem own : ownKnob Try.prog.godebug = none := by kernel_rfl
theorem laid : laidOutB Try.prog = true := by kernel_rfl
theorem readAll : (Try.f4.params.toList.all fun t => Try.prog.readableRec t && decide (t < Try.prog.types.size)) = true := by kernel_rfl
theorem readEach : ∀ t ∈ Try.f4.params.toList, Try.prog.readableRec t = true ∧ t < Try.prog.types.size := fun t ht => by
  have := List.all_eq_true.1 readAll t ht
  simpa using this
section
variable {H : Type} {enc : TypeId × Value → H} {P : Program}
theorem trodAll_stays (hl : laidOutB P = true) {W W' : World} (hb : Below W.heap.size W W') {sp : Nat → Bool} : ∀ {ts : List TypeId} {vs : List Value} {ds : List (DataW H)} {ps : List MemPlace},
    (∀ t ∈ ts, P.readableRec t = true ∧ t < P.types.size) → DataW.TrodAll enc P W 0 (fun _ => true) true ts vs ds ps → (∀ p ∈ ps, p.block < W.heap.size) → (∀ p ∈ ps, sp p.block = true) → DataW.TrodAll enc P W' 0 sp true ts vs ds ps
  | [], [], [], _, _, h, _, _ => h
  | _ :: _, _ :: _, _ :: _, _, hT, ⟨p, q, h1, h2, e⟩, hlt, hs =>
    ⟨p, q, WideElems.Trod_stays hl (hT _ (List.mem_cons.2 (Or.inl rfl))).1 (hT _ (List.mem_cons.2 (Or.inl rfl))).2 h1 (fun x hx => hb.same (hlt x (by rw [e]; exact List.mem_append_left _ hx))) (fun x hx => hs x (by rw [e]; exact List.mem_append_left _ hx)),
      trodAll_stays hl hb (fun t ht => hT t (List.mem_cons.2 (Or.inr ht))) h2 (fun x hx => hlt x (by rw [e]; exact List.mem_append_right _ hx)) (fun x hx => hs x (by rw [e]; exact List.mem_append_right _ hx)), e⟩

/-- A law's step: the result is true, the arguments are kept, the world has changed in new blocks alone. -/
theorem law_post {f : Func} {s : ChangeSpec} {apart fresh handsOn again : Bool} {W W' : World} {args : Array Value} {ds gs : List (DataW H)} {before : List MemPlace} {tb : TypeId}
    (hl : laidOutB P = true) (hps : ∀ t ∈ f.params.toList, P.readableRec t = true ∧ t < P.types.size) (hv : s.vars = []) (hr : f.resultTypes = #[tb]) (ht : P.underlying tb = some .bool)
    (hs : (s.fn H (ds ++ [])).results = [.lit (.bool true)] ∧ (s.fn H (ds ++ [])).args = ds ∧ (s.fn H (ds ++ [])).vars = [])
    (hW : DataW.Whole enc P f.params.toList s.vars apart W args.toList ds gs before) (hb : Below W.heap.size W W') :
    s.post enc P f apart fresh handsOn again W args (.bool true) W' := by
  have hlt : ∀ p ∈ before, p.block < W.heap.size := fun p hp => hW.lt p hp
  have hold : ∀ p ∈ before, (fun b => decide (b < W.heap.size)) p.block = true := fun p hp => by simpa using hlt p hp
  have hW0 := hW
  obtain ⟨pa, pv, hA, hV, rfl, hz, hn⟩ := hW
  rw [hv] at hV
  obtain ⟨rfl, rfl⟩ := trodVars_none hV
  have hres : ∀ (b : Nat) (sp : Nat → Bool) (hd : Bool), DataW.TrodAll enc P W' b sp hd f.resultTypes.toList ((Value.bool true).resultList f.resultTypes.size) (s.fn H (ds ++ [])).results [] := fun b sp hd => by
    rw [hs.1, hr]; exact trodAll_cons_mk (shut_bool ht _) trodAll_mk0
  have hargs : ∀ sp : Nat → Bool, (∀ p ∈ pa ++ [], sp p.block = true) → DataW.TrodAll enc P W' 0 sp true f.params.toList args.toList (s.fn H (ds ++ [])).args pa := fun sp hsp => by
    rw [hs.2.1]; exact trodAll_stays hl hb hps hA (fun p hp => hlt p (by simpa using hp)) (fun p hp => hsp p (by simpa using hp))
  have hvars : ∀ sp : Nat → Bool, DataW.TrodVars enc P W' sp s.vars (s.fn H (ds ++ [])).vars [] := fun sp => by rw [hv, hs.2.2]; rfl
  refine ⟨ds, [], pa ++ [], [], pa, [], hW0, hres _ _ _, hargs _ hold, hvars _, World.keptBut_mono (fun p hp => ⟨hp, Or.inr (List.mem_append.1 hp)⟩) (hb.frame (· ∈ pa ++ [])), fun _ => ?_⟩
  refine ⟨?_, _, _, ([] ++ pa) ++ [], ⟨[] ++ pa, [], trodAll_append (hargs _ (fun _ _ => rfl)) (hres _ _ _), hvars _, rfl, ?_, ?_⟩, ?_⟩
  · intro j t r h1 h2
    rw [hr] at h1 h2
    match j, h1, h2 with
    | 0, h1, h2 =>
      obtain rfl : tb = t := by simpa using h1
      obtain rfl : Value.bool true = r := by simpa [Value.resultList] using h2
      exact okWide_bool_mk ht _
    | j + 1, h1, _ => simp at h1
  · intro b off hp
    have hp' : MemPlace.cell b off ∈ pa ++ [] := by simpa using hp
    rw [hb.frozen (hlt _ hp')]
    exact hz b off hp'
  · intro ha
    simpa using hn ha
  · intro p hp _
    simpa using hp
end

open Go.PlainAid Str Mem Dec
theorem info5 : (Try.prog.info? 5).map (fun i => (i.zero, i.size, i.bytes)) = some (some (.int .u8 0), 1, 1) := by kernel_rfl
theorem mk32 (n : Nat) (h : n ≤ 100000) (x : Int) (hx : x = n) (w : World) : (Instr.makeSlice 32 (.int .i64 0) (.int .i64 x)).run Try.prog w = .ok (.slice (some ⟨w.heap.size, 0, none⟩) 0 n) (w.alloc (.cells (madeCells #[.int .u8 0] (n * 1)) 5)) := by
  subst hx
  exact run_mkc (P := Try.prog) 32 5 _ _ rfl _ _ Try.underlying32 info5 0 n (by omega) (by omega) (by omega) w
theorem one_int (c : Int) : ∀ u ∈ [Value.int .u8 c], u.oneCell' = true := by
  intro u hu
  simp at hu
  subst hu
  rfl
theorem cell_one_at (w : World) (v : Value) (t : TypeId) (b : Nat) (hb : w.heap.size = b) : ∀ j u, [v][j]? = some u → (w.alloc (.cells #[v] t)).cell? ((⟨b, 0, none⟩ : Addr).add j) = some u := by
  subst hb
  exact cell_one_new _ _ _
def zs (z : Nat) (D : List Int) : List Int := List.replicate z 48 ++ D
def bytesV (l : List Int) : List Value := l.map (Value.int .u8)
theorem bytesV_snoc (l : List Int) (c : Int) : bytesV (l ++ [c]) = bytesV l ++ [.int .u8 c] := by simp [bytesV]
theorem val_zeros (z : Nat) : valF 0 (List.replicate z 48) = 0 := by
  induction z with
  | zero => rfl
  | succ z ih => rw [List.replicate_succ, valF_cons]; exact ih
set_option maxRecDepth 100000 in
set_option maxHeartbeats 4000000 in
theorem walk (a0 : Int) (a1 : Int) (a2 : Int) (w : World) (w0 : (Lit.int .i64 a0).wf = true) (w1 : (Lit.int .i64 a1).wf = true) (w2 : (Lit.int .i64 a2).wf = true) :
    Calls Try.prog 4 #[.int .i64 a0, .int .i64 a1, .int .i64 a2] w fun e w' => e = .returned (.bool true) ∧ Below w.heap.size w w' := by
  have h0 : -9223372036854775808 ≤ a0 ∧ a0 ≤ 9223372036854775807 := by simpa [Lit.wf, IntKind.min, IntKind.max, IntKind.signed, IntKind.bits] using w0
  have h1 : -9223372036854775808 ≤ a1 ∧ a1 ≤ 9223372036854775807 := by simpa [Lit.wf, IntKind.min, IntKind.max, IntKind.signed, IntKind.bits] using w1
  have h2 : -9223372036854775808 ≤ a2 ∧ a2 ≤ 9223372036854775807 := by simpa [Lit.wf, IntKind.min, IntKind.max, IntKind.signed, IntKind.bits] using w2
  clear w0 w1 w2
  by_cases c1 : a1 < 0
  · go_enter Try.func4, Try.ntmps4
    go_wp2_with fail
    all_goals go_ret
    all_goals exact ⟨by simp_all, by go_grown⟩
  by_cases c2 : 4096 < a1
  · go_enter Try.func4, Try.ntmps4
    go_wp2_with fail
    all_goals go_ret
    all_goals exact ⟨by simp_all, by go_grown⟩
  by_cases c3 : 214748363 < a2
  · go_enter Try.func4, Try.ntmps4
    go_wp2_with fail
    all_goals go_ret
    all_goals exact ⟨by simp_all, by go_grown⟩
  by_cases c4 : a0 < 0
  · go_enter Try.func4, Try.ntmps4
    go_wp2_with fail
    all_goals go_ret
    all_goals exact ⟨by simp_all, by go_grown⟩
  by_cases c5 : a2 < a0
  · go_enter Try.func4, Try.ntmps4
    go_wp2_with fail
    all_goals go_ret
    all_goals exact ⟨by simp_all, by go_grown⟩
  obtain ⟨z, rfl⟩ := Int.eq_ofNat_of_zero_le (show 0 ≤ a1 by omega)
  have hz : z ≤ 4096 := by omega
  have t1 : decide ((z : Int) < 0) = false := by simp only [decide_eq_false_iff_not]; omega
  have t2 : decide ((4096 : Int) < (z : Int)) = false := by simp only [decide_eq_false_iff_not]; omega
  have t3 : decide ((214748363 : Int) < a2) = false := by simp only [decide_eq_false_iff_not]; omega
  have t4 : decide (a0 < 0) = false := by simp only [decide_eq_false_iff_not]; omega
  have t5 : decide (a2 < a0) = false := by simp only [decide_eq_false_iff_not]; omega
  go_enter Try.func4, Try.ntmps4
  go_wp2_with fail
  refine (itoa_any a0 (by omega) (by omega) _).mono ?_
  rintro e w1 ⟨D, rfl, dne, dlen, dg, dval, b1⟩
  have HDG := Lib.hid dg
  have HDV := Lib.hid dval
  have HDN := Lib.hid dne
  have hsz := strOfNums_size D
  have HSZ := Lib.hid hsz
  clear dg dval dne hsz
  generalize hs : strOfNums D = s at *
  have HS := Lib.hid hs
  clear hs
  have hss : s.size ≤ 24 := by rw [HSZ.out]; exact dlen
  have hmk := mk32 (z + s.size) (by omega) ((z : Int) + (s.size : Int)) (by omega)
  go_wp2_with fail
  obtain ⟨i0, hi, hz0, hz1, hz2⟩ := info_parts info5
  have cap : z + s.size ≤ 100000 := by omega
  go_loopw [8, 9] (fun v i wr => ∃ k : Nat, k ≤ z ∧ i = .int .i64 k ∧ v = .slice (some ⟨w1.heap.size, 0, none⟩) k (z + s.size) ∧ wr.ownsRow w1.heap.size 5 1 (.slice (some ⟨w1.heap.size, 0, none⟩) k (z + s.size)) k (bytesV (List.replicate k 48)) ∧ Below w1.heap.size w1 wr) (fun _ i _ => z - (intOf i).toNat)
  case atStart => exact ⟨0, by omega, rfl, rfl, World.ownsRow_made w1 _ _ (Nat.le_refl _) (by unfold maxLen; omega) (by rw [size_madeCells, Nat.mul_one]), by go_grown⟩
  case round =>
    clear hmk
    obtain ⟨k, hk, rfl, rfl, hown, hb⟩ := hrel
    have hbz := hb.size
    by_cases hlt : k < z
    · have hlt2 : k + 1 ≤ z + s.size := by omega
      go_wp2_with (at_builtin; (refine wpList_append_fits _ rfl _ _ 32 rfl w1.heap.size 5 i0 1 Try.underlying32 hi hz1 w1.heap.size k (z + s.size) _ rfl (hown.alloc _) ⟨wr.heap.size, 0, none⟩ 1 1 [.int .u8 48] rfl rfl (cell_one_at _ _ _ _ rfl) (one_int _) hlt2 ?_))
      intro w3 hown3 hg3
      have hb3 : Below w1.heap.size w1 w3 := (hb.alloc hbz _).grown hg3 (by simp; omega) (by simp)
      have HO : Hid (w3.ownsRow w1.heap.size 5 1 (.slice (some ⟨w1.heap.size, 0, none⟩) (k + 1) (z + s.size)) (k + 1) (bytesV (List.replicate (k + 1) 48))) := by
        refine Lib.hid ?_
        rw [List.replicate_succ', bytesV_snoc]; exact hown3
      clear hown3 hown hg3 hb
      go_wp2_with fail
      first
      | exact ⟨⟨k + 1, by omega, by go_num, rfl, HO.out, hb3⟩, by simp [intOf]; omega⟩
      | (refine ⟨?_, by simp [intOf]; omega⟩; (repeat apply Exists.intro); exact ⟨⟨k + 1, by omega, by go_num, rfl, HO.out, hb3⟩, rfl⟩)
    · obtain rfl : z = k := by omega
      go_wp2_with fail
      go_loopw [8, 10] (fun v i wr => ∃ k : Nat, k ≤ s.size ∧ i = .int .i64 k ∧ v = .slice (some ⟨w1.heap.size, 0, none⟩) (z + k) (z + s.size) ∧ wr.ownsRow w1.heap.size 5 1 (.slice (some ⟨w1.heap.size, 0, none⟩) (z + k) (z + s.size)) (z + k) (bytesV (List.replicate z 48 ++ D.take k)) ∧ Below w1.heap.size w1 wr) (fun _ i _ => s.size - (intOf i).toNat)
      case atStart => exact ⟨0, by omega, rfl, rfl, by rw [List.take_zero, List.append_nil]; exact hown, hb⟩
      case round =>
        clear hown hb hbz
        obtain ⟨k, hk, rfl, rfl, hown, hb⟩ := hrel
        have hbz := hb.size
        by_cases hlt : k < s.size
        · have hkD : k < D.length := by have := HSZ.out; omega
          have hby : ((s[k]'hlt).toNat : Int) = D[k] := by
            have e := HS.out
            subst e
            exact (byte_at D HDG.out k hkD hlt).1
          have hdk := HDG.out D[k] (List.getElem_mem hkD)
          have hlt2 : z + k + 1 ≤ z + s.size := by omega
          have HT := Lib.hid (List.take_succ_eq_append_getElem hkD)
          generalize D[k] = c at *
          go_wp2_with (at_builtin; (refine wpList_append_fits _ rfl _ _ 32 rfl w1.heap.size 5 i0 1 Try.underlying32 hi hz1 w1.heap.size (z + k) (z + s.size) _ rfl (hown.alloc _) ⟨wr.heap.size, 0, none⟩ 1 1 [.int .u8 c] rfl rfl (cell_one_at _ _ _ _ rfl) (one_int _) hlt2 ?_))
          intro w3 hown3 hg3
          have hb3 : Below w1.heap.size w1 w3 := (hb.alloc hbz _).grown hg3 (by simp; omega) (by simp)
          have HO : Hid (w3.ownsRow w1.heap.size 5 1 (.slice (some ⟨w1.heap.size, 0, none⟩) (z + (k + 1)) (z + s.size)) (z + (k + 1)) (bytesV (List.replicate z 48 ++ D.take (k + 1)))) := by
            refine Lib.hid ?_
            rw [HT.out, ← List.append_assoc, bytesV_snoc]; exact hown3
          clear hown3 hown hg3 hb hby
          go_wp2_with fail
          first
          | exact ⟨⟨k + 1, by omega, by go_num, rfl, HO.out, hb3⟩, by simp [intOf]; omega⟩
          | (refine ⟨?_, by simp [intOf]; omega⟩; (repeat apply Exists.intro); exact ⟨⟨k + 1, by omega, by go_num, rfl, HO.out, hb3⟩, rfl⟩)
        · obtain rfl : s.size = k := by omega
          have hDl : D.take s.size = D := List.take_of_length_le (by have := HSZ.out; omega)
          rw [hDl] at hown
          have hlenE : (List.replicate z 48 ++ D).length = z + s.size := by rw [List.length_append, List.length_replicate]; have := HSZ.out; omega
          have hpos : 0 < D.length := by
            have := HDN.out
            cases D with
            | nil => exact absurd rfl this
            | cons d D => simp
          have hcells : ∀ j, j < z + s.size → wr.cell? ⟨w1.heap.size, 0 + j, none⟩ = some (.int .u8 ((List.replicate z 48 ++ D).getD j 0)) := by
            obtain ⟨b, off, hA, _, hc⟩ := (Rd.of_own (d := .int .u8 0) hown).of (by have := HSZ.out; omega)
            injection hA with hA
            injection hA with e1 e2
            subst e1
            subst e2
            intro j hj
            rw [hc j (by omega)]
            have hj' : j < (List.replicate z 48 ++ D).length := by omega
            simp only [bytesV, List.getD_eq_getElem?_getD, List.getElem?_map, List.getElem?_eq_getElem hj', Option.map_some, Option.getD_some]
          have hcv := run_convert_bytes_arg (P := Try.prog) wr 32 5 Try.underlying32 Try.underlying5 w1.heap.size 0 (z + s.size) (z + s.size) (List.replicate z 48 ++ D) hlenE hcells 9 Try.underlying9
          have hdE : digs (List.replicate z 48 ++ D) := by
            intro d hd
            rcases List.mem_append.1 hd with hd | hd
            · rw [List.mem_replicate] at hd; omega
            · exact HDG.out d hd
          have hvE : valF 0 (List.replicate z 48 ++ D) = a0 := by rw [valF_append, val_zeros]; exact HDV.out
          have hnE : List.replicate z (48 : Int) ++ D ≠ [] := by intro e; have h := congrArg List.length e; rw [List.length_append, List.length_nil] at h; omega
          have hlE : (List.replicate z (48 : Int) ++ D).length ≤ 100000 := by omega
          have hbw : Below w.heap.size w wr := b1.trans (hb.mono b1.size)
          generalize List.replicate z (48 : Int) ++ D = E at *
          have HVE := Lib.hid hvE
          have HDE := Lib.hid hdE
          have HNE := Lib.hid hnE
          have HLE := Lib.hid hlE
          have hx1 := pv_yes (E := E) (M := a2) (by omega)
          have hx2 := pb_yes (E := E) (M := a2) (by omega)
          have hx3 := pb_no (E := E) (M := a0 - 1) (by omega)
          rw [hvE] at hx1
          have HX1 := Lib.hid hx1
          have HX2 := Lib.hid hx2
          have HX3 := Lib.hid hx3
          clear hcells hown hlenE hvE hdE hnE hlE hx1 hx2 hx3 hDl
          go_wp2_with fail
          refine (parse_any E HDE.out HNE.out HLE.out a2 (by omega) (by omega) _).mono ?_
          rintro e w4 ⟨rfl, b4⟩
          rw [HX1.out, HX2.out]
          have e0 : (a0 != a0) = false := by simp
          clear hcv
          go_wp2_with fail
          refine (parse_any E HDE.out HNE.out HLE.out (a0 - 1) (by omega) (by omega) _).mono ?_
          rintro e w5 ⟨rfl, b5⟩
          rw [HX3.out]
          go_wp2_with fail
          go_ret
          have hszw := hbw.size
          exact ⟨rfl, (hbw.trans (b4.mono hszw)).trans (b5.mono (Nat.le_trans hszw b4.size))⟩

set_option maxRecDepth 100000 in
theorem lifted (os : Os) (started : os.Started) (H : Type) (enc : TypeId × Value → H) :
    ReturnsInHanded {} Try.checked os 4 .any (Rows.fnParseRangeIntPrintedBoundarySpec.pre6 enc Try.prog Try.f4 Rows.fnParseRangeIntPrintedBoundaryRow.domain false) (Rows.fnParseRangeIntPrintedBoundarySpec.post enc Try.prog Try.f4 false true false false) := by
  refine returnsInHanded_of_change (C := Try.checked) own started (by kernel_rfl) Try.func4
    (ChangeSpec.witness6 (enc := enc) (C := Try.checked) false ⟨#[], #[.int .i64 0, .int .i64 0, .int .i64 0], []⟩ 8 (by kernel_rfl) (by kernel_rfl) (by kernel_rfl) (by kernel_rfl)) ?_
  intro W base args ds gs before hval0 hW hcnd _
  have hval : ∀ (j : Nat) t v, Try.f4.params[j]? = some t → args[j]? = some v → Value.okWide Try.prog W .any base t v := hval0
  have hW' := hW
  obtain ⟨p, q, hA0, hV, rfl, hfz, hnd⟩ := hW
  have hA : DataW.TrodAll enc Try.prog W 0 (fun _ => true) true Try.f4.params.toList args.toList ds p := hA0
  rw [Try.params4] at hA hval
  obtain ⟨v0, vs0, d0, ds0, p0, q0, hargs0, rfl, rfl, h0, r0⟩ := trodAll_cons hA
  obtain ⟨v1, vs1, d1, ds1, p1, q1, hargs1, rfl, rfl, h1, r1⟩ := trodAll_cons r0
  obtain ⟨v2, vs2, d2, ds2, p2, q2, hargs2, rfl, rfl, h2, r2⟩ := trodAll_cons r1
  obtain ⟨rfl, rfl, rfl⟩ := trodAll_nil r2
  obtain rfl : args = #[v0, v1, v2] := by cases args; simp_all
  obtain ⟨a0, rfl, rfl, rfl, w0⟩ := open_int Try.underlying3 (hval 0 3 v0 rfl rfl) h0
  obtain ⟨a1, rfl, rfl, rfl, w1⟩ := open_int Try.underlying3 (hval 1 3 v1 rfl rfl) h1
  obtain ⟨a2, rfl, rfl, rfl, w2⟩ := open_int Try.underlying3 (hval 2 3 v2 rfl rfl) h2
  clear hA0 hval0
  refine (walk a0 a1 a2 W w0 w1 w2).mono fun e W' ⟨he, hg⟩ => ?_
  subst he
  exact ⟨_, rfl, law_post laid readEach rfl rfl Try.underlying4 ⟨rfl, rfl, rfl⟩ hW' hg⟩

theorem over : Rows.fnParseRangeIntPrintedBoundaryRow.holds Try.pinned (OpenSpec.ofChange Rows.fnParseRangeIntPrintedBoundarySpec) :=
  OpenClaim.holds_of_wide 4 Try.f4 rfl rfl rfl rfl rfl rfl rfl ⟨rfl, rfl, rfl, rfl, rfl⟩ rfl rfl rfl rfl rfl (by kernel_rfl) Try.func4 (by kernel_rfl)
    (of_decide_eq_true (by kernel_rfl)) (by unfold Func.isWrapper; first | (rw [if_pos (by decide +kernel)]; kernel_rfl) | (rw [if_neg (by decide +kernel)]; exact ⟨rfl, rfl⟩))
    (fun os started H enc _ => lifted os started H enc)

/-- The statement. -/
theorem proved : Rows.FnParseRangeIntPrintedBoundarySaid :=
  over
#print axioms proved
end Go.Proofs.Ytnegfigjmjgknab.fnParseRangeIntPrintedBoundary
