/-
  Proved: the law FnIncludeOfScansIsScanOfConcatenation of folder n011_63 returns true for every argument that its parameter types allow, and leaves its arguments as they were; there is no further condition.
-/
import Derived.Test.YtnegfigjmjgknaaRows
import Derived.WalkKit
import Derived.ProofKit
import Derived.OpenShut
import Derived.Below
import Derived.Carry
import Derived.ChangeMaps5
import Derived.Handy
import Derived.Lib.Hide
import Derived.WalkSpells
import Derived.Deep.QuietTactic
import Derived.BigQuiet
import Derived.Laws.Rows
import Derived.Laws.Tables
import Derived.Deep.WholeRow
import Derived.Test.YtnegfigjmjgknaaSz
import Derived.Test.YtnegfigjmjgknaaScan
namespace Go.Proofs.Ytnegfigjmjgknaa.fnIncludeOfScansIsScanOfConcatenation
open Go.ChangeShapes Go.WideShapes Go.ChangeAt Go.RowKit
set_option linter.unusedVariables false

theorem own : ownKnob Try.prog.godebug = none := by kernel_rfl
theorem laid : laidOutB Try.prog = true := by kernel_rfl
theorem readAll : (Try.f4.params.toList.all fun t => Try.prog.readableRec t && decide (t < Try.prog.types.size)) = true := by kernel_rfl
theorem readEach : ∀ t ∈ Try.f4.params.toList, Try.prog.readableRec t = true ∧ t < Try.prog.types.size := fun t ht => by
  have := List.all_eq_true.1 readAll t ht
  simpa using this
section
variable {H : Type} {enc : TypeId × Value → H} {P : Program}
theorem trodAll_stays (hl : laidOutB P = true) {W W' : World} (hb : Below W.heap.size W W') {sp : Nat → Bool} : ∀ {ts : List TypeId} {vs : List Value} {ds : List (DataW H)} {ps : List MemPlace},
    (∀ t ∈ ts, P.readableRec t = true ∧ t < P.types.size) → DataW.TrodAll enc P W 0 (fun _ => true) true ts vs ds ps → (∀ p ∈ ps, p.block < W.heap.size) → (∀ p ∈ ps, sp p.block = true) → DataW.TrodAll enc P W' 0 sp true ts vs ds ps
  | [], [], [], _, _, h, _, _ => h
  | _ :: _, _ :: _, _ :: _, _, hT, ⟨p, q, h1, h2, e⟩, hlt, hs =>
    ⟨p, q, WideElems.Trod_stays hl (hT _ (List.mem_cons.2 (Or.inl rfl))).1 (hT _ (List.mem_cons.2 (Or.inl rfl))).2 h1 (fun x hx => hb.same (hlt x (by rw [e]; exact List.mem_append_left _ hx))) (fun x hx => hs x (by rw [e]; exact List.mem_append_left _ hx)),
      trodAll_stays hl hb (fun t ht => hT t (List.mem_cons.2 (Or.inr ht))) h2 (fun x hx => hlt x (by rw [e]; exact List.mem_append_right _ hx)) (fun x hx => hs x (by rw [e]; exact List.mem_append_right _ hx)), e⟩

/-- A law's step: the result is true, the arguments are kept, the world has changed in new blocks alone. -/
theorem law_post {f : Func} {s : ChangeSpec} {apart fresh handsOn again : Bool} {W W' : World} {args : Array Value} {ds gs : List (DataW H)} {before : List MemPlace} {tb : TypeId}
    (hl : laidOutB P = true) (hps : ∀ t ∈ f.params.toList, P.readableRec t = true ∧ t < P.types.size) (hv : s.vars = []) (hr : f.resultTypes = #[tb]) (ht : P.underlying tb = some .bool)
    (hs : (s.fn H (ds ++ [])).results = [.lit (.bool true)] ∧ (s.fn H (ds ++ [])).args = ds ∧ (s.fn H (ds ++ [])).vars = [])
    (hW : DataW.Whole enc P f.params.toList s.vars apart W args.toList ds gs before) (hb : Below W.heap.size W W') :
    s.post enc P f apart fresh handsOn again W args (.bool true) W' := by
  have hlt : ∀ p ∈ before, p.block < W.heap.size := fun p hp => hW.lt p hp
  have hold : ∀ p ∈ before, (fun b => decide (b < W.heap.size)) p.block = true := fun p hp => by simpa using hlt p hp
  have hW0 := hW
  obtain ⟨pa, pv, hA, hV, rfl, hz, hn⟩ := hW
  rw [hv] at hV
  obtain ⟨rfl, rfl⟩ := trodVars_none hV
  have hres : ∀ (b : Nat) (sp : Nat → Bool) (hd : Bool), DataW.TrodAll enc P W' b sp hd f.resultTypes.toList ((Value.bool true).resultList f.resultTypes.size) (s.fn H (ds ++ [])).results [] := fun b sp hd => by
    rw [hs.1, hr]; exact trodAll_cons_mk (shut_bool ht _) trodAll_mk0
  have hargs : ∀ sp : Nat → Bool, (∀ p ∈ pa ++ [], sp p.block = true) → DataW.TrodAll enc P W' 0 sp true f.params.toList args.toList (s.fn H (ds ++ [])).args pa := fun sp hsp => by
    rw [hs.2.1]; exact trodAll_stays hl hb hps hA (fun p hp => hlt p (by simpa using hp)) (fun p hp => hsp p (by simpa using hp))
  have hvars : ∀ sp : Nat → Bool, DataW.TrodVars enc P W' sp s.vars (s.fn H (ds ++ [])).vars [] := fun sp => by rw [hv, hs.2.2]; rfl
  refine ⟨ds, [], pa ++ [], [], pa, [], hW0, hres _ _ _, hargs _ hold, hvars _, World.keptBut_mono (fun p hp => ⟨hp, Or.inr (List.mem_append.1 hp)⟩) (hb.frame (· ∈ pa ++ [])), fun _ => ?_⟩
  refine ⟨?_, _, _, ([] ++ pa) ++ [], ⟨[] ++ pa, [], trodAll_append (hargs _ (fun _ _ => rfl)) (hres _ _ _), hvars _, rfl, ?_, ?_⟩, ?_⟩
  · intro j t r h1 h2
    rw [hr] at h1 h2
    match j, h1, h2 with
    | 0, h1, h2 =>
      obtain rfl : tb = t := by simpa using h1
      obtain rfl : Value.bool true = r := by simpa [Value.resultList] using h2
      exact okWide_bool_mk ht _
    | j + 1, h1, _ => simp at h1
  · intro b off hp
    have hp' : MemPlace.cell b off ∈ pa ++ [] := by simpa using hp
    rw [hb.frozen (hlt _ hp')]
    exact hz b off hp'
  · intro ha
    simpa using hn ha
  · intro p hp _
    simpa using hp
end

open Go.PlainAid Str Mem Sz Scan
def zeros : Array Value := (List.replicate 64 (Value.int .i32 0)).toArray
theorem size44 : (Try.prog.info? 44).map (·.size) = some 64 := by kernel_rfl
theorem cnt_append (a b : ByteArray) (j : Nat) : ∀ k, k ≤ b.size → cnt (a ++ b) j (a.size + k) = cnt a j a.size + cnt b j k := by
  have left : ∀ k, k ≤ a.size → cnt (a ++ b) j k = cnt a j k := by
    intro k hk
    induction k with
    | zero => rfl
    | succ k ih =>
      simp only [cnt]
      rw [ih (by omega), bt_append_left a b k (by omega)]
  intro k hk
  induction k with
  | zero => simp only [Nat.add_zero, cnt]; rw [left _ (Nat.le_refl _), Int.add_zero]
  | succ k ih =>
    rw [← Nat.add_assoc]
    simp only [cnt]
    rw [ih (by omega), bt_append_right a b _ (by omega), Nat.add_sub_cancel_left, Int.add_assoc]
theorem hist_sum (a b : ByteArray) (d : Int) (j : Nat) : wrap32 (hist (fun _ => 0) a d a.size j + hist (fun _ => 0) b d b.size j) = hist (fun _ => 0) (a ++ b) d (a ++ b).size j := by
  simp only [hist]
  rw [size_append, cnt_append a b j b.size (Nat.le_refl _), wrap_add, Int.add_comm, wrap_add, Int.add_mul]
  congr 1
  omega
theorem all_one {cs : Array Value} {F : Nat → Int} (hs : cs.size = 64) (hc : ∀ j, j < 64 → cs[j]? = some (.int .i32 (F j))) : cs.all (·.oneCell') = true := by
  rw [Array.all_eq_true]
  intro i hi
  have h := hc i (by omega)
  rw [Array.getElem?_eq_getElem hi] at h
  have h' : cs[i] = .int .i32 (F i) := by simpa using h
  rw [h']
  rfl
theorem only_below {w w' : World} {B g : Nat} (h : w.grownBy w' (some g)) (hg : B ≤ g) (hB : B ≤ w.heap.size) : Below B w w' := ⟨h.os, h.tape, h.output, h.size, fun k hk => h.block k (by omega) (by intro e; injection e with e; omega)⟩
set_option maxRecDepth 100000 in
set_option maxHeartbeats 4000000 in
theorem walk (a0 : ByteArray) (a1 : ByteArray) (a2 : Int) (w : World) (w0 : a0.size ≤ maxLen) (w1 : a1.size ≤ maxLen) (w2 : (Lit.int .i32 a2).wf = true) :
    Calls Try.prog 4 #[.string a0, .string a1, .int .i32 a2] w fun e w' => e = .returned (.bool true) ∧ Below w.heap.size w w' := by
  have h2 : -2147483648 ≤ a2 ∧ a2 ≤ 2147483647 := by simpa [Lit.wf, IntKind.min, IntKind.max, IntKind.signed, IntKind.bits] using w2
  clear w2
  go_enter Try.func4, Try.ntmps4
  go_wp2_with fail
  refine (bytes7 a0 a1 a2 _ w0 w1).mono ?_
  rintro e w' ⟨rfl, rfl⟩
  by_cases ht : a0.size + a1.size ≤ 1048576
  · rw [szOk_yes ht]
    by_cases g1 : 524288 < a0.size
    · go_wp2_with fail
      all_goals go_ret
      all_goals exact ⟨by simp_all, by go_grown⟩
    by_cases g2 : 524288 < a1.size
    · go_wp2_with fail
      all_goals go_ret
      all_goals exact ⟨by simp_all, by go_grown⟩
    go_wp2_with fail
    change Calls Try.prog 8 #[Value.pointer (some ⟨w.heap.size, 0, none⟩), Value.string a0, Value.int IntKind.i32 a2] (((w.alloc (Obj.cells zeros 44)).alloc (Obj.cells zeros 44)).alloc (Obj.cells zeros 44)) _
    have o0 : Cnt (((w.alloc (Obj.cells zeros 44)).alloc (Obj.cells zeros 44)).alloc (Obj.cells zeros 44)) w.heap.size (fun _ => 0) := Cnt.zero (((Own.new w 44 zeros).alloc _).alloc _)
    have o1 : Cnt (((w.alloc (Obj.cells zeros 44)).alloc (Obj.cells zeros 44)).alloc (Obj.cells zeros 44)) (w.heap.size + 1) (fun _ => 0) := Cnt.zero (by have h := (Own.new (w.alloc (Obj.cells zeros 44)) 44 zeros).alloc (Obj.cells zeros 44); rw [World.size_alloc] at h; exact h)
    have o2 : Cnt (((w.alloc (Obj.cells zeros 44)).alloc (Obj.cells zeros 44)).alloc (Obj.cells zeros 44)) (w.heap.size + 1 + 1) (fun _ => 0) := Cnt.zero (by have h := Own.new ((w.alloc (Obj.cells zeros 44)).alloc (Obj.cells zeros 44)) 44 zeros; rw [World.size_alloc, World.size_alloc] at h; exact h)
    have bz : Below w.heap.size w (((w.alloc (Obj.cells zeros 44)).alloc (Obj.cells zeros 44)).alloc (Obj.cells zeros 44)) := by go_grown
    have sz : w.heap.size + 3 ≤ (((w.alloc (Obj.cells zeros 44)).alloc (Obj.cells zeros 44)).alloc (Obj.cells zeros 44)).heap.size := by simp only [World.size_alloc]; omega
    generalize (((w.alloc (Obj.cells zeros 44)).alloc (Obj.cells zeros 44)).alloc (Obj.cells zeros 44)) = v0 at *
    refine (scan_any w.heap.size (fun _ => 0) a0 a2 v0 o0 (fun _ _ => by omega) (by omega)).mono ?_
    rintro e v1 ⟨rfl, p0, q1⟩
    have p1 := o1.block (q1.block _ o1.lt (by simp only [ne_eq, Option.some.injEq]; omega))
    have p2 := o2.block (q1.block _ o2.lt (by simp only [ne_eq, Option.some.injEq]; omega))
    have bz1 := bz.trans (only_below q1 (Nat.le_refl _) (by omega))
    have sz1 := Nat.le_trans sz q1.size
    clear o0 o1 o2 bz sz q1
    go_wp2_with fail
    refine (scan_any (w.heap.size + 1) (fun _ => 0) a1 a2 v1 p1 (fun _ _ => by omega) (by omega)).mono ?_
    rintro e v2 ⟨rfl, r1, q2⟩
    have r0 := p0.block (q2.block _ p0.lt (by simp only [ne_eq, Option.some.injEq]; omega))
    have r2 := p2.block (q2.block _ p2.lt (by simp only [ne_eq, Option.some.injEq]; omega))
    have bz2 := bz1.trans (only_below q2 (by omega) (by omega))
    have sz2 := Nat.le_trans sz1 q2.size
    clear p0 p1 p2 bz1 sz1 q2
    have R1 := Lib.hid r1
    obtain ⟨cs, ho, hs, hc⟩ := r1
    have hsz : (Try.prog.info? 44).map (·.size) = some cs.size := by rw [hs]; exact size44
    have hone := all_one hs hc
    have HC := Lib.hid hc
    have HS := Lib.hid hs
    have HO := Lib.hid ho
    clear hc hs ho
    go_wp2_with (first | (refine wpList_load_row rfl 44 _ rfl (w.heap.size + 1) rfl 44 cs (0, 0) _ HO.out Try.underlying44 rfl hsz ?_) | (refine wpList_store_row rfl 44 _ _ rfl v2.heap.size cs rfl rfl 44 _ (heap_alloc_new _ _) hsz HS.out.symm hone ?_; rw [World.setRow_alloc_new]))
    have n3 : Cnt (v2.alloc (.cells cs 44)) v2.heap.size (hist (fun _ => 0) a1 a2 a1.size) := ⟨cs, Own.new v2 44 cs, HS.out, HC.out⟩
    have n0 : Cnt (v2.alloc (.cells cs 44)) w.heap.size (hist (fun _ => 0) a0 a2 a0.size) := r0.block (Below.heap_alloc v2 _ _ (by omega))
    have n1 : Cnt (v2.alloc (.cells cs 44)) (w.heap.size + 1) (hist (fun _ => 0) a1 a2 a1.size) := R1.out.block (Below.heap_alloc v2 _ _ (by omega))
    have n2 : Cnt (v2.alloc (.cells cs 44)) (w.heap.size + 1 + 1) (fun _ => 0) := r2.block (Below.heap_alloc v2 _ _ (by omega))
    have bz3 : Below w.heap.size w (v2.alloc (.cells cs 44)) := bz2.alloc (by omega) _
    have sz3 : v2.heap.size + 1 ≤ (v2.alloc (.cells cs 44)).heap.size := by simp
    clear r0 r2 R1 bz2 hone hsz HC HS HO
    generalize (v2.alloc (.cells cs 44)) = v3 at *
    refine (include_any w.heap.size (w.heap.size + 1) _ _ v3 (by omega) n0 n1).mono ?_
    rintro e v4 ⟨rfl, m0, q4⟩
    have m1 := n1.block (q4.block _ n1.lt (by simp only [ne_eq, Option.some.injEq]; omega))
    have m2 := n2.block (q4.block _ n2.lt (by simp only [ne_eq, Option.some.injEq]; omega))
    have m3 := n3.block (q4.block _ n3.lt (by simp only [ne_eq, Option.some.injEq]; omega))
    have bz4 := bz3.trans (only_below q4 (Nat.le_refl _) (by omega))
    have sz4 := Nat.le_trans sz3 q4.size
    clear n0 n1 n2 n3 bz3 q4 sz3
    go_wp2_with fail
    refine (scan_any (w.heap.size + 1 + 1) (fun _ => 0) (a0 ++ a1) a2 v4 m2 (fun _ _ => by omega) (by rw [size_append]; omega)).mono ?_
    rintro e v5 ⟨rfl, l2, q5⟩
    have l0 := m0.block (q5.block _ m0.lt (by simp only [ne_eq, Option.some.injEq]; omega))
    have l1 := m1.block (q5.block _ m1.lt (by simp only [ne_eq, Option.some.injEq]; omega))
    have l3 := m3.block (q5.block _ m3.lt (by simp only [ne_eq, Option.some.injEq]; omega))
    have bz5 := bz4.trans (only_below q5 (by omega) (by omega))
    clear m0 m1 m2 m3 bz4 q5
    have L0 := Lib.hid l0
    have L1 := Lib.hid l1
    have L2 := Lib.hid l2
    have L3 := Lib.hid l3
    clear l0 l1 l2 l3
    go_wp2_with fail
    go_loopw [11] (fun i wr => ∃ k n : Nat, k ≤ 64 ∧ i = .int .i64 k ∧ wr = v5.drewN n) (fun i _ => 64 - (intOf i).toNat)
    case atStart => exact ⟨0, 0, by omega, rfl, rfl⟩
    case round =>
      obtain ⟨k, n, hk, rfl, rfl⟩ := hrel
      by_cases hlt : k < 64
      · have c0 := L0.out.cell k hlt
        have c1 := L1.out.cell k hlt
        have c2 := L2.out.cell k hlt
        have c3 := L3.out.cell k hlt
        rw [hist_sum] at c0
        have b1 : (0 : Int) ≤ (k : Int) := by omega
        have b2 : (k : Int) < 64 := by omega
        generalize hist (fun _ => 0) (a0 ++ a1) a2 (a0 ++ a1).size k = x at *
        generalize hist (fun _ => 0) a1 a2 a1.size k = y at *
        have e1 : (x != x) = false := by simp
        have e2 : (y != y) = false := by simp
        go_wp2_with fail
        go_quiet (fail)
        go_wp2_with fail
        go_quiet (fail)
        go_wp2_with fail
        exact ⟨⟨k + 1, _, by omega, by go_num, rfl⟩, by simp [intOf]; omega⟩
      · go_wp2_with fail
        go_ret
        exact ⟨rfl, below_drewN bz5 n⟩
  · rw [szOk_no ht]
    go_wp2_with fail
    go_ret
    exact ⟨rfl, by go_grown⟩

set_option maxRecDepth 100000 in
theorem lifted (os : Os) (started : os.Started) (H : Type) (enc : TypeId × Value → H) :
    ReturnsInHanded {} Try.checked os 4 .any (Rows.fnIncludeOfScansIsScanOfConcatenationSpec.pre6 enc Try.prog Try.f4 Rows.fnIncludeOfScansIsScanOfConcatenationRow.domain false) (Rows.fnIncludeOfScansIsScanOfConcatenationSpec.post enc Try.prog Try.f4 false true false false) := by
  refine returnsInHanded_of_change (C := Try.checked) own started (by kernel_rfl) Try.func4
    (ChangeSpec.witness6 (enc := enc) (C := Try.checked) false ⟨#[], #[.string ⟨#[]⟩, .string ⟨#[]⟩, .int .i32 0], []⟩ 8 (by kernel_rfl) (by kernel_rfl) (by kernel_rfl) (by kernel_rfl)) ?_
  intro W base args ds gs before hval0 hW hcnd _
  have hval : ∀ (j : Nat) t v, Try.f4.params[j]? = some t → args[j]? = some v → Value.okWide Try.prog W .any base t v := hval0
  have hW' := hW
  obtain ⟨p, q, hA0, hV, rfl, hfz, hnd⟩ := hW
  have hA : DataW.TrodAll enc Try.prog W 0 (fun _ => true) true Try.f4.params.toList args.toList ds p := hA0
  rw [Try.params4] at hA hval
  obtain ⟨v0, vs0, d0, ds0, p0, q0, hargs0, rfl, rfl, h0, r0⟩ := trodAll_cons hA
  obtain ⟨v1, vs1, d1, ds1, p1, q1, hargs1, rfl, rfl, h1, r1⟩ := trodAll_cons r0
  obtain ⟨v2, vs2, d2, ds2, p2, q2, hargs2, rfl, rfl, h2, r2⟩ := trodAll_cons r1
  obtain ⟨rfl, rfl, rfl⟩ := trodAll_nil r2
  obtain rfl : args = #[v0, v1, v2] := by cases args; simp_all
  obtain ⟨a0, rfl, rfl, rfl, w0⟩ := Go.ChangeMaps.open_string Try.underlying9 (hval 0 9 v0 rfl rfl) h0
  obtain ⟨a1, rfl, rfl, rfl, w1⟩ := Go.ChangeMaps.open_string Try.underlying9 (hval 1 9 v1 rfl rfl) h1
  obtain ⟨a2, rfl, rfl, rfl, w2⟩ := open_int Try.underlying21 (hval 2 21 v2 rfl rfl) h2
  clear hA0 hval0
  refine (walk a0 a1 a2 W w0 w1 w2).mono fun e W' ⟨he, hg⟩ => ?_
  subst he
  exact ⟨_, rfl, law_post laid readEach rfl rfl Try.underlying4 ⟨rfl, rfl, rfl⟩ hW' hg⟩

theorem over : Rows.fnIncludeOfScansIsScanOfConcatenationRow.holds Try.pinned (OpenSpec.ofChange Rows.fnIncludeOfScansIsScanOfConcatenationSpec) :=
  OpenClaim.holds_of_wide 4 Try.f4 rfl rfl rfl rfl rfl rfl rfl ⟨rfl, rfl, rfl, rfl, rfl⟩ rfl rfl rfl rfl rfl (by kernel_rfl) Try.func4 (by kernel_rfl)
    (of_decide_eq_true (by kernel_rfl)) (by unfold Func.isWrapper; first | (rw [if_pos (by decide +kernel)]; kernel_rfl) | (rw [if_neg (by decide +kernel)]; exact ⟨rfl, rfl⟩))
    (fun os started H enc _ => lifted os started H enc)

/-- The statement. -/
theorem proved : Rows.FnIncludeOfScansIsScanOfConcatenationSaid :=
  over
#print axioms proved
end Go.Proofs.Ytnegfigjmjgknaa.fnIncludeOfScansIsScanOfConcatenation
