/-
  Proved: the law FnImportKindMetafileNameIsKebabWord of folder n011_8 returns true for every argument that its parameter types allow, and leaves its arguments as they were; there is no further condition.
-/
import Derived.Test.YtajoaaodnjlocabRows
import Derived.WalkKit
import Derived.ProofKit
import Derived.OpenShut
import Derived.Below
import Derived.Carry
import Derived.ChangeMaps5
import Derived.Handy
import Derived.Lib.Hide
import Derived.PlainAid
namespace Go.Proofs.Ytajoaaodnjlocab.fnImportKindMetafileNameIsKebabWord
open Go.ChangeShapes Go.WideShapes Go.ChangeAt Go.RowKit
set_option linter.unusedVariables false

theorem own : ownKnob Try.prog.godebug = none := by kernel_rfl
theorem laid : laidOutB Try.prog = true := by kernel_rfl
theorem readAll : (Try.f7.params.toList.all fun t => Try.prog.readableRec t && decide (t < Try.prog.types.size)) = true := by kernel_rfl
theorem readEach : ∀ t ∈ Try.f7.params.toList, Try.prog.readableRec t = true ∧ t < Try.prog.types.size := fun t ht => by
  have := List.all_eq_true.1 readAll t ht
  simpa using this
section
variable {H : Type} {enc : TypeId × Value → H} {P : Program}
theorem trodAll_stays (hl : laidOutB P = true) {W W' : World} (hb : Below W.heap.size W W') {sp : Nat → Bool} : ∀ {ts : List TypeId} {vs : List Value} {ds : List (DataW H)} {ps : List MemPlace},
    (∀ t ∈ ts, P.readableRec t = true ∧ t < P.types.size) → DataW.TrodAll enc P W 0 (fun _ => true) true ts vs ds ps → (∀ p ∈ ps, p.block < W.heap.size) → (∀ p ∈ ps, sp p.block = true) → DataW.TrodAll enc P W' 0 sp true ts vs ds ps
  | [], [], [], _, _, h, _, _ => h
  | _ :: _, _ :: _, _ :: _, _, hT, ⟨p, q, h1, h2, e⟩, hlt, hs =>
    ⟨p, q, WideElems.Trod_stays hl (hT _ (List.mem_cons.2 (Or.inl rfl))).1 (hT _ (List.mem_cons.2 (Or.inl rfl))).2 h1 (fun x hx => hb.same (hlt x (by rw [e]; exact List.mem_append_left _ hx))) (fun x hx => hs x (by rw [e]; exact List.mem_append_left _ hx)),
      trodAll_stays hl hb (fun t ht => hT t (List.mem_cons.2 (Or.inr ht))) h2 (fun x hx => hlt x (by rw [e]; exact List.mem_append_right _ hx)) (fun x hx => hs x (by rw [e]; exact List.mem_append_right _ hx)), e⟩

/-- A law's step: the result is true, the arguments are kept, the world has changed in new blocks alone. -/
theorem law_post {f : Func} {s : ChangeSpec} {apart fresh handsOn again : Bool} {W W' : World} {args : Array Value} {ds gs : List (DataW H)} {before : List MemPlace} {tb : TypeId}
    (hl : laidOutB P = true) (hps : ∀ t ∈ f.params.toList, P.readableRec t = true ∧ t < P.types.size) (hv : s.vars = []) (hr : f.resultTypes = #[tb]) (ht : P.underlying tb = some .bool)
    (hs : (s.fn H (ds ++ [])).results = [.lit (.bool true)] ∧ (s.fn H (ds ++ [])).args = ds ∧ (s.fn H (ds ++ [])).vars = [])
    (hW : DataW.Whole enc P f.params.toList s.vars apart W args.toList ds gs before) (hb : Below W.heap.size W W') :
    s.post enc P f apart fresh handsOn again W args (.bool true) W' := by
  have hlt : ∀ p ∈ before, p.block < W.heap.size := fun p hp => hW.lt p hp
  have hold : ∀ p ∈ before, (fun b => decide (b < W.heap.size)) p.block = true := fun p hp => by simpa using hlt p hp
  have hW0 := hW
  obtain ⟨pa, pv, hA, hV, rfl, hz, hn⟩ := hW
  rw [hv] at hV
  obtain ⟨rfl, rfl⟩ := trodVars_none hV
  have hres : ∀ (b : Nat) (sp : Nat → Bool) (hd : Bool), DataW.TrodAll enc P W' b sp hd f.resultTypes.toList ((Value.bool true).resultList f.resultTypes.size) (s.fn H (ds ++ [])).results [] := fun b sp hd => by
    rw [hs.1, hr]; exact trodAll_cons_mk (shut_bool ht _) trodAll_mk0
  have hargs : ∀ sp : Nat → Bool, (∀ p ∈ pa ++ [], sp p.block = true) → DataW.TrodAll enc P W' 0 sp true f.params.toList args.toList (s.fn H (ds ++ [])).args pa := fun sp hsp => by
    rw [hs.2.1]; exact trodAll_stays hl hb hps hA (fun p hp => hlt p (by simpa using hp)) (fun p hp => hsp p (by simpa using hp))
  have hvars : ∀ sp : Nat → Bool, DataW.TrodVars enc P W' sp s.vars (s.fn H (ds ++ [])).vars [] := fun sp => by rw [hv, hs.2.2]; rfl
  refine ⟨ds, [], pa ++ [], [], pa, [], hW0, hres _ _ _, hargs _ hold, hvars _, World.keptBut_mono (fun p hp => ⟨hp, Or.inr (List.mem_append.1 hp)⟩) (hb.frame (· ∈ pa ++ [])), fun _ => ?_⟩
  refine ⟨?_, _, _, ([] ++ pa) ++ [], ⟨[] ++ pa, [], trodAll_append (hargs _ (fun _ _ => rfl)) (hres _ _ _), hvars _, rfl, ?_, ?_⟩, ?_⟩
  · intro j t r h1 h2
    rw [hr] at h1 h2
    match j, h1, h2 with
    | 0, h1, h2 =>
      obtain rfl : tb = t := by simpa using h1
      obtain rfl : Value.bool true = r := by simpa [Value.resultList] using h2
      exact okWide_bool_mk ht _
    | j + 1, h1, _ => simp at h1
  · intro b off hp
    have hp' : MemPlace.cell b off ∈ pa ++ [] := by simpa using hp
    rw [hb.frozen (hlt _ hp')]
    exact hz b off hp'
  · intro ha
    simpa using hn ha
  · intro p hp _
    simpa using hp
end

open Go.PlainAid
def nmL (k : Nat) : List UInt8 := match k with
  | 0 => [101, 110, 116, 114, 121, 45, 112, 111, 105, 110, 116]
  | 1 => [105, 109, 112, 111, 114, 116, 45, 115, 116, 97, 116, 101, 109, 101, 110, 116]
  | 2 => [114, 101, 113, 117, 105, 114, 101, 45, 99, 97, 108, 108]
  | 3 => [100, 121, 110, 97, 109, 105, 99, 45, 105, 109, 112, 111, 114, 116]
  | 4 => [114, 101, 113, 117, 105, 114, 101, 45, 114, 101, 115, 111, 108, 118, 101]
  | 5 => [105, 109, 112, 111, 114, 116, 45, 114, 117, 108, 101]
  | 6 => [99, 111, 109, 112, 111, 115, 101, 115, 45, 102, 114, 111, 109]
  | _ => [117, 114, 108, 45, 116, 111, 107, 101, 110]
def nm (k : Nat) : ByteArray := ⟨(nmL k).toArray⟩
theorem nm_any (k : Nat) (h : k < 8) (w : World) : Calls Try.prog 15 #[.int .u8 k] w fun e w' => e = .returned (.string (nm k)) ∧ w = w' := by
  rcases (by omega : k = 0 ∨ k = 1 ∨ k = 2 ∨ k = 3 ∨ k = 4 ∨ k = 5 ∨ k = 6 ∨ k = 7) with rfl | rfl | rfl | rfl | rfl | rfl | rfl | rfl
  all_goals clear h
  all_goals go_enter Try.func15, Try.ntmps15
  all_goals go_wp2
  all_goals go_ret
  all_goals exact ⟨rfl, rfl⟩
def btL (l : List UInt8) (k : Nat) : Int := ((l.getD k 0).toNat : Int)
theorem bt_btL (l : List UInt8) (k : Nat) : bt ⟨l.toArray⟩ k = btL l k := by
  unfold bt btL
  by_cases h : k < l.length
  · have h' : k < (ByteArray.mk l.toArray).size := by simpa [ByteArray.size] using h
    rw [dif_pos h', List.getD_eq_getElem?_getD, List.getElem?_eq_getElem h]
    rfl
  · have h' : ¬ k < (ByteArray.mk l.toArray).size := by simpa [ByteArray.size] using h
    rw [dif_neg h', List.getD_eq_getElem?_getD, List.getElem?_eq_none (by omega)]
    rfl
def okAt (l : List UInt8) (i : Nat) : Bool := decide ((btL l i = 45 ∧ 1 ≤ i ∧ btL l (i - 1) ≠ 45) ∨ (97 ≤ btL l i ∧ btL l i ≤ 122))
def okAll (l : List UInt8) : Bool := decide (0 < l.length ∧ l.length < 100) && decide (btL l 0 ≠ 45) && decide (btL l (l.length - 1) ≠ 45) && (List.range l.length).all fun i => okAt l i
structure Kebab (s : ByteArray) : Prop where
  lo : 0 < s.size
  hi : s.size < 100
  first : (bt s 0 == 45) = false
  last : (bt s (s.size - 1) == 45) = false
  each : ∀ i, i < s.size → ((bt s i == 45) = true ∧ 1 ≤ i ∧ (bt s (i - 1) == 45) = false) ∨ ((bt s i == 45) = false ∧ 97 ≤ bt s i ∧ bt s i ≤ 122)
theorem kebab_of (l : List UInt8) (h : okAll l = true) : Kebab ⟨l.toArray⟩ := by
  have hsz : (ByteArray.mk l.toArray).size = l.length := by simp [ByteArray.size]
  simp only [okAll, Bool.and_eq_true, decide_eq_true_eq, List.all_eq_true, List.mem_range] at h
  obtain ⟨⟨⟨h1, h2⟩, h3⟩, h4⟩ := h
  refine ⟨by omega, by omega, ?_, ?_, ?_⟩
  · rw [bt_btL]; simpa using h2
  · rw [hsz, bt_btL]; simpa using h3
  · intro i hi
    have := h4 i (by omega)
    rw [bt_btL, bt_btL]
    simp only [okAt, decide_eq_true_eq] at this
    rcases this with ⟨a, b, c⟩ | ⟨a, b⟩
    · exact Or.inl ⟨by simp [a], b, by simpa using c⟩
    · exact Or.inr ⟨by simp; omega, a, b⟩
theorem kebab_nm (k : Nat) (h : k < 8) : Kebab (nm k) := by
  unfold nm
  refine kebab_of _ ?_
  have key : ∀ m : Nat, m < 8 → okAll (nmL m) = true := by decide +kernel
  exact key k h
set_option maxRecDepth 100000 in
set_option maxHeartbeats 4000000 in
theorem walk (a0 : Int) (w0 : (Lit.int .u8 a0).wf = true) (w : World) :
    Calls Try.prog 7 #[.int .u8 a0] w fun e w' => e = .returned (.bool true) ∧ Below w.heap.size w w' := by
  have h0 : 0 ≤ a0 ∧ a0 ≤ 255 := by simpa [Lit.wf, IntKind.min, IntKind.max, IntKind.signed, IntKind.bits] using w0
  clear w0
  by_cases h7 : 7 < a0
  · go_enter Try.func7, Try.ntmps7
    go_wp2_with fail
    go_ret
    exact ⟨rfl, by go_grown⟩
  obtain ⟨k, rfl⟩ := Int.eq_ofNat_of_zero_le h0.1
  have hk : k < 8 := by omega
  have hK := kebab_nm k hk
  go_enter Try.func7, Try.ntmps7
  go_wp2_with fail
  refine (nm_any k hk _).mono ?_
  rintro e w' ⟨rfl, rfl⟩
  generalize nm k = s at *
  have hb := get_bt s
  have lo := hK.lo
  have hi := hK.hi
  have e1 := hK.first
  have e2 := hK.last
  have hs0 : ((s.size : Int) == 0) = false := by simp; rintro rfl; simp at lo
  have hse : ¬ s = ByteArray.empty := by rintro rfl; simp at lo
  have hE := Lib.hid hK.each
  clear hK
  go_wp2_with fail
  go_loop [4, 5] (fun i _ => ∃ j : Nat, j ≤ s.size ∧ i = .int .i64 j) (fun i _ => s.size - (intOf i).toNat)
  case atStart => exact ⟨0, by omega, rfl⟩
  case round =>
    obtain ⟨j, hj, rfl⟩ := hrel
    clear e1 e2
    by_cases hlt : j < s.size
    · rcases hE.out j hlt with ⟨q1, q2, q3⟩ | ⟨q1, q2, q3⟩
      · go_wp2_with fail
        go_round
        case rel => exact ⟨j + 1, by omega, by go_num⟩
        case measure => simp [intOf]; omega
      · go_wp2_with fail
        go_round
        case rel => exact ⟨j + 1, by omega, by go_num⟩
        case measure => simp [intOf]; omega
    · go_wp2_with fail
      go_ret
      exact ⟨rfl, by go_grown⟩

set_option maxRecDepth 100000 in
theorem lifted (os : Os) (started : os.Started) (H : Type) (enc : TypeId × Value → H) :
    ReturnsInHanded {} Try.checked os 7 .any (Rows.fnImportKindMetafileNameIsKebabWordSpec.pre6 enc Try.prog Try.f7 Rows.fnImportKindMetafileNameIsKebabWordRow.domain false) (Rows.fnImportKindMetafileNameIsKebabWordSpec.post enc Try.prog Try.f7 false true false false) := by
  refine returnsInHanded_of_change (C := Try.checked) own started (by kernel_rfl) Try.func7
    (ChangeSpec.witness6 (enc := enc) (C := Try.checked) false ⟨#[], #[.int .u8 0], []⟩ 8 (by kernel_rfl) (by kernel_rfl) (by kernel_rfl) (by kernel_rfl)) ?_
  intro W base args ds gs before hval0 hW hcnd _
  have hval : ∀ (j : Nat) t v, Try.f7.params[j]? = some t → args[j]? = some v → Value.okWide Try.prog W .any base t v := hval0
  have hW' := hW
  obtain ⟨p, q, hA0, hV, rfl, hfz, hnd⟩ := hW
  have hA : DataW.TrodAll enc Try.prog W 0 (fun _ => true) true Try.f7.params.toList args.toList ds p := hA0
  rw [Try.params7] at hA hval
  obtain ⟨v0, vs0, d0, ds0, p0, q0, hargs0, rfl, rfl, h0, r0⟩ := trodAll_cons hA
  obtain ⟨rfl, rfl, rfl⟩ := trodAll_nil r0
  obtain rfl : args = #[v0] := by cases args; simp_all
  obtain ⟨a0, rfl, rfl, rfl, w0⟩ := open_int Try.underlying5 (hval 0 5 v0 rfl rfl) h0
  clear hA0 hval0
  refine (walk a0 w0 W).mono fun e W' ⟨he, hg⟩ => ?_
  subst he
  exact ⟨_, rfl, law_post laid readEach rfl rfl Try.underlying4 ⟨rfl, rfl, rfl⟩ hW' hg⟩

theorem over : Rows.fnImportKindMetafileNameIsKebabWordRow.holds Try.pinned (OpenSpec.ofChange Rows.fnImportKindMetafileNameIsKebabWordSpec) :=
  OpenClaim.holds_of_wide 7 Try.f7 rfl rfl rfl rfl rfl rfl rfl ⟨rfl, rfl, rfl, rfl, rfl⟩ rfl rfl rfl rfl rfl (by kernel_rfl) Try.func7 (by kernel_rfl)
    (of_decide_eq_true (by kernel_rfl)) (by unfold Func.isWrapper; first | (rw [if_pos (by decide +kernel)]; kernel_rfl) | (rw [if_neg (by decide +kernel)]; exact ⟨rfl, rfl⟩))
    (fun os started H enc _ => lifted os started H enc)

/-- The statement. -/
theorem proved : Rows.FnImportKindMetafileNameIsKebabWordSaid :=
  over
#print axioms proved
end Go.Proofs.Ytajoaaodnjlocab.fnImportKindMetafileNameIsKebabWord
