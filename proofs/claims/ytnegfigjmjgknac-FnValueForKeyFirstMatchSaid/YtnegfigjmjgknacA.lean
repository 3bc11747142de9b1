/-
  Proved: the law FnValueForKeyFirstMatch of folder n011_163 returns true for every argument that its parameter types allow, and leaves its arguments as they were; there is no further condition.
-/
import Derived.Test.YtnegfigjmjgknacRows
import Derived.WalkKit
import Derived.ProofKit
import Derived.OpenShut
import Derived.Below
import Derived.Carry
import Derived.ChangeMaps5
import Derived.Handy
import Derived.Lib.Hide
import Derived.WalkSpells
import Derived.OwnWalk
import Derived.Deep.RegionHeld3
import Derived.Deep.Cut
import Derived.Test.YtnegfigjmjgknacVl
namespace Go.Proofs.Ytnegfigjmjgknac.fnValueForKeyFirstMatch
open Go.ChangeShapes Go.WideShapes Go.ChangeAt Go.RowKit
set_option linter.unusedVariables false

theorem own : ownKnob Try.prog.godebug = none := by kernel_rfl
theorem laid : laidOutB Try.prog = true := by kernel_rfl
theorem readAll : (Try.f4.params.toList.all fun t => Try.prog.readableRec t && decide (t < Try.prog.types.size)) = true := by kernel_rfl
theorem readEach : ∀ t ∈ Try.f4.params.toList, Try.prog.readableRec t = true ∧ t < Try.prog.types.size := fun t ht => by
  have := List.all_eq_true.1 readAll t ht
  simpa using this
section
variable {H : Type} {enc : TypeId × Value → H} {P : Program}
theorem trodAll_stays (hl : laidOutB P = true) {W W' : World} (hb : Below W.heap.size W W') {sp : Nat → Bool} : ∀ {ts : List TypeId} {vs : List Value} {ds : List (DataW H)} {ps : List MemPlace},
    (∀ t ∈ ts, P.readableRec t = true ∧ t < P.types.size) → DataW.TrodAll enc P W 0 (fun _ => true) true ts vs ds ps → (∀ p ∈ ps, p.block < W.heap.size) → (∀ p ∈ ps, sp p.block = true) → DataW.TrodAll enc P W' 0 sp true ts vs ds ps
  | [], [], [], _, _, h, _, _ => h
  | _ :: _, _ :: _, _ :: _, _, hT, ⟨p, q, h1, h2, e⟩, hlt, hs =>
    ⟨p, q, WideElems.Trod_stays hl (hT _ (List.mem_cons.2 (Or.inl rfl))).1 (hT _ (List.mem_cons.2 (Or.inl rfl))).2 h1 (fun x hx => hb.same (hlt x (by rw [e]; exact List.mem_append_left _ hx))) (fun x hx => hs x (by rw [e]; exact List.mem_append_left _ hx)),
      trodAll_stays hl hb (fun t ht => hT t (List.mem_cons.2 (Or.inr ht))) h2 (fun x hx => hlt x (by rw [e]; exact List.mem_append_right _ hx)) (fun x hx => hs x (by rw [e]; exact List.mem_append_right _ hx)), e⟩

/-- A law's step: the result is true, the arguments are kept, the world has changed in new blocks alone. -/
theorem law_post {f : Func} {s : ChangeSpec} {apart fresh handsOn again : Bool} {W W' : World} {args : Array Value} {ds gs : List (DataW H)} {before : List MemPlace} {tb : TypeId}
    (hl : laidOutB P = true) (hps : ∀ t ∈ f.params.toList, P.readableRec t = true ∧ t < P.types.size) (hv : s.vars = []) (hr : f.resultTypes = #[tb]) (ht : P.underlying tb = some .bool)
    (hs : (s.fn H (ds ++ [])).results = [.lit (.bool true)] ∧ (s.fn H (ds ++ [])).args = ds ∧ (s.fn H (ds ++ [])).vars = [])
    (hW : DataW.Whole enc P f.params.toList s.vars apart W args.toList ds gs before) (hb : Below W.heap.size W W') :
    s.post enc P f apart fresh handsOn again W args (.bool true) W' := by
  have hlt : ∀ p ∈ before, p.block < W.heap.size := fun p hp => hW.lt p hp
  have hold : ∀ p ∈ before, (fun b => decide (b < W.heap.size)) p.block = true := fun p hp => by simpa using hlt p hp
  have hW0 := hW
  obtain ⟨pa, pv, hA, hV, rfl, hz, hn⟩ := hW
  rw [hv] at hV
  obtain ⟨rfl, rfl⟩ := trodVars_none hV
  have hres : ∀ (b : Nat) (sp : Nat → Bool) (hd : Bool), DataW.TrodAll enc P W' b sp hd f.resultTypes.toList ((Value.bool true).resultList f.resultTypes.size) (s.fn H (ds ++ [])).results [] := fun b sp hd => by
    rw [hs.1, hr]; exact trodAll_cons_mk (shut_bool ht _) trodAll_mk0
  have hargs : ∀ sp : Nat → Bool, (∀ p ∈ pa ++ [], sp p.block = true) → DataW.TrodAll enc P W' 0 sp true f.params.toList args.toList (s.fn H (ds ++ [])).args pa := fun sp hsp => by
    rw [hs.2.1]; exact trodAll_stays hl hb hps hA (fun p hp => hlt p (by simpa using hp)) (fun p hp => hsp p (by simpa using hp))
  have hvars : ∀ sp : Nat → Bool, DataW.TrodVars enc P W' sp s.vars (s.fn H (ds ++ [])).vars [] := fun sp => by rw [hv, hs.2.2]; rfl
  refine ⟨ds, [], pa ++ [], [], pa, [], hW0, hres _ _ _, hargs _ hold, hvars _, World.keptBut_mono (fun p hp => ⟨hp, Or.inr (List.mem_append.1 hp)⟩) (hb.frame (· ∈ pa ++ [])), fun _ => ?_⟩
  refine ⟨?_, _, _, ([] ++ pa) ++ [], ⟨[] ++ pa, [], trodAll_append (hargs _ (fun _ _ => rfl)) (hres _ _ _), hvars _, rfl, ?_, ?_⟩, ?_⟩
  · intro j t r h1 h2
    rw [hr] at h1 h2
    match j, h1, h2 with
    | 0, h1, h2 =>
      obtain rfl : tb = t := by simpa using h1
      obtain rfl : Value.bool true = r := by simpa [Value.resultList] using h2
      exact okWide_bool_mk ht _
    | j + 1, h1, _ => simp at h1
  · intro b off hp
    have hp' : MemPlace.cell b off ∈ pa ++ [] := by simpa using hp
    rw [hb.frozen (hlt _ hp')]
    exact hz b off hp'
  · intro ha
    simpa using hn ha
  · intro p hp _
    simpa using hp
end

open Go.PlainAid Str Mem Url Sz Ks Vk Vl
def Fnd (S : Nat → ByteArray) (p : ByteArray) (k n : Nat) (f : Int) : Prop :=
  (f = -1 ∧ ∀ j, k ≤ j → j < n → S j ≠ p) ∨ ∃ j : Nat, f = (j : Int) ∧ k ≤ j ∧ j < n ∧ S j = p ∧ ∀ i, k ≤ i → i < j → S i ≠ p
theorem Fnd.yes {S : Nat → ByteArray} {p : ByteArray} {k n : Nat} (hk : k < n) (h : S k = p) : Fnd S p k n (k : Int) := .inr ⟨k, rfl, Nat.le_refl _, hk, h, fun i h1 h2 => absurd h1 (by omega)⟩
theorem Fnd.no {S : Nat → ByteArray} {p : ByteArray} {k n : Nat} {f : Int} (h : S k ≠ p) (hf : Fnd S p (k + 1) n f) : Fnd S p k n f := by
  have key : ∀ j, k ≤ j → j = k ∨ k + 1 ≤ j := fun j hj => by omega
  rcases hf with ⟨rfl, hf⟩ | ⟨j, rfl, h1, h2, h3, h4⟩
  · refine .inl ⟨rfl, fun j hj hn => ?_⟩
    rcases key j hj with rfl | h'
    · exact h
    · exact hf j h' hn
  · refine .inr ⟨j, rfl, by omega, h2, h3, fun i hi hij => ?_⟩
    rcases key i hi with rfl | h'
    · exact h
    · exact h4 i h' hij
theorem Fnd.case {S T : Nat → ByteArray} {p gs : ByteArray} {n : Nat} {f kd : Int} {ok : Bool} (h : Fnd S p 0 n f) (hv : VfCase n S T p gs kd ok) :
    (∃ j : Nat, f = (j : Int) ∧ j < n ∧ gs = T j ∧ kd = 1 ∧ ok = true) ∨ (f = -1 ∧ gs = ⟨#[]⟩ ∧ kd = 0 ∧ ok = false) := by
  rcases h with ⟨rfl, h⟩ | ⟨j, rfl, _, h2, h3, h4⟩
  · rcases hv with ⟨k, hk, hS, _⟩ | ⟨_, h1, h2, h3⟩
    · exact absurd hS (h k (Nat.zero_le _) hk)
    · exact .inr ⟨rfl, h1, h2, h3⟩
  · rcases hv with ⟨k, hk, hS, hm, h5, h6, h7⟩ | ⟨hm, _⟩
    · have : j = k := by
        rcases Nat.lt_trichotomy j k with h | h | h
        · exact absurd h3 (hm j h)
        · exact h
        · exact absurd hS (h4 k (Nat.zero_le _) h)
      subst this
      exact .inl ⟨j, rfl, h2, h5, h6, h7⟩
    · exact absurd h3 (hm j h2)
theorem keepE {w wq W W1 : World} {b off j g : Nat} {u v0 v1 v2 v3 v4 v5 v6 : Value} {t : TypeId} (hb : b < wq.heap.size)
    (h : W.cell? ⟨b, off + j, none⟩ = some u ∧ Own W g t #[v0, v1, v2, v3, v4, v5, v6] ∧ W.cell? ⟨g, 0, none⟩ = some v0 ∧ W.cell? ⟨g, 1, none⟩ = some v1 ∧ W.cell? ⟨g, 2, none⟩ = some v2 ∧ W.cell? ⟨g, 3, none⟩ = some v3 ∧ W.cell? ⟨g, 4, none⟩ = some v4 ∧ W.cell? ⟨g, 5, none⟩ = some v5 ∧ W.cell? ⟨g, 6, none⟩ = some v6 ∧ wq.heap.size ≤ W.heap.size ∧ Below w.heap.size w W)
    (h1 : Below W.heap.size W W1) : W1.cell? ⟨b, off + j, none⟩ = some u ∧ Own W1 g t #[v0, v1, v2, v3, v4, v5, v6] ∧ W1.cell? ⟨g, 0, none⟩ = some v0 ∧ W1.cell? ⟨g, 1, none⟩ = some v1 ∧ W1.cell? ⟨g, 2, none⟩ = some v2 ∧ W1.cell? ⟨g, 3, none⟩ = some v3 ∧ W1.cell? ⟨g, 4, none⟩ = some v4 ∧ W1.cell? ⟨g, 5, none⟩ = some v5 ∧ W1.cell? ⟨g, 6, none⟩ = some v6 ∧ wq.heap.size ≤ W1.heap.size ∧ Below w.heap.size w W1 := by
  obtain ⟨a, o, _, _, _, _, _, _, _, z, B⟩ := h
  have o1 := o.below h1 o.lt
  have hz := h1.size
  have hw := B.size
  exact ⟨(h1.cell (p := ⟨b, off + j, none⟩) (by show b < W.heap.size; omega)).trans a, o1, o1.cell 0, o1.cell 1, o1.cell 2, o1.cell 3, o1.cell 4, o1.cell 5, o1.cell 6, by omega, B.trans (h1.mono hw)⟩
set_option maxRecDepth 100000 in
set_option maxHeartbeats 4000000 in
theorem walk (A0 : Option Addr) (n0 c0 : Nat) (S0 : Nat → ByteArray) (A1 : Option Addr) (n1 c1 : Nat) (S1 : Nat → ByteArray) (a2 : ByteArray) (w : World) (hA0 : Mem.Rd w w.heap.size 1 A0 n0 (fun j => .string (S0 j))) (hc0 : c0 ≤ maxLen) (hn0 : n0 ≤ c0) (hz0 : A0 = none → n0 = 0 ∧ c0 = 0) (hS0 : ∀ j, j < n0 → (S0 j).size ≤ maxLen) (hA1 : Mem.Rd w w.heap.size 1 A1 n1 (fun j => .string (S1 j))) (hc1 : c1 ≤ maxLen) (hn1 : n1 ≤ c1) (hz1 : A1 = none → n1 = 0 ∧ c1 = 0) (hS1 : ∀ j, j < n1 → (S1 j).size ≤ maxLen) (w2 : a2.size ≤ maxLen) :
    Calls Try.prog 4 #[.slice A0 n0 c0, .slice A1 n1 c1, .string a2] w fun e w' => e = .returned (.bool true) ∧ Below w.heap.size w w' := by
  have HA0 := Lib.hid hA0
  have HA1 := Lib.hid hA1
  have HS0 := Lib.hid hS0
  have HS1 := Lib.hid hS1
  have hN0 : n0 ≤ maxLen := Nat.le_trans hn0 hc0
  have hN1 : n1 ≤ maxLen := Nat.le_trans hn1 hc1
  clear hA0 hA1 hS0 hS1 hz0 hz1
  go_enter Try.func4, Try.ntmps4
  go_wp2_with fail
  refine (bytes12 A0 n0 c0 S0 A1 n1 c1 S1 a2 _ HA0.out hN0 HS0.out HA1.out hN1 HS1.out w2).mono ?_
  rintro e w' ⟨rfl, rfl⟩
  by_cases ht : (n0 + tot S0 n0) + (n1 + tot S1 n1) + a2.size ≤ 1048576
  · rw [szOk_yes ht]
    clear hN0 hN1 hc0 hc1 w2
    go_wp2_with fail
    refine (sum8 A0 n0 c0 S0 _ HA0.out (by omega)).mono ?_
    rintro e w' ⟨⟨N0, p0, q0, rfl⟩, rfl⟩
    go_wp2_with fail
    refine (sum8 A1 n1 c1 S1 _ HA1.out (by omega)).mono ?_
    rintro e w' ⟨⟨N1, p1, q1, rfl⟩, rfl⟩
    by_cases hnn : n0 = n1
    · subst hnn
      have tn : ((n0 : Int) != (n0 : Int)) = false := by simp
      go_wp2_with fail
      · go_ret
        exact ⟨rfl, by go_grown⟩
      clear tn
      refine (obj_any A0 n0 c0 S0 A1 c1 S1 _ HA0.out HA1.out (by omega)).mono ?_
      rintro e w1 ⟨g, rfl, hg, hcg, b1⟩
      have HCG := Lib.hid hcg
      clear hcg
      go_wp2_with fail
      refine (vfk14 g n0 S0 S1 a2 _ (by simp; omega) (fun j hj => ?_) (by omega)).mono ?_
      · rw [World.cell?_alloc_lt _ _ _ (by simpa using hg)]
        exact HCG.out j hj
      intro e w2 hv
      obtain ⟨gs, kd, ok, rfl, hcase, b2⟩ := hv.split
      have HV := Lib.hid hcase
      clear hv hcase HCG
      have hz1 := b1.size
      have hB : Below w.heap.size w w2 := (b1.alloc hz1 _).trans (b2.mono (by simp; omega))
      clear b1 b2
      have hz2 := hB.size
      go_wp2_with fail
      have hB2 := hB.alloc hz2 (.cells #[.string gs, .slice none 0 0, .slice none 0 0, .slice none 0 0, .int .i32 0, .int .i32 0, .int .u8 kd] 38)
      have hO := Own.new w2 38 #[.string gs, .slice none 0 0, .slice none 0 0, .slice none 0 0, .int .i32 0, .int .i32 0, .int .u8 kd]
      have hzz : w2.heap.size < (w2.alloc (.cells #[.string gs, .slice none 0 0, .slice none 0 0, .slice none 0 0, .int .i32 0, .int .i32 0, .int .u8 kd] 38)).heap.size := by simp
      generalize w2.alloc (.cells #[.string gs, .slice none 0 0, .slice none 0 0, .slice none 0 0, .int .i32 0, .int .i32 0, .int .u8 kd] 38) = wq at *
      have HO := Lib.hid hO
      clear hB hO
      go_loop [10, 11] (fun f i => ∃ (k : Nat) (f' : Int), k ≤ n0 ∧ i = .int .i64 ((k : Int) - 1) ∧ f = .int .i64 f' ∧ Fnd S0 a2 k n0 f') (fun _ i => (intOf i + 1).toNat)
      case atStart => exact ⟨n0, -1, Nat.le_refl _, rfl, rfl, .inl ⟨rfl, fun j h1 h2 => absurd h1 (by omega)⟩⟩
      case round =>
        obtain ⟨k, f', hk, rfl, rfl, hf⟩ := hrel
        have HF := Lib.hid hf
        clear hf
        rcases k with _ | k
        · obtain ⟨j, hfj, hj, hgs, hkd, hok⟩ | ⟨hfj, hgs, hkd, hok⟩ := HF.out.case HV.out
          · subst hfj hgs hkd hok
            obtain ⟨b, off, rfl, hbb, hc⟩ := HA1.out (by omega)
            have hck := (hB2.cell (p := ⟨b, off + j, none⟩) hbb).trans (hc j (by omega))
            clear hc HA0 HA1 HV HF
            have d0 := HO.out.cell 0
            have d1 := HO.out.cell 1
            have d2 := HO.out.cell 2
            have d3 := HO.out.cell 3
            have d4 := HO.out.cell 4
            have d5 := HO.out.cell 5
            have d6 := HO.out.cell 6
            have hbq : b < wq.heap.size := by omega
            have te : ((S1 j).toList == (S1 j).toList) = true := eqT rfl
            rw [show ((0 : Nat) : Int) - 1 = -1 from rfl]
            go_wp2_with fail
            go_region_held3 (fun W => W.cell? ⟨b, off + j, none⟩ = some (.string (S1 j)) ∧ Own W w2.heap.size 38 #[.string (S1 j), .slice none 0 0, .slice none 0 0, .slice none 0 0, .int .i32 0, .int .i32 0, .int .u8 1] ∧ W.cell? ⟨w2.heap.size, 0, none⟩ = some (.string (S1 j)) ∧ W.cell? ⟨w2.heap.size, 1, none⟩ = some (.slice none 0 0) ∧ W.cell? ⟨w2.heap.size, 2, none⟩ = some (.slice none 0 0) ∧ W.cell? ⟨w2.heap.size, 3, none⟩ = some (.slice none 0 0) ∧ W.cell? ⟨w2.heap.size, 4, none⟩ = some (.int .i32 0) ∧ W.cell? ⟨w2.heap.size, 5, none⟩ = some (.int .i32 0) ∧ W.cell? ⟨w2.heap.size, 6, none⟩ = some (.int .u8 1) ∧ wq.heap.size ≤ W.heap.size ∧ Below w.heap.size w W)
              (first | with_reducible exact keepE hbq (by assumption) hb1 | with_reducible exact keepE hbq (by assumption) hb2 | exact ⟨hck, HO.out, d0, d1, d2, d3, d4, d5, d6, Nat.le_refl _, below_drew hB2⟩)
              (first | (go_at_call 16; refine (kind16 _ _ _).mono ?_; rintro e w3 ⟨rfl, hb1⟩) | (go_at_call 17; refine (str17 _ _ _).mono ?_; rintro e w4 ⟨rfl, hb2⟩))
            have hz3 : wq.heap.size ≤ w3.heap.size := hb1.size
            have hzq := hB2.size
            have hF := ((below_drew hB2).trans (hb1.mono hzq)).trans (hb2.mono (by omega))
            go_wp2_with fail
            go_ret
            exact ⟨rfl, hF⟩
          · subst hfj hgs hkd hok
            clear HA0 HA1 HV HF
            have d0 := HO.out.cell 0
            have d1 := HO.out.cell 1
            have d2 := HO.out.cell 2
            have d3 := HO.out.cell 3
            have d4 := HO.out.cell 4
            have d5 := HO.out.cell 5
            have d6 := HO.out.cell 6
            have hzq := hB2.size
            rw [show ((0 : Nat) : Int) - 1 = -1 from rfl]
            go_wp2_with fail
            refine (zero15 _).mono ?_
            rintro e w3 ⟨rfl, b3⟩
            go_wp2_with fail
            go_ret
            exact ⟨rfl, hB2.trans (b3.mono hzq)⟩
        · obtain ⟨b, off, rfl, hbb, hc⟩ := HA0.out (by omega)
          have hck := (hB2.cell (p := ⟨b, off + k, none⟩) hbb).trans (hc k (by omega))
          clear hc
          by_cases he : S0 k = a2
          · have te := eqT he
            have HE := Lib.hid he
            clear he
            rw [show ((k + 1 : Nat) : Int) - 1 = (k : Int) by omega]
            go_wp2_with fail
            go_round
            case rel => exact ⟨k, (k : Int), by omega, rfl, rfl, Fnd.yes (by omega) HE.out⟩
            case measure => simp [intOf]
          · have te := eqF he
            have HE := Lib.hid he
            clear he
            rw [show ((k + 1 : Nat) : Int) - 1 = (k : Int) by omega]
            go_wp2_with fail
            go_round
            case rel => exact ⟨k, f', by omega, rfl, rfl, Fnd.no HE.out HF.out⟩
            case measure => simp [intOf]
    · have tn : ((n0 : Int) != (n1 : Int)) = true := by simp; omega
      go_wp2_with fail
      all_goals (go_ret; exact ⟨rfl, by go_grown⟩)
  · rw [szOk_no ht]
    go_wp2_with fail
    go_ret
    exact ⟨rfl, by go_grown⟩

set_option maxRecDepth 100000 in
theorem lifted (os : Os) (started : os.Started) (H : Type) (enc : TypeId × Value → H) :
    ReturnsInHanded {} Try.checked os 4 .any (Rows.fnValueForKeyFirstMatchSpec.pre6 enc Try.prog Try.f4 Rows.fnValueForKeyFirstMatchRow.domain false) (Rows.fnValueForKeyFirstMatchSpec.post enc Try.prog Try.f4 false true false false) := by
  refine returnsInHanded_of_change (C := Try.checked) own started (by kernel_rfl) Try.func4
    (ChangeSpec.witness6 (enc := enc) (C := Try.checked) false ⟨#[], #[.slice none 0 0, .slice none 0 0, .string ⟨#[]⟩], []⟩ 8 (by kernel_rfl) (by kernel_rfl) (by kernel_rfl) (by kernel_rfl)) ?_
  intro W base args ds gs before hval0 hW hcnd _
  have hval : ∀ (j : Nat) t v, Try.f4.params[j]? = some t → args[j]? = some v → Value.okWide Try.prog W .any base t v := hval0
  have hW' := hW
  obtain ⟨p, q, hA0, hV, rfl, hfz, hnd⟩ := hW
  have hA : DataW.TrodAll enc Try.prog W 0 (fun _ => true) true Try.f4.params.toList args.toList ds p := hA0
  rw [Try.params4] at hA hval
  obtain ⟨v0, vs0, d0, ds0, p0, q0, hargs0, rfl, rfl, h0, r0⟩ := trodAll_cons hA
  obtain ⟨v1, vs1, d1, ds1, p1, q1, hargs1, rfl, rfl, h1, r1⟩ := trodAll_cons r0
  obtain ⟨v2, vs2, d2, ds2, p2, q2, hargs2, rfl, rfl, h2, r2⟩ := trodAll_cons r1
  obtain ⟨rfl, rfl, rfl⟩ := trodAll_nil r2
  obtain rfl : args = #[v0, v1, v2] := by cases args; simp_all
  obtain ⟨A0, n0, c0, S0, rfl, hn0, hc0, hz0, hA0, hS0⟩ := Mem.open_strings Try.underlying22 Try.underlying9 (by kernel_rfl) (hval 0 22 v0 rfl rfl) h0
  obtain ⟨A1, n1, c1, S1, rfl, hn1, hc1, hz1, hA1, hS1⟩ := Mem.open_strings Try.underlying22 Try.underlying9 (by kernel_rfl) (hval 1 22 v1 rfl rfl) h1
  obtain ⟨a2, rfl, rfl, rfl, w2⟩ := Go.ChangeMaps.open_string Try.underlying9 (hval 2 9 v2 rfl rfl) h2
  clear hA0 hval0
  refine (walk A0 n0 c0 S0 A1 n1 c1 S1 a2 W hA0 hc0 hn0 hz0 hS0 hA1 hc1 hn1 hz1 hS1 w2).mono fun e W' ⟨he, hg⟩ => ?_
  subst he
  exact ⟨_, rfl, law_post laid readEach rfl rfl Try.underlying4 ⟨rfl, rfl, rfl⟩ hW' hg⟩

theorem over : Rows.fnValueForKeyFirstMatchRow.holds Try.pinned (OpenSpec.ofChange Rows.fnValueForKeyFirstMatchSpec) :=
  OpenClaim.holds_of_wide 4 Try.f4 rfl rfl rfl rfl rfl rfl rfl ⟨rfl, rfl, rfl, rfl, rfl⟩ rfl rfl rfl rfl rfl (by kernel_rfl) Try.func4 (by kernel_rfl)
    (of_decide_eq_true (by kernel_rfl)) (by unfold Func.isWrapper; first | (rw [if_pos (by decide +kernel)]; kernel_rfl) | (rw [if_neg (by decide +kernel)]; exact ⟨rfl, rfl⟩))
    (fun os started H enc _ => lifted os started H enc)

/-- The statement. -/
theorem proved : Rows.FnValueForKeyFirstMatchSaid :=
  over
#print axioms proved
end Go.Proofs.Ytnegfigjmjgknac.fnValueForKeyFirstMatch
