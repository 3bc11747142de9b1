/-
  Proved: the law FnSwapExchangesExactlyTwo of folder n011_163 returns true for every argument that its parameter types allow, and leaves its arguments as they were; there is no further condition.
-/
import Derived.Test.YtnegfigjmjgknacRows
import Derived.WalkKit
import Derived.ProofKit
import Derived.OpenShut
import Derived.Below
import Derived.Carry
import Derived.ChangeMaps5
import Derived.Handy
import Derived.Lib.Hide
import Derived.WalkSpells
import Derived.OwnWalk
import Derived.Test.YtnegfigjmjgknacSwb
namespace Go.Proofs.Ytnegfigjmjgknac.fnSwapExchangesExactlyTwo
open Go.ChangeShapes Go.WideShapes Go.ChangeAt Go.RowKit
set_option linter.unusedVariables false

theorem own : ownKnob Try.prog.godebug = none := by kernel_rfl
theorem laid : laidOutB Try.prog = true := by kernel_rfl
theorem readAll : (Try.f3.params.toList.all fun t => Try.prog.readableRec t && decide (t < Try.prog.types.size)) = true := by kernel_rfl
theorem readEach : ∀ t ∈ Try.f3.params.toList, Try.prog.readableRec t = true ∧ t < Try.prog.types.size := fun t ht => by
  have := List.all_eq_true.1 readAll t ht
  simpa using this
section
variable {H : Type} {enc : TypeId × Value → H} {P : Program}
theorem trodAll_stays (hl : laidOutB P = true) {W W' : World} (hb : Below W.heap.size W W') {sp : Nat → Bool} : ∀ {ts : List TypeId} {vs : List Value} {ds : List (DataW H)} {ps : List MemPlace},
    (∀ t ∈ ts, P.readableRec t = true ∧ t < P.types.size) → DataW.TrodAll enc P W 0 (fun _ => true) true ts vs ds ps → (∀ p ∈ ps, p.block < W.heap.size) → (∀ p ∈ ps, sp p.block = true) → DataW.TrodAll enc P W' 0 sp true ts vs ds ps
  | [], [], [], _, _, h, _, _ => h
  | _ :: _, _ :: _, _ :: _, _, hT, ⟨p, q, h1, h2, e⟩, hlt, hs =>
    ⟨p, q, WideElems.Trod_stays hl (hT _ (List.mem_cons.2 (Or.inl rfl))).1 (hT _ (List.mem_cons.2 (Or.inl rfl))).2 h1 (fun x hx => hb.same (hlt x (by rw [e]; exact List.mem_append_left _ hx))) (fun x hx => hs x (by rw [e]; exact List.mem_append_left _ hx)),
      trodAll_stays hl hb (fun t ht => hT t (List.mem_cons.2 (Or.inr ht))) h2 (fun x hx => hlt x (by rw [e]; exact List.mem_append_right _ hx)) (fun x hx => hs x (by rw [e]; exact List.mem_append_right _ hx)), e⟩

/-- A law's step: the result is true, the arguments are kept, the world has changed in new blocks alone. -/
theorem law_post {f : Func} {s : ChangeSpec} {apart fresh handsOn again : Bool} {W W' : World} {args : Array Value} {ds gs : List (DataW H)} {before : List MemPlace} {tb : TypeId}
    (hl : laidOutB P = true) (hps : ∀ t ∈ f.params.toList, P.readableRec t = true ∧ t < P.types.size) (hv : s.vars = []) (hr : f.resultTypes = #[tb]) (ht : P.underlying tb = some .bool)
    (hs : (s.fn H (ds ++ [])).results = [.lit (.bool true)] ∧ (s.fn H (ds ++ [])).args = ds ∧ (s.fn H (ds ++ [])).vars = [])
    (hW : DataW.Whole enc P f.params.toList s.vars apart W args.toList ds gs before) (hb : Below W.heap.size W W') :
    s.post enc P f apart fresh handsOn again W args (.bool true) W' := by
  have hlt : ∀ p ∈ before, p.block < W.heap.size := fun p hp => hW.lt p hp
  have hold : ∀ p ∈ before, (fun b => decide (b < W.heap.size)) p.block = true := fun p hp => by simpa using hlt p hp
  have hW0 := hW
  obtain ⟨pa, pv, hA, hV, rfl, hz, hn⟩ := hW
  rw [hv] at hV
  obtain ⟨rfl, rfl⟩ := trodVars_none hV
  have hres : ∀ (b : Nat) (sp : Nat → Bool) (hd : Bool), DataW.TrodAll enc P W' b sp hd f.resultTypes.toList ((Value.bool true).resultList f.resultTypes.size) (s.fn H (ds ++ [])).results [] := fun b sp hd => by
    rw [hs.1, hr]; exact trodAll_cons_mk (shut_bool ht _) trodAll_mk0
  have hargs : ∀ sp : Nat → Bool, (∀ p ∈ pa ++ [], sp p.block = true) → DataW.TrodAll enc P W' 0 sp true f.params.toList args.toList (s.fn H (ds ++ [])).args pa := fun sp hsp => by
    rw [hs.2.1]; exact trodAll_stays hl hb hps hA (fun p hp => hlt p (by simpa using hp)) (fun p hp => hsp p (by simpa using hp))
  have hvars : ∀ sp : Nat → Bool, DataW.TrodVars enc P W' sp s.vars (s.fn H (ds ++ [])).vars [] := fun sp => by rw [hv, hs.2.2]; rfl
  refine ⟨ds, [], pa ++ [], [], pa, [], hW0, hres _ _ _, hargs _ hold, hvars _, World.keptBut_mono (fun p hp => ⟨hp, Or.inr (List.mem_append.1 hp)⟩) (hb.frame (· ∈ pa ++ [])), fun _ => ?_⟩
  refine ⟨?_, _, _, ([] ++ pa) ++ [], ⟨[] ++ pa, [], trodAll_append (hargs _ (fun _ _ => rfl)) (hres _ _ _), hvars _, rfl, ?_, ?_⟩, ?_⟩
  · intro j t r h1 h2
    rw [hr] at h1 h2
    match j, h1, h2 with
    | 0, h1, h2 =>
      obtain rfl : tb = t := by simpa using h1
      obtain rfl : Value.bool true = r := by simpa [Value.resultList] using h2
      exact okWide_bool_mk ht _
    | j + 1, h1, _ => simp at h1
  · intro b off hp
    have hp' : MemPlace.cell b off ∈ pa ++ [] := by simpa using hp
    rw [hb.frozen (hlt _ hp')]
    exact hz b off hp'
  · intro ha
    simpa using hn ha
  · intro p hp _
    simpa using hp
end

open Go.PlainAid Str Mem Sz Ks Vk Vl It Swa Swb
theorem rowFacts {W : World} {g n i j k b off src : Nat} {S : Nat → ByteArray} (hc : Rws.Cells W g 57 (n * 10) (Rws.swp 10 i j (cellF S itS))) (hk : k < n) (hsrc : src = if k = i then j else if k = j then i else k)
    (hb : W.cell? ⟨b, off + src, none⟩ = some (.string (S src))) (hlb : b < W.heap.size) : W.cell? ⟨g, k * 10, none⟩ = some (.string (S src)) ∧ W.cell? ⟨g, k * 10 + 1, none⟩ = some (.string (itS src)) ∧ W.cell? ⟨g, k * 10 + 2, none⟩ = some (.slice none 0 0) ∧ W.cell? ⟨g, k * 10 + 3, none⟩ = some (.slice none 0 0) ∧ W.cell? ⟨g, k * 10 + 4, none⟩ = some (.slice none 0 0) ∧ W.cell? ⟨g, k * 10 + 5, none⟩ = some (.int .i32 0) ∧ W.cell? ⟨g, k * 10 + 6, none⟩ = some (.int .i32 0) ∧ W.cell? ⟨g, k * 10 + 7, none⟩ = some (.int .u8 1) ∧ W.cell? ⟨g, k * 10 + 8, none⟩ = some (.int .i32 0) ∧ W.cell? ⟨g, k * 10 + 9, none⟩ = some (.int .i32 0) ∧ W.cell? ⟨b, off + src, none⟩ = some (.string (S src)) ∧ g < W.heap.size ∧ b < W.heap.size ∧ Below W.heap.size W W := by
  have key : ∀ r (hr : r < 10), W.cell? ⟨g, k * 10 + r, none⟩ = some ((vs10 (S src) (itS src))[r]'(by simpa [vs10] using hr)) := fun r hr => by
    rw [hc.cell (l := k * 10 + r) (by omega), Rws.swp_at hr, vs10_at S itS src r hr, hsrc]
    by_cases h1 : k = i
    · rw [if_pos h1, if_pos h1]
    · rw [if_neg h1, if_neg h1]
      by_cases h2 : k = j
      · rw [if_pos h2, if_pos h2]
      · rw [if_neg h2, if_neg h2]
  exact ⟨key 0 (by omega), key 1 (by omega), key 2 (by omega), key 3 (by omega), key 4 (by omega), key 5 (by omega), key 6 (by omega), key 7 (by omega), key 8 (by omega), key 9 (by omega), hb, hc.lt, hlb, Below.refl _ _⟩
set_option maxRecDepth 100000 in
set_option maxHeartbeats 4000000 in
theorem walk (A0 : Option Addr) (n0 c0 : Nat) (S0 : Nat → ByteArray) (a1 : Int) (a2 : Int) (w : World) (hA0 : Mem.Rd w w.heap.size 1 A0 n0 (fun j => .string (S0 j))) (hc0 : c0 ≤ maxLen) (hn0 : n0 ≤ c0) (hz0 : A0 = none → n0 = 0 ∧ c0 = 0) (hS0 : ∀ j, j < n0 → (S0 j).size ≤ maxLen) (w1 : (Lit.int .i64 a1).wf = true) (w2 : (Lit.int .i64 a2).wf = true) :
    Calls Try.prog 3 #[.slice A0 n0 c0, .int .i64 a1, .int .i64 a2] w fun e w' => e = .returned (.bool true) ∧ Below w.heap.size w w' := by
  have HA0 := Lib.hid hA0
  have HS0 := Lib.hid hS0
  have hN0 : n0 ≤ maxLen := Nat.le_trans hn0 hc0
  clear hA0 hS0 hz0
  go_enter Try.func3, Try.ntmps3
  go_wp2_with fail
  refine (bytes7 A0 n0 c0 S0 a1 a2 _ HA0.out hN0 HS0.out).mono ?_
  rintro e w' ⟨rfl, rfl⟩
  by_cases ht : n0 + tot S0 n0 ≤ 1048576
  · rw [szOk_yes ht]
    clear hN0 hc0 w1 w2
    go_wp2_with fail
    refine (sum8 A0 n0 c0 S0 _ HA0.out (by omega)).mono ?_
    rintro e w' ⟨⟨N0, p0, q0, rfl⟩, rfl⟩
    go_wp2_with fail
    all_goals first | (go_ret; exact ⟨rfl, by go_grown⟩) | skip
    obtain ⟨i, rfl⟩ : ∃ i : Nat, a1 = (i : Int) := ⟨a1.toNat, by omega⟩
    obtain ⟨j, rfl⟩ : ∃ j : Nat, a2 = (j : Int) := ⟨a2.toNat, by omega⟩
    have hi : i < n0 := by omega
    have hj : j < n0 := by omega
    have hN : n0 ≤ 1048576 := by omega
    refine (keyed9 A0 n0 c0 S0 _ HA0.out hN).mono ?_
    rintro e w1 ⟨g, rfl, hg, hc, b1⟩
    go_wp2_with fail
    refine (swap10 g n0 n0 i j S0 itS _ hc hi hj hN).mono ?_
    rintro e w2 ⟨rfl, s2⟩
    have c2 := s2.own hc rfl rfl (row10_at S0 itS i) (row10_at S0 itS j) (by decide)
    have b2 := s2.below b1 hg
    clear hc b1 s2
    have tn : ((n0 : Int) != (n0 : Int)) = false := by simp
    go_wp2_with fail
    clear tn
    go_loopw [8] (fun x wr => ∃ k : Nat, k ≤ n0 ∧ x = .int .i64 k ∧ Rws.Cells wr g 57 (n0 * 10) (Rws.swp 10 i j (cellF S0 itS)) ∧ Below w.heap.size w wr) (fun x _ => n0 - (intOf x).toNat)
    case atStart => exact ⟨0, by omega, rfl, c2, b2⟩
    case round =>
      clear c2 b2
      obtain ⟨k, hk, rfl, hc, hb⟩ := hrel
      have CC := Lib.hid hc
      have HB := Lib.hid hb
      have hbz := hb.size
      clear hc hb
      by_cases hlt : k < n0
      · obtain ⟨b, off, rfl, hbb, hcc⟩ := HA0.out (by omega)
        have hcell : ∀ src, src < n0 → wr.cell? ⟨b, off + src, none⟩ = some (.string (S0 src)) := fun src h => (HB.out.cell (p := ⟨b, off + src, none⟩) hbb).trans (hcc src (by omega))
        have HCC := Lib.hid hcell
        clear hcell hcc
        have hlb : b < wr.heap.size := by omega
        by_cases h1 : k = i
        · subst h1
          have t1 : ((k : Int) == (k : Int)) = true := by simp
          go_wp2_with fail
          refine (slotIs g n0 n0 k b off n0 c0 j (S0 j) (itS j) _ (rowFacts CC.out hlt (by simp) (HCC.out j hj) hlb) hlt hj hN hN rfl).mono ?_
          rintro e w4 ⟨rfl, b4⟩
          go_wp2_with fail
          exact ⟨⟨k + 1, by omega, by go_num, CC.out.below b4 CC.out.lt, HB.out.trans (b4.mono hbz)⟩, by simp [intOf]; omega⟩
        · have t1 : ((k : Int) == (i : Int)) = false := by simp; omega
          by_cases h2 : k = j
          · subst h2
            have t2 : ((k : Int) == (k : Int)) = true := by simp
            go_wp2_with fail
            refine (slotIs g n0 n0 k b off n0 c0 i (S0 i) (itS i) _ (rowFacts CC.out hlt (by simp [h1]) (HCC.out i hi) hlb) hlt hi hN hN rfl).mono ?_
            rintro e w4 ⟨rfl, b4⟩
            go_wp2_with fail
            exact ⟨⟨k + 1, by omega, by go_num, CC.out.below b4 CC.out.lt, HB.out.trans (b4.mono hbz)⟩, by simp [intOf]; omega⟩
          · have t2 : ((k : Int) == (j : Int)) = false := by simp; omega
            go_wp2_with fail
            refine (slotIs g n0 n0 k b off n0 c0 k (S0 k) (itS k) _ (rowFacts CC.out hlt (by simp [h1, h2]) (HCC.out k hlt) hlb) hlt hlt hN hN rfl).mono ?_
            rintro e w4 ⟨rfl, b4⟩
            go_wp2_with fail
            exact ⟨⟨k + 1, by omega, by go_num, CC.out.below b4 CC.out.lt, HB.out.trans (b4.mono hbz)⟩, by simp [intOf]; omega⟩
      · go_wp2_with fail
        go_ret
        exact ⟨rfl, HB.out⟩
  · rw [szOk_no ht]
    go_wp2_with fail
    go_ret
    exact ⟨rfl, by go_grown⟩

set_option maxRecDepth 100000 in
theorem lifted (os : Os) (started : os.Started) (H : Type) (enc : TypeId × Value → H) :
    ReturnsInHanded {} Try.checked os 3 .any (Rows.fnSwapExchangesExactlyTwoSpec.pre6 enc Try.prog Try.f3 Rows.fnSwapExchangesExactlyTwoRow.domain false) (Rows.fnSwapExchangesExactlyTwoSpec.post enc Try.prog Try.f3 false true false false) := by
  refine returnsInHanded_of_change (C := Try.checked) own started (by kernel_rfl) Try.func3
    (ChangeSpec.witness6 (enc := enc) (C := Try.checked) false ⟨#[], #[.slice none 0 0, .int .i64 0, .int .i64 0], []⟩ 8 (by kernel_rfl) (by kernel_rfl) (by kernel_rfl) (by kernel_rfl)) ?_
  intro W base args ds gs before hval0 hW hcnd _
  have hval : ∀ (j : Nat) t v, Try.f3.params[j]? = some t → args[j]? = some v → Value.okWide Try.prog W .any base t v := hval0
  have hW' := hW
  obtain ⟨p, q, hA0, hV, rfl, hfz, hnd⟩ := hW
  have hA : DataW.TrodAll enc Try.prog W 0 (fun _ => true) true Try.f3.params.toList args.toList ds p := hA0
  rw [Try.params3] at hA hval
  obtain ⟨v0, vs0, d0, ds0, p0, q0, hargs0, rfl, rfl, h0, r0⟩ := trodAll_cons hA
  obtain ⟨v1, vs1, d1, ds1, p1, q1, hargs1, rfl, rfl, h1, r1⟩ := trodAll_cons r0
  obtain ⟨v2, vs2, d2, ds2, p2, q2, hargs2, rfl, rfl, h2, r2⟩ := trodAll_cons r1
  obtain ⟨rfl, rfl, rfl⟩ := trodAll_nil r2
  obtain rfl : args = #[v0, v1, v2] := by cases args; simp_all
  obtain ⟨A0, n0, c0, S0, rfl, hn0, hc0, hz0, hA0, hS0⟩ := Mem.open_strings Try.underlying22 Try.underlying9 (by kernel_rfl) (hval 0 22 v0 rfl rfl) h0
  obtain ⟨a1, rfl, rfl, rfl, w1⟩ := open_int Try.underlying3 (hval 1 3 v1 rfl rfl) h1
  obtain ⟨a2, rfl, rfl, rfl, w2⟩ := open_int Try.underlying3 (hval 2 3 v2 rfl rfl) h2
  clear hA0 hval0
  refine (walk A0 n0 c0 S0 a1 a2 W hA0 hc0 hn0 hz0 hS0 w1 w2).mono fun e W' ⟨he, hg⟩ => ?_
  subst he
  exact ⟨_, rfl, law_post laid readEach rfl rfl Try.underlying4 ⟨rfl, rfl, rfl⟩ hW' hg⟩

theorem over : Rows.fnSwapExchangesExactlyTwoRow.holds Try.pinned (OpenSpec.ofChange Rows.fnSwapExchangesExactlyTwoSpec) :=
  OpenClaim.holds_of_wide 3 Try.f3 rfl rfl rfl rfl rfl rfl rfl ⟨rfl, rfl, rfl, rfl, rfl⟩ rfl rfl rfl rfl rfl (by kernel_rfl) Try.func3 (by kernel_rfl)
    (of_decide_eq_true (by kernel_rfl)) (by unfold Func.isWrapper; first | (rw [if_pos (by decide +kernel)]; kernel_rfl) | (rw [if_neg (by decide +kernel)]; exact ⟨rfl, rfl⟩))
    (fun os started H enc _ => lifted os started H enc)

/-- The statement. -/
theorem proved : Rows.FnSwapExchangesExactlyTwoSaid :=
  over
#print axioms proved
end Go.Proofs.Ytnegfigjmjgknac.fnSwapExchangesExactlyTwo
