/-
  Proved: the tied card of the law FnDecodedTextUndoesEscaping of folder n011_281: it returns true for every argument that its parameter types allow, wherever unicode/utf8's two tables hold what their initialisers lay, and leaves its arguments as they were; there is no further condition.
-/
import Derived.Test.YtcljenkgbbbfpaaDoorCards
import Derived.Test.YtcljenkgbbbfpaaDoorTie
import Derived.Test.YtcljenkgbbbfpaaDoorShelf
import Derived.WalkKit
import Derived.ProofKit
import Derived.OpenShut
import Derived.Below
import Derived.Carry
import Derived.ChangeMaps5
import Derived.Deep.DeepHandedRow
import Derived.Lib.LaidTab
import Derived.Lib.LaidU8
import Derived.PinnedBridge
import Derived.Handy
import Derived.Lib.Hide
import Derived.WalkSpells
import Derived.OwnWalk
import Derived.Test.YtcljenkgbbbfpaaDoorKz
import Derived.Test.YtcljenkgbbbfpaaDoorPh
import Derived.Test.YtcljenkgbbbfpaaDoorEb
import Derived.Test.YtcljenkgbbbfpaaDoorSz
namespace Go.Proofs.YtcljenkgbbbfpaaDoor.fnDecodedTextUndoesEscaping
open Go.ChangeShapes Go.WideShapes Go.ChangeAt Go.RowKit
set_option linter.unusedVariables false

theorem own : ownKnob Tryd.prog.godebug = none := by kernel_rfl
theorem laid : laidOutB Tryd.prog = true := by kernel_rfl
theorem readAll : (Tryd.f5.params.toList.all fun t => Tryd.prog.readableRec t && decide (t < Tryd.prog.types.size)) = true := by kernel_rfl
theorem readEach : ∀ t ∈ Tryd.f5.params.toList, Tryd.prog.readableRec t = true ∧ t < Tryd.prog.types.size := fun t ht => by
  have := List.all_eq_true.1 readAll t ht
  simpa using this
theorem extra : U8Extra Tryd.prog Tryd.lays260_ren := ⟨by kernel_rfl, by kernel_rfl, by kernel_rfl, by kernel_rfl, by kernel_rfl, by kernel_rfl, by kernel_rfl⟩
theorem accept_eq : (Rows.laid_unicode_utf8_acceptRanges : DataW Unit) = Lib.acceptData := by kernel_rfl
/-- What the row's list gives: the two tables. -/
theorem tabs {W : World} (h : laidMetH Tryd.prog Rows.fnDecodedTextUndoesEscapingRow.laid W) : Lib.Utf8Tabs 1 2 W :=
  utf8Tabs_of_reads Tryd.lays260 extra
    (Lib.laidMet.reads h (by rw [← Pinned.utf8First_eq]; exact List.mem_cons.2 (Or.inr (List.mem_cons.2 (Or.inl rfl)))))
    (Lib.laidMet.reads h (by rw [← accept_eq]; exact List.mem_cons.2 (Or.inl rfl)))
section
variable {H : Type} {enc : TypeId × Value → H} {P : Program}
theorem trodAll_stays (hl : laidOutB P = true) {W W' : World} (hb : Below W.heap.size W W') {sp : Nat → Bool} : ∀ {ts : List TypeId} {vs : List Value} {ds : List (DataW H)} {ps : List MemPlace},
    (∀ t ∈ ts, P.readableRec t = true ∧ t < P.types.size) → DataW.TrodAll enc P W 0 (fun _ => true) true ts vs ds ps → (∀ p ∈ ps, p.block < W.heap.size) → (∀ p ∈ ps, sp p.block = true) → DataW.TrodAll enc P W' 0 sp true ts vs ds ps
  | [], [], [], _, _, h, _, _ => h
  | _ :: _, _ :: _, _ :: _, _, hT, ⟨p, q, h1, h2, e⟩, hlt, hs =>
    ⟨p, q, WideElems.Trod_stays hl (hT _ (List.mem_cons.2 (Or.inl rfl))).1 (hT _ (List.mem_cons.2 (Or.inl rfl))).2 h1 (fun x hx => hb.same (hlt x (by rw [e]; exact List.mem_append_left _ hx))) (fun x hx => hs x (by rw [e]; exact List.mem_append_left _ hx)),
      trodAll_stays hl hb (fun t ht => hT t (List.mem_cons.2 (Or.inr ht))) h2 (fun x hx => hlt x (by rw [e]; exact List.mem_append_right _ hx)) (fun x hx => hs x (by rw [e]; exact List.mem_append_right _ hx)), e⟩

/-- A law's step: the result is true, the arguments are kept, the world has changed in new blocks alone. -/
theorem law_post {f : Func} {s : ChangeSpec} {apart fresh handsOn again : Bool} {W W' : World} {args : Array Value} {ds gs : List (DataW H)} {before : List MemPlace} {tb : TypeId}
    (hl : laidOutB P = true) (hps : ∀ t ∈ f.params.toList, P.readableRec t = true ∧ t < P.types.size) (hv : s.vars = []) (hr : f.resultTypes = #[tb]) (ht : P.underlying tb = some .bool)
    (hs : (s.fn H (ds ++ [])).results = [.lit (.bool true)] ∧ (s.fn H (ds ++ [])).args = ds ∧ (s.fn H (ds ++ [])).vars = [])
    (hW : DataW.Whole enc P f.params.toList s.vars apart W args.toList ds gs before) (hb : Below W.heap.size W W') :
    s.post enc P f apart fresh handsOn again W args (.bool true) W' := by
  have hlt : ∀ p ∈ before, p.block < W.heap.size := fun p hp => hW.lt p hp
  have hold : ∀ p ∈ before, (fun b => decide (b < W.heap.size)) p.block = true := fun p hp => by simpa using hlt p hp
  have hW0 := hW
  obtain ⟨pa, pv, hA, hV, rfl, hz, hn⟩ := hW
  rw [hv] at hV
  obtain ⟨rfl, rfl⟩ := trodVars_none hV
  have hres : ∀ (b : Nat) (sp : Nat → Bool) (hd : Bool), DataW.TrodAll enc P W' b sp hd f.resultTypes.toList ((Value.bool true).resultList f.resultTypes.size) (s.fn H (ds ++ [])).results [] := fun b sp hd => by
    rw [hs.1, hr]; exact trodAll_cons_mk (shut_bool ht _) trodAll_mk0
  have hargs : ∀ sp : Nat → Bool, (∀ p ∈ pa ++ [], sp p.block = true) → DataW.TrodAll enc P W' 0 sp true f.params.toList args.toList (s.fn H (ds ++ [])).args pa := fun sp hsp => by
    rw [hs.2.1]; exact trodAll_stays hl hb hps hA (fun p hp => hlt p (by simpa using hp)) (fun p hp => hsp p (by simpa using hp))
  have hvars : ∀ sp : Nat → Bool, DataW.TrodVars enc P W' sp s.vars (s.fn H (ds ++ [])).vars [] := fun sp => by rw [hv, hs.2.2]; rfl
  refine ⟨ds, [], pa ++ [], [], pa, [], hW0, hres _ _ _, hargs _ hold, hvars _, World.keptBut_mono (fun p hp => ⟨hp, Or.inr (List.mem_append.1 hp)⟩) (hb.frame (· ∈ pa ++ [])), fun _ => ?_⟩
  refine ⟨?_, _, _, ([] ++ pa) ++ [], ⟨[] ++ pa, [], trodAll_append (hargs _ (fun _ _ => rfl)) (hres _ _ _), hvars _, rfl, ?_, ?_⟩, ?_⟩
  · intro j t r h1 h2
    rw [hr] at h1 h2
    match j, h1, h2 with
    | 0, h1, h2 =>
      obtain rfl : tb = t := by simpa using h1
      obtain rfl : Value.bool true = r := by simpa [Value.resultList] using h2
      exact okWide_bool_mk ht _
    | j + 1, h1, _ => simp at h1
  · intro b off hp
    have hp' : MemPlace.cell b off ∈ pa ++ [] := by simpa using hp
    rw [hb.frozen (hlt _ hp')]
    exact hz b off hp'
  · intro ha
    simpa using hn ha
  · intro p hp _
    simpa using hp
end

open Go.PlainAid Str Mem Sz De Dw Dg Dz Ap Hp Kp
theorem heap3 {w : World} (h : Lib.Utf8Tabs 1 2 w) : 3 ≤ w.heap.size := by
  have := (h.2 0 (by omega)).1
  have := World.block_lt_of_cell? w _ this
  exact this
/-- Two buffers of the call's own, apart. -/
structure Two (w : World) (ve vw : Value) (le lw : List Int) (wr : World) : Prop where
  oe : wr.ownsRow w.heap.size 5 1 ve le.length (bytesV le)
  ow : wr.ownsRow w.heap.size 5 1 vw lw.length (bytesV lw)
  ap : Apart ve vw
  be : Below w.heap.size w wr
theorem Two.left {w wr w' : World} {ve vw v' : Value} {le lw l' : List Int} (h : Two w ve vw le lw wr) (hb : Bf w.heap.size wr ve.ownBlock v' l' w') : Two w v' vw l' lw w' :=
  ⟨hb.own, (hb.apart h.ow h.ap).1, (hb.apart h.ow h.ap).2, h.be.trans (hb.below h.oe)⟩
theorem Two.right {w wr w' : World} {ve vw v' : Value} {le lw l' : List Int} (h : Two w ve vw le lw wr) (hb : Bf w.heap.size wr vw.ownBlock v' l' w') : Two w ve v' le l' w' :=
  ⟨(hb.apart h.oe h.ap.symm).1, hb.own, (hb.apart h.oe h.ap.symm).2.symm, h.be.trans (hb.below h.ow)⟩
/-- The state of the main loop. -/
def Ms (w : World) (up : Bool) (Z : Nat → Int) (k : Nat) (vw ve : Value) (wr : World) : Prop := Two w ve vw (E2 up Z k) (V Z k) wr
theorem kept_none {w w' : World} {B : Nat} {v : Value} {n : Nat} {xs : List Value} (h : w.ownsRow B 5 1 v n xs) (hg : w.grownBy w' none) : w'.ownsRow B 5 1 v n xs := h.kept hg (by cases v.ownBlock <;> simp)
set_option maxRecDepth 100000 in
set_option maxHeartbeats 4000000 in
theorem isw22 (c : Int) (w : World) : Calls Tryd.prog 22 #[.int .i32 c] w fun e w' => e = .returned (.bool (wsB c)) ∧ w = w' := by
  generalize hB : wsB c = B
  have HB := Lib.hid hB
  clear hB
  go_enter Tryd.func22, Tryd.ntmps22
  go_wp2
  all_goals
    go_ret
    refine ⟨congrArg (fun b => Ending.returned (.bool b)) ?_, rfl⟩
    rw [← HB.out]
    clear HB
    unfold wsB
    simp_all
theorem kd0 : Kz.Kind 29 ⟨#[]⟩ ⟨#[]⟩ [] := by unfold Kz.Kind; exact .inl ⟨rfl, rfl, rfl, rfl⟩
theorem kd1 : Kz.Kind 28 ⟨#[35]⟩ ⟨#[]⟩ [] := by unfold Kz.Kind; exact .inr (.inl ⟨.inr rfl, rfl, rfl, rfl⟩)
theorem kd2 : Kz.Kind 1 ⟨#[64]⟩ ⟨#[]⟩ [] := by unfold Kz.Kind; exact .inr (.inl ⟨.inl rfl, rfl, rfl, rfl⟩)
theorem kd3 : Kz.Kind 27 ⟨#[]⟩ ⟨#[40]⟩ [] := by unfold Kz.Kind; exact .inr (.inr (.inl ⟨rfl, rfl, rfl, rfl⟩))
theorem kd4 : Kz.Kind 36 ⟨#[34]⟩ ⟨#[34]⟩ [] := by unfold Kz.Kind; exact .inr (.inr (.inr (.inl ⟨rfl, rfl, rfl, rfl⟩)))
theorem kd4' : Kz.Kind 36 ⟨#[39]⟩ ⟨#[39]⟩ [] := by unfold Kz.Kind; exact .inr (.inr (.inr (.inl ⟨rfl, rfl, rfl, rfl⟩)))
theorem kd5 : Kz.Kind 37 ⟨#[117, 114, 108, 40]⟩ ⟨#[41]⟩ [] := by unfold Kz.Kind; exact .inr (.inr (.inr (.inr (.inl ⟨rfl, rfl, rfl, by rfl, rfl⟩))))
theorem kd6 : Kz.Kind 26 ⟨#[49, 50]⟩ ⟨#[]⟩ [49, 50] := by unfold Kz.Kind; exact .inr (.inr (.inr (.inr (.inr ⟨rfl, rfl, rfl, rfl⟩))))
theorem sz0 : (ByteArray.mk #[]).size = 0 := rfl
theorem sz1 (a : UInt8) : (ByteArray.mk #[a]).size = 1 := rfl
theorem sz2 (a b : UInt8) : (ByteArray.mk #[a, b]).size = 2 := rfl
theorem sz4 (a b c d : UInt8) : (ByteArray.mk #[a, b, c, d]).size = 4 := rfl
set_option maxRecDepth 100000 in
set_option maxHeartbeats 4000000 in
theorem walk (a0 : ByteArray) (A1 : Option Addr) (n1 c1 : Nat) (Z1 : Nat → Int) (a2 : ByteArray) (a3 : Int) (a4 : Bool) (w : World) (hT : Lib.Utf8Tabs 1 2 w) (w0 : a0.size ≤ maxLen) (hA1 : Mem.Rd w w.heap.size 1 A1 n1 (fun j => .int .i32 (Z1 j))) (hc1 : c1 ≤ maxLen) (hn1 : n1 ≤ c1) (hz1 : A1 = none → n1 = 0 ∧ c1 = 0) (hZ1 : ∀ j, j < n1 → (Lit.int .i32 (Z1 j)).wf = true) (w2 : a2.size ≤ maxLen) (w3 : (Lit.int .u8 a3).wf = true) :
    Calls Tryd.prog 5 #[.string a0, .slice A1 n1 c1, .string a2, .int .u8 a3, .bool a4] w fun e w' => e = .returned (.bool true) ∧ Below w.heap.size w w' := by
  have hw3 := heap3 hT
  have HT := Lib.hid hT
  have HA1 := Lib.hid hA1
  have HZ1 := Lib.hid hZ1
  have mx1 : n1 ≤ maxLen := Nat.le_trans hn1 hc1
  clear hT hA1 hZ1 hz1
  go_enter Tryd.func5, Tryd.ntmps5
  go_wp2_with fail
  refine (bytes20 a0 A1 n1 c1 a2 a3 a4 _ w0 mx1 w2).mono ?_
  rintro e w' ⟨rfl, rfl⟩
  clear mx1 hc1 hn1
  by_cases ht : a0.size + n1 + a2.size ≤ 1048576
  · rw [szOk_yes ht]
    by_cases g0 : 262144 < a0.size
    · have t0 : decide (262144 < a0.size) = true := decide_eq_true g0
      go_wp2_with fail
      go_ret
      exact ⟨rfl, by go_grown⟩
    by_cases g2 : 262144 < a2.size
    · have t0 : decide (262144 < a0.size) = false := decide_eq_false g0
      have t1 : decide (262144 < a2.size) = true := decide_eq_true g2
      go_wp2_with fail
      go_ret
      exact ⟨rfl, by go_grown⟩
    by_cases g1 : 65536 < n1
    · have t0 : decide (262144 < a0.size) = false := decide_eq_false g0
      have t1 : decide (262144 < a2.size) = false := decide_eq_false g2
      have t2 : decide (65536 < n1) = true := decide_eq_true g1
      go_wp2_with fail
      go_ret
      exact ⟨rfl, by go_grown⟩
    have t0 : decide (262144 < a0.size) = false := decide_eq_false g0
    have t1 : decide (262144 < a2.size) = false := decide_eq_false g2
    have t2 : decide (65536 < n1) = false := decide_eq_false g1
    go_wp2_with fail
    go_loop [11] (fun i => ∃ k : Nat, k ≤ n1 ∧ i = .int .i64 k ∧ Hid (∀ j, j < k → Vd (Z1 j))) (fun i => n1 - (intOf i).toNat)
    case atStart => exact ⟨0, Nat.zero_le _, rfl, Lib.hid fun j hj => absurd hj (by omega)⟩
    case round =>
      obtain ⟨k, hk, rfl, HV⟩ := hrel
      by_cases hlt : k < n1
      · have z : decide (k < n1) = true := decide_eq_true hlt
        obtain ⟨b, off, rfl, hb, hc⟩ := HA1.out (by omega)
        have hck := hc k (by omega)
        have hwf : -2147483648 ≤ Z1 k ∧ Z1 k ≤ 2147483647 := by simpa [Lit.wf, IntKind.min, IntKind.max, IntKind.signed, IntKind.bits] using HZ1.out k hlt
        clear hc
        by_cases hv : Vd (Z1 k)
        · have HV2 : Hid (∀ j, j < k + 1 → Vd (Z1 j)) := Lib.hid fun j hj => by
            by_cases e : j = k
            · subst e; exact hv
            · exact HV.out j (by omega)
          unfold Vd at hv
          go_wp2_with fail
          all_goals first
            | (go_round
               case rel => exact ⟨k + 1, by omega, by go_num, HV2⟩
               case measure => simp [intOf]; omega)
            | (exfalso; omega)
        · unfold Vd at hv
          go_wp2_with fail
          all_goals first
            | (go_ret; exact ⟨rfl, by go_grown⟩)
            | (exfalso; omega)
      · obtain rfl : k = n1 := by omega
        have z : decide (k < k) = false := decide_eq_false (by omega)
        go_wp2_with fail
        have HM : Hid (Ms w a4 Z1 0 (.slice none 0 0) (.slice none 0 0) w) := by
          refine Lib.hid ⟨World.ownsRow_nil _ _ _ _, World.ownsRow_nil _ _ _ _, ?_, Below.refl _ _⟩
          intro i h1 h2
          simp [Value.ownBlock] at h1
        go_loopw [13, 14, 15] (fun vw ve i wr => ∃ j : Nat, j ≤ k ∧ i = .int .i64 j ∧ Hid (Ms w a4 Z1 j vw ve wr)) (fun _ _ i _ => k - (intOf i).toNat)
        case atStart => exact ⟨0, Nat.zero_le _, rfl, HM⟩
        case round =>
          clear HM
          obtain ⟨j, hj, rfl, HM⟩ := hrel
          obtain ⟨wo, rfl⟩ : ∃ wo : World, wo = wr := ⟨_, rfl⟩
          obtain ⟨vw, rfl⟩ : ∃ x : Value, x = u13 := ⟨_, rfl⟩
          obtain ⟨ve, rfl⟩ : ∃ x : Value, x = u14 := ⟨_, rfl⟩
          by_cases hjk : j < k
          · have zj : decide (j < k) = true := decide_eq_true hjk
            obtain ⟨b, off, rfl, hb, hc⟩ := HA1.out (by omega)
            have hck : wo.cell? ⟨b, off + j, none⟩ = some (.int .i32 (Z1 j)) := (HM.out.be.cell (p := ⟨b, off + j, none⟩) hb).trans (hc j (by omega))
            have hv := HV.out j hjk
            unfold Vd at hv
            clear hc
            have hel := (E2_len a4 Z1 j (fun i hi => HV.out i (by omega))).2
            have hvl := V_len Z1 j
            have HES := Lib.hid (E2_succ a4 Z1 j)
            have HVS := Lib.hid (V_succ Z1 j)
            have HTW : Hid (Two w ve vw (E2 a4 Z1 j) (V Z1 j) wo) := HM
            have hbz := HTW.out.be.size
            clear HM
            generalize hv' : Z1 j = v at *
            have HVV := Lib.hid hv'
            clear hv'
            go_wp2_with fail
            with_reducible refine (Eb.enc w.heap.size vw (V Z1 j) v wo HTW.out.ow hbz (by omega) (by omega) (by omega) (by omega)).mono ?_
            rintro e w5 ⟨v5, rfl, hb5⟩
            have T5 : Hid (Two w ve v5 (E2 a4 Z1 j) (V Z1 (j + 1)) w5) := Lib.hid (by rw [HVS.out]; exact HTW.out.right hb5)
            have hbz5 := T5.out.be.size
            clear hb5 hck HTW
            by_cases hraw : rawB j v = true
            · obtain ⟨r1, r2, r3⟩ := raw_parts hraw
              have q1 : ((j : Int) % 2 == 1) = true := by rw [beq_iff_eq]; omega
              have q2 : (v != 92) = true := bne_iff_ne.2 r2
              have R3 := Lib.hid r3
              have HPC : Hid (pc a4 j v = Lib.encodeRuneZ v) := Lib.hid (by unfold pc; rw [hraw]; rfl)
              clear r1 r2 r3 hraw
              go_wp2_with (go_at_call 22; refine (isw22 _ _).mono ?_; rintro e w9 ⟨rfl, rfl⟩; rw [R3.out])
              with_reducible refine (Eb.enc w.heap.size ve (E2 a4 Z1 j) v w5 T5.out.oe hbz5 (by omega) (by omega) (by omega) (by omega)).mono ?_
              rintro e w6 ⟨v6, rfl, hb6⟩
              have T6 : Hid (Ms w a4 Z1 (j + 1) v5 v6 w6) := Lib.hid (by unfold Ms; rw [HES.out, HPC.out]; exact T5.out.left hb6)
              clear hb6 T5
              go_wp2_with fail
              go_roundw
              case rel => exact ⟨j + 1, by omega, by go_num, T6⟩
              case measure => simp [intOf]; omega
            · have HPC : Hid (pc a4 j v = 92 :: ((dl a4 6 v).reverse ++ [32])) := Lib.hid (by unfold pc; rw [if_neg hraw]; rfl)
              have hcase : (j % 2 = 0) ∨ (j % 2 = 1 ∧ v = 92) ∨ (j % 2 = 1 ∧ v ≠ 92 ∧ wsB v = true) := by
                by_cases h1 : j % 2 = 1
                · by_cases h2 : v = 92
                  · exact .inr (.inl ⟨h1, h2⟩)
                  · refine .inr (.inr ⟨h1, h2, ?_⟩)
                    unfold rawB at hraw
                    simpa [h1, h2] using hraw
                · exact .inl (by omega)
              clear hraw
              have hml : (E2 a4 Z1 j).length + 1 ≤ 140737488355328 := by omega
              have HF5 := Lib.hid (Bf.start T5.out.oe hbz5)
              rcases hcase with h1 | ⟨h1, h2⟩ | ⟨h1, h2, h3⟩
              focus
                have q1 : ((j : Int) % 2 == 1) = false := by rw [beq_eq_false_iff_ne]; omega
                clear h1
                go_wp2_with (at_builtin; (refine push rfl _ _ rfl w.heap.size w5 _ _ _ _ _ rfl HF5.out (by rfl) hml ?_))
              rotate_left
              focus
                have q1 : ((j : Int) % 2 == 1) = true := by rw [beq_iff_eq]; omega
                have q2 : (v != 92) = false := bne_eq_false_iff_eq.2 h2
                clear h1 h2
                go_wp2_with (at_builtin; (refine push rfl _ _ rfl w.heap.size w5 _ _ _ _ _ rfl HF5.out (by rfl) hml ?_))
              rotate_left
              focus
                have q1 : ((j : Int) % 2 == 1) = true := by rw [beq_iff_eq]; omega
                have q2 : (v != 92) = true := bne_iff_ne.2 h2
                have R3 := Lib.hid h3
                clear h1 h2 h3
                go_wp2_with (first | (go_at_call 22; refine (isw22 _ _).mono ?_; rintro e w9 ⟨rfl, rfl⟩; rw [R3.out]) | (at_builtin; (refine push rfl _ _ rfl w.heap.size w5 _ _ _ _ _ rfl HF5.out (by rfl) hml ?_)))
              all_goals
                intro v6 w6 hb6
                have T6 := Lib.hid (T5.out.left hb6)
                have hbz6 := T6.out.be.size
                clear hb6 HF5
                go_wp2_with fail
                with_reducible refine (Ph.putHex w.heap.size v6 (E2 a4 Z1 j ++ [92]) v a4 w6 T6.out.oe hbz6 (by simp; omega) (by omega) (by omega)).mono ?_
                rintro e w7 ⟨v7, rfl, hb7⟩
                have T7 := Lib.hid (T6.out.left hb7)
                have hbz7 := T7.out.be.size
                have hml7 : (E2 a4 Z1 j ++ [92] ++ (dl a4 6 v).reverse).length + 1 ≤ 140737488355328 := by
                  have := dl_len a4 6 v
                  simp; omega
                have HF7 := Lib.hid (Bf.start T7.out.oe hbz7)
                clear hb7 T6
                go_wp2_with (at_builtin; (refine push rfl _ _ rfl w.heap.size w7 _ _ _ _ _ rfl HF7.out (by rfl) hml7 ?_))
                intro v8 w8 hb8
                have T8 : Hid (Ms w a4 Z1 (j + 1) v5 v8 w8) := Lib.hid (by
                  have := T7.out.left hb8
                  unfold Ms; rw [HES.out, HPC.out]
                  simpa using this)
                clear hb8 T7 HF7
                go_wp2_with fail
                go_roundw
                case rel => exact ⟨j + 1, by omega, by go_num, T8⟩
                case measure => simp [intOf]; omega
          · obtain rfl : j = k := by omega
            have zj : decide (j < j) = false := decide_eq_false (by omega)
            have hu : 0 ≤ a3 ∧ a3 ≤ 255 := by simpa [Lit.wf, IntKind.min, IntKind.max, IntKind.signed, IntKind.bits] using w3
            have HTW : Hid (Two w ve vw (E2 a4 Z1 j) (V Z1 j) wo) := HM
            have hbz := HTW.out.be.size
            have hcv := conv HTW.out.oe
            have hsl : (strOfNums (E2 a4 Z1 j)).size ≤ 524288 := by rw [strOfNums_size]; have := (E2_len a4 Z1 j HV.out).2; omega
            have HGT := Lib.hid (fun (o c : ByteArray) (k : Int) (x : List Int) (hk : Kz.Kind k o c x) (n : Int) (hn : ((o.size + (strOfNums (E2 a4 Z1 j)).size + c.size : Nat) : Int) = n) (W : World) (hW : Below w.heap.size w W) => show Calls Tryd.prog 24 #[.agg #[.int .i32 (a0.size : Int), .int .i32 n, .int .u16 0, .int .u8 k, .int .u8 0], .string (a0 ++ o ++ strOfNums (E2 a4 Z1 j) ++ c ++ a2)] W (Dx.Ret (x ++ V Z1 j) W) from hn ▸ Kz.got (up := a4) (Z := Z1) (m := j) (by omega) HV.out a0 a2 o c k x hk (by omega) (by omega) W (tabs_of HT.out hw3 hW) (Nat.le_trans hw3 hW.size))
            clear HM HV
            generalize strOfNums (E2 a4 Z1 j) = sL at *
            have HX0 : Hid (∀ l : List Int, strOfNums ([] ++ l) = ⟨#[]⟩ ++ strOfNums l) := Lib.hid fun l => by rw [List.nil_append, Kz.none_app _ rfl]
            have HX2 : Hid (∀ l : List Int, strOfNums ([49, 50] ++ l) = ⟨#[49, 50]⟩ ++ strOfNums l) := Lib.hid fun l => by
              apply list_inj
              rw [append_list]
              unfold strOfNums
              simp
            obtain h | h | h | h | h | h | h : a3 % 7 = 0 ∨ a3 % 7 = 1 ∨ a3 % 7 = 2 ∨ a3 % 7 = 3 ∨ a3 % 7 = 4 ∨ a3 % 7 = 5 ∨ a3 % 7 = 6 := by omega
            · have s0 : (a3 % 7 == 0) = true := beq_iff_eq.2 h
              clear h
              go_wp2_with fail
              with_reducible refine (HGT.out ⟨#[]⟩ ⟨#[]⟩ 29 [] kd0 _ (by simp only [sz0]; omega) _ (HTW.out.be.alloc hbz _)).mono ?_
              rintro e w9 ⟨l, rfl, hl, hb9⟩
              have hs := of_nums hl
              rw [HX0.out] at hs
              rw [hs]
              have hcv2 := conv (kept_none (HTW.out.ow.alloc _) ⟨hb9.os, hb9.tape, hb9.output, hb9.size, fun k hk _ => hb9.block k hk⟩)
              have HB9 := Lib.hid ((HTW.out.be.alloc hbz _).trans (hb9.mono (Nat.le_trans hbz (by simp))))
              have hsv : (strOfNums (V Z1 j)).size ≤ 262144 := by
                rw [strOfNums_size]
                have := V_len Z1 j
                omega
              clear hl hs hb9 hcv HTW HGT
              generalize strOfNums (V Z1 j) = sV at *
              go_wp2_with fail
              go_ret
              exact ⟨by first | rfl | simp, HB9.out⟩
            · have s0 : (a3 % 7 == 0) = false := by rw [beq_eq_false_iff_ne]; omega
              have s1 : (a3 % 7 == 1) = true := beq_iff_eq.2 h
              clear h
              go_wp2_with fail
              with_reducible refine (HGT.out ⟨#[35]⟩ ⟨#[]⟩ 28 [] kd1 _ (by simp only [sz1, sz0]; omega) _ (HTW.out.be.alloc hbz _)).mono ?_
              rintro e w9 ⟨l, rfl, hl, hb9⟩
              have hs := of_nums hl
              rw [HX0.out] at hs
              rw [hs]
              have hcv2 := conv (kept_none (HTW.out.ow.alloc _) ⟨hb9.os, hb9.tape, hb9.output, hb9.size, fun k hk _ => hb9.block k hk⟩)
              have HB9 := Lib.hid ((HTW.out.be.alloc hbz _).trans (hb9.mono (Nat.le_trans hbz (by simp))))
              have hsv : (strOfNums (V Z1 j)).size ≤ 262144 := by
                rw [strOfNums_size]
                have := V_len Z1 j
                omega
              clear hl hs hb9 hcv HTW HGT
              generalize strOfNums (V Z1 j) = sV at *
              go_wp2_with fail
              go_ret
              exact ⟨by first | rfl | simp, HB9.out⟩
            · have s0 : (a3 % 7 == 0) = false := by rw [beq_eq_false_iff_ne]; omega
              have s1 : (a3 % 7 == 1) = false := by rw [beq_eq_false_iff_ne]; omega
              have s2 : (a3 % 7 == 2) = true := beq_iff_eq.2 h
              clear h
              go_wp2_with fail
              with_reducible refine (HGT.out ⟨#[64]⟩ ⟨#[]⟩ 1 [] kd2 _ (by simp only [sz1, sz0]; omega) _ (HTW.out.be.alloc hbz _)).mono ?_
              rintro e w9 ⟨l, rfl, hl, hb9⟩
              have hs := of_nums hl
              rw [HX0.out] at hs
              rw [hs]
              have hcv2 := conv (kept_none (HTW.out.ow.alloc _) ⟨hb9.os, hb9.tape, hb9.output, hb9.size, fun k hk _ => hb9.block k hk⟩)
              have HB9 := Lib.hid ((HTW.out.be.alloc hbz _).trans (hb9.mono (Nat.le_trans hbz (by simp))))
              have hsv : (strOfNums (V Z1 j)).size ≤ 262144 := by
                rw [strOfNums_size]
                have := V_len Z1 j
                omega
              clear hl hs hb9 hcv HTW HGT
              generalize strOfNums (V Z1 j) = sV at *
              go_wp2_with fail
              go_ret
              exact ⟨by first | rfl | simp, HB9.out⟩
            · have s0 : (a3 % 7 == 0) = false := by rw [beq_eq_false_iff_ne]; omega
              have s1 : (a3 % 7 == 1) = false := by rw [beq_eq_false_iff_ne]; omega
              have s2 : (a3 % 7 == 2) = false := by rw [beq_eq_false_iff_ne]; omega
              have s3 : (a3 % 7 == 3) = true := beq_iff_eq.2 h
              clear h
              go_wp2_with fail
              with_reducible refine (HGT.out ⟨#[]⟩ ⟨#[40]⟩ 27 [] kd3 _ (by simp only [sz0, sz1]; omega) _ (HTW.out.be.alloc hbz _)).mono ?_
              rintro e w9 ⟨l, rfl, hl, hb9⟩
              have hs := of_nums hl
              rw [HX0.out] at hs
              rw [hs]
              have hcv2 := conv (kept_none (HTW.out.ow.alloc _) ⟨hb9.os, hb9.tape, hb9.output, hb9.size, fun k hk _ => hb9.block k hk⟩)
              have HB9 := Lib.hid ((HTW.out.be.alloc hbz _).trans (hb9.mono (Nat.le_trans hbz (by simp))))
              have hsv : (strOfNums (V Z1 j)).size ≤ 262144 := by
                rw [strOfNums_size]
                have := V_len Z1 j
                omega
              clear hl hs hb9 hcv HTW HGT
              generalize strOfNums (V Z1 j) = sV at *
              go_wp2_with fail
              go_ret
              exact ⟨by first | rfl | simp, HB9.out⟩
            · have s0 : (a3 % 7 == 0) = false := by rw [beq_eq_false_iff_ne]; omega
              have s1 : (a3 % 7 == 1) = false := by rw [beq_eq_false_iff_ne]; omega
              have s2 : (a3 % 7 == 2) = false := by rw [beq_eq_false_iff_ne]; omega
              have s3 : (a3 % 7 == 3) = false := by rw [beq_eq_false_iff_ne]; omega
              have s4 : (a3 % 7 == 4) = true := beq_iff_eq.2 h
              clear h
              cases a4
              · go_wp2_with fail
                with_reducible refine (HGT.out ⟨#[34]⟩ ⟨#[34]⟩ 36 [] kd4 _ (by simp only [sz1]; omega) _ (HTW.out.be.alloc hbz _)).mono ?_
                rintro e w9 ⟨l, rfl, hl, hb9⟩
                have hs := of_nums hl
                rw [HX0.out] at hs
                rw [hs]
                have hcv2 := conv (kept_none (HTW.out.ow.alloc _) ⟨hb9.os, hb9.tape, hb9.output, hb9.size, fun k hk _ => hb9.block k hk⟩)
                have HB9 := Lib.hid ((HTW.out.be.alloc hbz _).trans (hb9.mono (Nat.le_trans hbz (by simp))))
                have hsv : (strOfNums (V Z1 j)).size ≤ 262144 := by
                  rw [strOfNums_size]
                  have := V_len Z1 j
                  omega
                clear hl hs hb9 hcv HTW HGT
                generalize strOfNums (V Z1 j) = sV at *
                go_wp2_with fail
                go_ret
                exact ⟨by first | rfl | simp, HB9.out⟩
              · go_wp2_with fail
                with_reducible refine (HGT.out ⟨#[39]⟩ ⟨#[39]⟩ 36 [] kd4' _ (by simp only [sz1]; omega) _ (HTW.out.be.alloc hbz _)).mono ?_
                rintro e w9 ⟨l, rfl, hl, hb9⟩
                have hs := of_nums hl
                rw [HX0.out] at hs
                rw [hs]
                have hcv2 := conv (kept_none (HTW.out.ow.alloc _) ⟨hb9.os, hb9.tape, hb9.output, hb9.size, fun k hk _ => hb9.block k hk⟩)
                have HB9 := Lib.hid ((HTW.out.be.alloc hbz _).trans (hb9.mono (Nat.le_trans hbz (by simp))))
                have hsv : (strOfNums (V Z1 j)).size ≤ 262144 := by
                  rw [strOfNums_size]
                  have := V_len Z1 j
                  omega
                clear hl hs hb9 hcv HTW HGT
                generalize strOfNums (V Z1 j) = sV at *
                go_wp2_with fail
                go_ret
                exact ⟨by first | rfl | simp, HB9.out⟩
            · have s0 : (a3 % 7 == 0) = false := by rw [beq_eq_false_iff_ne]; omega
              have s1 : (a3 % 7 == 1) = false := by rw [beq_eq_false_iff_ne]; omega
              have s2 : (a3 % 7 == 2) = false := by rw [beq_eq_false_iff_ne]; omega
              have s3 : (a3 % 7 == 3) = false := by rw [beq_eq_false_iff_ne]; omega
              have s4 : (a3 % 7 == 4) = false := by rw [beq_eq_false_iff_ne]; omega
              have s5 : (a3 % 7 == 5) = true := beq_iff_eq.2 h
              clear h
              go_wp2_with fail
              with_reducible refine (HGT.out ⟨#[117, 114, 108, 40]⟩ ⟨#[41]⟩ 37 [] kd5 _ (by simp only [sz4, sz1]; omega) _ (HTW.out.be.alloc hbz _)).mono ?_
              rintro e w9 ⟨l, rfl, hl, hb9⟩
              have hs := of_nums hl
              rw [HX0.out] at hs
              rw [hs]
              have hcv2 := conv (kept_none (HTW.out.ow.alloc _) ⟨hb9.os, hb9.tape, hb9.output, hb9.size, fun k hk _ => hb9.block k hk⟩)
              have HB9 := Lib.hid ((HTW.out.be.alloc hbz _).trans (hb9.mono (Nat.le_trans hbz (by simp))))
              have hsv : (strOfNums (V Z1 j)).size ≤ 262144 := by
                rw [strOfNums_size]
                have := V_len Z1 j
                omega
              clear hl hs hb9 hcv HTW HGT
              generalize strOfNums (V Z1 j) = sV at *
              go_wp2_with fail
              go_ret
              exact ⟨by first | rfl | simp, HB9.out⟩
            · have s0 : (a3 % 7 == 0) = false := by rw [beq_eq_false_iff_ne]; omega
              have s1 : (a3 % 7 == 1) = false := by rw [beq_eq_false_iff_ne]; omega
              have s2 : (a3 % 7 == 2) = false := by rw [beq_eq_false_iff_ne]; omega
              have s3 : (a3 % 7 == 3) = false := by rw [beq_eq_false_iff_ne]; omega
              have s4 : (a3 % 7 == 4) = false := by rw [beq_eq_false_iff_ne]; omega
              have s5 : (a3 % 7 == 5) = false := by rw [beq_eq_false_iff_ne]; omega
              clear h
              go_wp2_with fail
              with_reducible refine (HGT.out ⟨#[49, 50]⟩ ⟨#[]⟩ 26 [49, 50] kd6 _ (by simp only [sz2, sz0]; omega) _ (HTW.out.be.alloc hbz _)).mono ?_
              rintro e w9 ⟨l, rfl, hl, hb9⟩
              have hs := of_nums hl
              rw [HX2.out] at hs
              rw [hs]
              have hcv2 := conv (kept_none (HTW.out.ow.alloc _) ⟨hb9.os, hb9.tape, hb9.output, hb9.size, fun k hk _ => hb9.block k hk⟩)
              have HB9 := Lib.hid ((HTW.out.be.alloc hbz _).trans (hb9.mono (Nat.le_trans hbz (by simp))))
              have hsv : (strOfNums (V Z1 j)).size ≤ 262144 := by
                rw [strOfNums_size]
                have := V_len Z1 j
                omega
              clear hl hs hb9 hcv HTW HGT
              generalize strOfNums (V Z1 j) = sV at *
              go_wp2_with fail
              go_ret
              exact ⟨by first | rfl | simp, HB9.out⟩
  · rw [szOk_no ht]
    go_wp2_with fail
    go_ret
    exact ⟨rfl, by go_grown⟩

set_option maxRecDepth 100000 in
/-- What the walk gives, for every argument and every world that holds the tables. -/
theorem contract (H : Type) (enc : TypeId × Value → H) (W : World) (base : Nat) (args : Array Value) (ds gs : List (DataW H)) (before : List MemPlace)
    (hval : ∀ (j : Nat) t v, Tryd.f5.params[j]? = some t → args[j]? = some v → Value.okWide Tryd.prog W .any base t v)
    (hW : DataW.Whole enc Tryd.prog Tryd.f5.params.toList Rows.fnDecodedTextUndoesEscapingSpec.vars false W args.toList ds gs before) (hL : laidMetH Tryd.prog Rows.fnDecodedTextUndoesEscapingRow.laid W) :
    Calls Tryd.prog 5 args W fun e W' => ∃ v, e = .returned v ∧ Rows.fnDecodedTextUndoesEscapingSpec.post enc Tryd.prog Tryd.f5 false true false false W args v W' := by
  have hW' := hW
  obtain ⟨p, q, hA0, hV, rfl, hfz, hnd⟩ := hW
  have hA : DataW.TrodAll enc Tryd.prog W 0 (fun _ => true) true Tryd.f5.params.toList args.toList ds p := hA0
  rw [Tryd.params5] at hA hval
  obtain ⟨v0, vs0, d0, ds0, p0, q0, hargs0, rfl, rfl, h0, r0⟩ := trodAll_cons hA
  obtain ⟨v1, vs1, d1, ds1, p1, q1, hargs1, rfl, rfl, h1, r1⟩ := trodAll_cons r0
  obtain ⟨v2, vs2, d2, ds2, p2, q2, hargs2, rfl, rfl, h2, r2⟩ := trodAll_cons r1
  obtain ⟨v3, vs3, d3, ds3, p3, q3, hargs3, rfl, rfl, h3, r3⟩ := trodAll_cons r2
  obtain ⟨v4, vs4, d4, ds4, p4, q4, hargs4, rfl, rfl, h4, r4⟩ := trodAll_cons r3
  obtain ⟨rfl, rfl, rfl⟩ := trodAll_nil r4
  obtain rfl : args = #[v0, v1, v2, v3, v4] := by cases args; simp_all
  obtain ⟨a0, rfl, rfl, rfl, w0⟩ := Go.ChangeMaps.open_string Tryd.underlying9 (hval 0 9 v0 rfl rfl) h0
  obtain ⟨A1, n1, c1, Z1, rfl, hn1, hc1, hz1, hA1, hZ1⟩ := Mem.open_ints' Tryd.underlying68 Tryd.underlying21 (by kernel_rfl) (hval 1 68 v1 rfl rfl) h1
  obtain ⟨a2, rfl, rfl, rfl, w2⟩ := Go.ChangeMaps.open_string Tryd.underlying9 (hval 2 9 v2 rfl rfl) h2
  obtain ⟨a3, rfl, rfl, rfl, w3⟩ := open_int Tryd.underlying5 (hval 3 5 v3 rfl rfl) h3
  obtain ⟨a4, rfl, rfl, rfl⟩ := open_bool Tryd.underlying4 (hval 4 4 v4 rfl rfl) h4
  clear hA0
  refine (walk a0 A1 n1 c1 Z1 a2 a3 a4 W (tabs hL) w0 hA1 hc1 hn1 hz1 hZ1 w2 w3).mono fun e W' ⟨he, hg⟩ => ?_
  subst he
  exact ⟨_, rfl, law_post laid readEach rfl rfl Tryd.underlying4 ⟨rfl, rfl, rfl⟩ hW' hg⟩

def firstBlock : Obj → Obj
  | .cells _ t frozen => .cells (Pinned.utf8FirstZ.map fun (z : Nat) => Value.int .u8 z).toArray t frozen
  | o => o
def acceptBlock : Obj → Obj
  | .cells _ t frozen => .cells ((List.range 16).flatMap fun i => [Value.int .u8 (Lib.accLo i : Nat), Value.int .u8 (Lib.accHi i : Nat)]).toArray t frozen
  | o => o
/-- A world for the witness: the settled one, the two tables holding what their initialisers lay. -/
noncomputable def laidWorld (os : Os) : World :=
  { World.holding Tryd.prog os ⟨#[], #[], []⟩ with heap := ((World.holding Tryd.prog os ⟨#[], #[], []⟩).heap.modify 1 firstBlock).modify 2 acceptBlock }
theorem laid_met (os : Os) : laidMet Tryd.prog Rows.fnDecodedTextUndoesEscapingRow.laid ((laidWorld os).forCall (fun _ _ => 0) ⟨#[], #[.string ⟨#[]⟩, .slice none 0 0, .string ⟨#[]⟩, .int .u8 0, .bool false], []⟩).memory :=
  laidMet_of_run' 8 (by kernel_rfl) (by kernel_rfl)
theorem reads (os : Os) {H : Type} (enc : TypeId × Value → H) : ∃ places, DataW.whole enc Tryd.prog ((laidWorld os).forCall (fun _ _ => 0) ⟨#[], #[.string ⟨#[]⟩, .slice none 0 0, .string ⟨#[]⟩, .int .u8 0, .bool false], []⟩).memory Tryd.f5.params.toList Rows.fnDecodedTextUndoesEscapingSpec.vars false (#[.string ⟨#[]⟩, .slice none 0 0, .string ⟨#[]⟩, .int .u8 0, .bool false] : Array Value).toList 8 = some ([.lit (.string []), .nil, .lit (.string []), .lit (.int .u8 0), .lit (.bool false)], [], places) :=
  ⟨[], by kernel_rfl⟩

set_option maxRecDepth 100000 in
theorem lifted (os : Os) (started : os.Started) (H : Type) (enc : TypeId × Value → H) (F : Stop.Interp) :
    ReturnsInHanded {} Tryd.checked os 5 .any ((OpenSpec.ofChange Rows.fnDecodedTextUndoesEscapingSpec).preRow enc Tryd.prog Tryd.f5 Rows.fnDecodedTextUndoesEscapingRow.domain false Rows.fnDecodedTextUndoesEscapingRow.laid) (((OpenSpec.ofChange Rows.fnDecodedTextUndoesEscapingSpec).at F).post enc Tryd.prog Tryd.f5 false true false false) := by
  obtain ⟨places, hx⟩ := reads os enc
  refine returnsInHanded_of_row (C := Tryd.checked) (s := OpenSpec.ofChange Rows.fnDecodedTextUndoesEscapingSpec) own started (by kernel_rfl) Tryd.func5
    (witness_row_at (enc := enc) (C := Tryd.checked) false (laidWorld os) #[.string ⟨#[]⟩, .slice none 0 0, .string ⟨#[]⟩, .int .u8 0, .bool false] rfl (by kernel_rfl) (by kernel_rfl) (by kernel_rfl)
      (OpenSpec.preRow_of_cond 8 hx (by kernel_rfl) (fun k hk => by cases hk) (by kernel_rfl) (laid_met os))) ?_
  intro W base args ds gs before hval hW _ _ _ hL _ _
  exact contract H enc W base args ds gs before hval hW hL

theorem said : Rows.FnDecodedTextUndoesEscapingSaid :=
  OpenClaim.holds_of_cond 5 Tryd.f5 rfl rfl rfl rfl rfl rfl rfl ⟨rfl, rfl, rfl, rfl, rfl⟩ rfl rfl rfl rfl rfl (by kernel_rfl) Tryd.func5 (by kernel_rfl)
    (of_decide_eq_true (by kernel_rfl)) (by unfold Func.isWrapper; first | (rw [if_pos (by decide +kernel)]; kernel_rfl) | (rw [if_neg (by decide +kernel)]; exact ⟨rfl, rfl⟩))
    (fun os started H enc _ F => by rw [OpenClaim.pre_eq_preRow]; exact lifted os started H enc F)

/-- No parameter wants a stand-in; the program's own looks are off. -/
theorem plain (f : FuncId) (fn : Func) (hf : Tryd.pinned.checked.prog.funcNamed Rows.fnDecodedTextUndoesEscapingRow.func = some f) (hfn : Tryd.pinned.checked.prog.funcs[f]? = some fn) :
    false = Tryd.pinned.checked.prog.looks [] ∧ ∀ (j : Nat) t, fn.params[j]? = some t → Tryd.pinned.checked.prog.wantsStandIn t = false := by
  obtain rfl : f = 5 := Option.some.inj ((show Tryd.prog.funcNamed Rows.fnDecodedTextUndoesEscapingRow.func = some 5 by kernel_rfl).symm.trans hf) |>.symm
  obtain rfl : fn = Tryd.f5 := (Option.some.inj (Tryd.func5.symm.trans hfn)).symm
  refine ⟨by kernel_rfl, fun j t ht => ?_⟩
  rw [Tryd.params5] at ht
  have hm : t ∈ [9, 68, 9, 5, 4] := by simpa using Array.mem_of_getElem? ht
  have hall : ([9, 68, 9, 5, 4] : List TypeId).all (fun t => !Tryd.prog.wantsStandIn t) = true := by kernel_rfl
  have hh : Tryd.prog.wantsStandIn t = false := by simpa using List.all_eq_true.1 hall t hm
  exact hh

/-- The card. -/
theorem card : Rows.FnDecodedTextUndoesEscapingCardSaid :=
  Claim7.holds_tied_plain_at .later [] _ _ _ _ said (fun _ h => by cases h) (by kernel_rfl) (fun _ h => by cases h) fnDecodedTextUndoesEscaping_row_tie rfl ⟨rfl, rfl⟩ (by kernel_rfl) rfl plain (by kernel_rfl)
#print axioms card
end Go.Proofs.YtcljenkgbbbfpaaDoor.fnDecodedTextUndoesEscaping
