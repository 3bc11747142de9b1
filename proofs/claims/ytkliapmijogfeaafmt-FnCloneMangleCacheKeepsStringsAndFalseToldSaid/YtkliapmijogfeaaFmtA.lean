/-
  Proved: the law FnCloneMangleCacheKeepsStringsAndFalse of folder n011_238 returns true for every argument that its parameter types allow, and leaves its arguments as they were; there is no further condition.
-/
import Derived.Test.YtkliapmijogfeaaFmtRows
import Derived.Test.YtkliapmijogfeaaFmtCards
import Derived.Stop.JoinedTold
import Derived.SevenToldRow
import Derived.Test.YtkliapmijogfeaaFmtTie
import Derived.SevenTiedAt
import Derived.Deep.DeepHandedRow
import Derived.Lib.LaidTab
import Derived.Lib.LaidU8
import Derived.PinnedBridge
import Derived.WalkKit
import Derived.ProofKit
import Derived.OpenShut
import Derived.Below
import Derived.Carry
import Derived.ChangeMaps5
import Derived.Handy
import Derived.Lib.Hide
import Derived.WalkSpells
import Derived.OwnWalk
import Derived.Deep.RegionHeld3
import Derived.Deep.CutRange
import Derived.Deep.QuietTactic
import Derived.PlainAid
import Derived.Test.YtkliapmijogfeaaFmtGc
import Derived.Test.YtkliapmijogfeaaFmtOpb
namespace Go.Proofs.YtkliapmijogfeaaFmt.fnCloneMangleCacheKeepsStringsAndFalse
open Go.ChangeShapes Go.WideShapes Go.ChangeAt Go.RowKit Go.Extern.Stop Go.Stop Go.Extern
set_option linter.unusedVariables false

theorem own : ownKnob Tryf.prog.godebug = none := by kernel_rfl
theorem laid : laidOutB Tryf.prog = true := by kernel_rfl
theorem readAll : (Tryf.f3.params.toList.all fun t => Tryf.prog.readableRec t && decide (t < Tryf.prog.types.size)) = true := by kernel_rfl
theorem readEach : ∀ t ∈ Tryf.f3.params.toList, Tryf.prog.readableRec t = true ∧ t < Tryf.prog.types.size := fun t ht => by
  have := List.all_eq_true.1 readAll t ht
  simpa using this
section
variable {H : Type} {enc : TypeId × Value → H} {P : Program}
theorem trodAll_stays (hl : laidOutB P = true) {W W' : World} (hb : Below W.heap.size W W') {sp : Nat → Bool} : ∀ {ts : List TypeId} {vs : List Value} {ds : List (DataW H)} {ps : List MemPlace},
    (∀ t ∈ ts, P.readableRec t = true ∧ t < P.types.size) → DataW.TrodAll enc P W 0 (fun _ => true) true ts vs ds ps → (∀ p ∈ ps, p.block < W.heap.size) → (∀ p ∈ ps, sp p.block = true) → DataW.TrodAll enc P W' 0 sp true ts vs ds ps
  | [], [], [], _, _, h, _, _ => h
  | _ :: _, _ :: _, _ :: _, _, hT, ⟨p, q, h1, h2, e⟩, hlt, hs =>
    ⟨p, q, WideElems.Trod_stays hl (hT _ (List.mem_cons.2 (Or.inl rfl))).1 (hT _ (List.mem_cons.2 (Or.inl rfl))).2 h1 (fun x hx => hb.same (hlt x (by rw [e]; exact List.mem_append_left _ hx))) (fun x hx => hs x (by rw [e]; exact List.mem_append_left _ hx)),
      trodAll_stays hl hb (fun t ht => hT t (List.mem_cons.2 (Or.inr ht))) h2 (fun x hx => hlt x (by rw [e]; exact List.mem_append_right _ hx)) (fun x hx => hs x (by rw [e]; exact List.mem_append_right _ hx)), e⟩

/-- A law's step: the result is true, the arguments are kept, the world has changed in new blocks alone. -/
theorem law_post {f : Func} {s : ChangeSpec} {apart fresh handsOn again : Bool} {W W' : World} {args : Array Value} {ds gs : List (DataW H)} {before : List MemPlace} {tb : TypeId}
    (hl : laidOutB P = true) (hps : ∀ t ∈ f.params.toList, P.readableRec t = true ∧ t < P.types.size) (hv : s.vars = []) (hr : f.resultTypes = #[tb]) (ht : P.underlying tb = some .bool)
    (hs : (s.fn H (ds ++ [])).results = [.lit (.bool true)] ∧ (s.fn H (ds ++ [])).args = ds ∧ (s.fn H (ds ++ [])).vars = [])
    (hW : DataW.Whole enc P f.params.toList s.vars apart W args.toList ds gs before) (hb : Below W.heap.size W W') :
    s.post enc P f apart fresh handsOn again W args (.bool true) W' := by
  have hlt : ∀ p ∈ before, p.block < W.heap.size := fun p hp => hW.lt p hp
  have hold : ∀ p ∈ before, (fun b => decide (b < W.heap.size)) p.block = true := fun p hp => by simpa using hlt p hp
  have hW0 := hW
  obtain ⟨pa, pv, hA, hV, rfl, hz, hn⟩ := hW
  rw [hv] at hV
  obtain ⟨rfl, rfl⟩ := trodVars_none hV
  have hres : ∀ (b : Nat) (sp : Nat → Bool) (hd : Bool), DataW.TrodAll enc P W' b sp hd f.resultTypes.toList ((Value.bool true).resultList f.resultTypes.size) (s.fn H (ds ++ [])).results [] := fun b sp hd => by
    rw [hs.1, hr]; exact trodAll_cons_mk (shut_bool ht _) trodAll_mk0
  have hargs : ∀ sp : Nat → Bool, (∀ p ∈ pa ++ [], sp p.block = true) → DataW.TrodAll enc P W' 0 sp true f.params.toList args.toList (s.fn H (ds ++ [])).args pa := fun sp hsp => by
    rw [hs.2.1]; exact trodAll_stays hl hb hps hA (fun p hp => hlt p (by simpa using hp)) (fun p hp => hsp p (by simpa using hp))
  have hvars : ∀ sp : Nat → Bool, DataW.TrodVars enc P W' sp s.vars (s.fn H (ds ++ [])).vars [] := fun sp => by rw [hv, hs.2.2]; rfl
  refine ⟨ds, [], pa ++ [], [], pa, [], hW0, hres _ _ _, hargs _ hold, hvars _, World.keptBut_mono (fun p hp => ⟨hp, Or.inr (List.mem_append.1 hp)⟩) (hb.frame (· ∈ pa ++ [])), fun _ => ?_⟩
  refine ⟨?_, _, _, ([] ++ pa) ++ [], ⟨[] ++ pa, [], trodAll_append (hargs _ (fun _ _ => rfl)) (hres _ _ _), hvars _, rfl, ?_, ?_⟩, ?_⟩
  · intro j t r h1 h2
    rw [hr] at h1 h2
    match j, h1, h2 with
    | 0, h1, h2 =>
      obtain rfl : tb = t := by simpa using h1
      obtain rfl : Value.bool true = r := by simpa [Value.resultList] using h2
      exact okWide_bool_mk ht _
    | j + 1, h1, _ => simp at h1
  · intro b off hp
    have hp' : MemPlace.cell b off ∈ pa ++ [] := by simpa using hp
    rw [hb.frozen (hlt _ hp')]
    exact hz b off hp'
  · intro ha
    simpa using hn ha
  · intro p hp _
    simpa using hp
end

open Go.PlainAid Str Mem Sz Ga Gb Gc Go.Maps Go.WideMaps
set_option maxRecDepth 10000000 in
set_option maxHeartbeats 40000000 in
theorem walk (a0 : Bool) (A1 : Option Addr) (n1 c1 : Nat) (S1 : Nat → ByteArray) (A2 : Option Addr) (n2 c2 : Nat) (S2 : Nat → ByteArray) (A3 : Option Addr) (n3 c3 : Nat) (Z3 : Nat → Bool) (w : World) (hA1 : Mem.Rd w w.heap.size 1 A1 n1 (fun j => .string (S1 j))) (hc1 : c1 ≤ maxLen) (hn1 : n1 ≤ c1) (hz1 : A1 = none → n1 = 0 ∧ c1 = 0) (hS1 : ∀ j, j < n1 → (S1 j).size ≤ maxLen) (hA2 : Mem.Rd w w.heap.size 1 A2 n2 (fun j => .string (S2 j))) (hc2 : c2 ≤ maxLen) (hn2 : n2 ≤ c2) (hz2 : A2 = none → n2 = 0 ∧ c2 = 0) (hS2 : ∀ j, j < n2 → (S2 j).size ≤ maxLen) (hA3 : Mem.Rd w w.heap.size 1 A3 n3 (fun j => .bool (Z3 j))) (hc3 : c3 ≤ maxLen) (hn3 : n3 ≤ c3) (hz3 : A3 = none → n3 = 0 ∧ c3 = 0) :
    Calls Tryf.prog 3 #[.bool a0, .slice A1 n1 c1, .slice A2 n2 c2, .slice A3 n3 c3] w fun e w' => e = .returned (.bool true) ∧ Below w.heap.size w w' := by
  have HA1 := Lib.hid hA1
  have HA2 := Lib.hid hA2
  have HA3 := Lib.hid hA3
  have HS1 := Lib.hid hS1
  have HS2 := Lib.hid hS2
  have hN1 : n1 ≤ maxLen := Nat.le_trans hn1 hc1
  have hN2 : n2 ≤ maxLen := Nat.le_trans hn2 hc2
  have hN3 : n3 ≤ maxLen := Nat.le_trans hn3 hc3
  have HZ1 := Lib.hid hz1
  have HZ2 := Lib.hid hz2
  have HZ3 := Lib.hid hz3
  clear hA1 hA2 hA3 hS1 hS2 hz1 hz2 hz3
  go_enter Tryf.func3, Tryf.ntmps3
  go_wp2_with fail
  refine (bytes4 a0 A1 n1 c1 S1 A2 n2 c2 S2 A3 n3 c3 _ HA1.out hN1 HS1.out HA2.out hN2 HS2.out hN3).mono ?_
  rintro e w' ⟨rfl, rfl⟩
  by_cases ht : ((n1 + tot S1 n1) + (n2 + tot S2 n2)) + n3 ≤ 1048576
  · rw [szOk_yes ht]
    have hm1 : n1 + tot S1 n1 ≤ 1048576 := by omega
    have hm2 : n2 + tot S2 n2 ≤ 1048576 := by omega
    have hm3 : n3 ≤ 1048576 := by omega
    clear hN1 hN2 hN3 hc1 hc2 hc3 hn1 hn2 hn3 ht
    by_cases g : n1 ≤ 65536 ∧ n2 ≤ 65536 ∧ n3 ≤ 65536
    · obtain ⟨g1, g2, g3⟩ := g
      have u1 : decide ((65536 : Int) < (n1 : Int)) = false := decide_eq_false (by omega)
      have u2 : decide ((65536 : Int) < (n2 : Int)) = false := decide_eq_false (by omega)
      have u3 : decide ((65536 : Int) < (n3 : Int)) = false := decide_eq_false (by omega)
      go_wp2_with fail
      clear u1 u2 u3
      refine (sum_any A1 n1 c1 S1 A2 n2 c2 S2 A3 n3 c3 _ HA1.out HA2.out hm1 hm2 hm3).mono ?_
      rintro e w' ⟨⟨N, rfl⟩, rfl⟩
      by_cases hN : N ≤ 1048576
      · have tN : decide ((1048576 : Int) < N) = false := decide_eq_false (by omega)
        go_wp2_with fail
        clear tN hN
        refine (clone_any A1 n1 c1 S1 _ HA1.out HZ1.out (by omega)).mono ?_
        rintro e w1 ⟨B1, k1, rfl, hB1, hw1⟩
        go_wp2_with fail
        refine (clone_any A2 n2 c2 S2 _ ((HA2.out.below hw1).mono hw1.size) HZ2.out (by omega)).mono ?_
        rintro e w2 ⟨B2, k2, rfl, hB2, hw2⟩
        go_wp2_with fail
        have hw12 := hw1.trans (hw2.mono hw1.size)
        refine (cloneB_any A3 n3 c3 Z3 _ ((HA3.out.below hw12).mono hw12.size) HZ3.out (by omega)).mono ?_
        rintro e w3 ⟨B3, k3, rfl, hB3, hw3⟩
        have hw13 := hw12.trans (hw3.mono hw12.size)
        have HR1 := Lib.hid (((hB1.below hw2).mono hw2.size).below hw3 |>.mono hw3.size)
        have HR2 := Lib.hid ((hB2.below hw3).mono hw3.size)
        have HR3 := Lib.hid hB3
        have HW := Lib.hid hw13
        clear hw1 hw2 hw3 hw12 hw13 hB1 hB2 hB3 HA1 HA2 HA3 HZ1 HZ2 HZ3
        go_wp2_with fail
        refine (build_any a0 B1 n1 k1 S1 B2 n2 k2 S2 B3 n3 k3 Z3 _ HR1.out HR2.out HR3.out (by omega) (by omega) (by omega) HS1.out).mono ?_
        rintro e w4 ⟨hw4, ⟨rfl, rfl⟩ | ⟨rfl, rfl⟩ | ⟨b, D, rfl, rfl, hb, hM, hH⟩⟩
        · have HW4 := Lib.hid hw4
          clear hw4
          go_wp2_with fail
          refine (clone9n _).mono ?_
          rintro e w5 ⟨rfl, hw5⟩
          have HW5 := Lib.hid hw5
          clear hw5
          have hmn := fun W => Gc.run_eql_map_nil W none
          go_wp2_with fail
          go_ret
          exact ⟨rfl, (HW.out.trans (HW4.out.mono HW.out.size)).trans (HW5.out.mono (Nat.le_trans HW.out.size HW4.out.size))⟩
        · have HW4 := Lib.hid hw4
          clear hw4
          go_wp2_with fail
          go_ret
          exact ⟨rfl, HW.out.trans (HW4.out.mono HW.out.size)⟩
        · have HW4 := Lib.hid hw4
          have HH := Lib.hid hH
          have HM := Lib.hid hM
          clear hw4 hH hM
          go_wp2_with fail
          refine (clone9 b n1 D _ HM.out (by omega)).mono ?_
          rintro e w5 ⟨b', rfl, hb', hO, hw5⟩
          have HM5 := Lib.hid (HM.out.kept (row := none) ⟨hw5.os, hw5.tape, hw5.output, hw5.size, fun i hi _ => hw5.block i hi⟩ (by simp))
          have HO := Lib.hid hO
          have HW5 := Lib.hid hw5
          have hmn := fun W => Gc.run_eql_map_nil W (some b')
          have hl1 := fun ty => HO.out.len Tryf.underlying28 ty
          have hl2 := fun ty => HM5.out.len Tryf.underlying28 ty
          clear hO hw5 HM
          go_wp2_with fail
          clear hmn hl1 hl2
          go_loop [12] (fun i => ∃ k : Nat, k ≤ n1 ∧ i = .int .i64 k) (fun i => n1 - (intOf i).toNat)
          case atStart => exact ⟨0, by omega, rfl⟩
          case round =>
            obtain ⟨k, hk, rfl⟩ := hrel
            by_cases hlt : k < n1
            · obtain ⟨b1, o1, rfl, hb1, hc1⟩ := HR1.out (by omega)
              have d1 : w5.cell? ⟨b1, o1 + k, none⟩ = some (.string (S1 k)) := (HW5.out.cell (p := ⟨b1, o1 + k, none⟩) (Nat.lt_of_lt_of_le hb1 HW4.out.size)).trans ((HW4.out.cell (p := ⟨b1, o1 + k, none⟩) hb1).trans (hc1 k (by omega)))
              obtain ⟨v, hg, r1, r2, r3⟩ := look_two HO.out HM5.out (HH.out k hlt) (HS1.out k hlt)
              clear hc1 hb1
              cases hg
              · go_wp2_with fail
                go_round
                case rel => exact ⟨k + 1, by omega, by go_num⟩
                case measure => simp [intOf]; omega
              · go_wp2_with fail
                go_round
                case rel => exact ⟨k + 1, by omega, by go_num⟩
                case measure => simp [intOf]; omega
            · have z1 : decide (k < n1) = false := decide_eq_false hlt
              go_wp2_with fail
              go_ret
              exact ⟨rfl, (HW.out.trans (HW4.out.mono HW.out.size)).trans (HW5.out.mono (Nat.le_trans HW.out.size HW4.out.size))⟩
      · have tN : decide ((1048576 : Int) < N) = true := decide_eq_true (by omega)
        go_wp2_with fail
        go_ret
        exact ⟨rfl, Below.refl _ _⟩
    · by_cases g1 : n1 ≤ 65536
      · have u1 : decide ((65536 : Int) < (n1 : Int)) = false := decide_eq_false (by omega)
        by_cases g2 : n2 ≤ 65536
        · have u2 : decide ((65536 : Int) < (n2 : Int)) = false := decide_eq_false (by omega)
          have u3 : decide ((65536 : Int) < (n3 : Int)) = true := decide_eq_true (by omega)
          go_wp2_with fail
          go_ret
          exact ⟨rfl, Below.refl _ _⟩
        · have u2 : decide ((65536 : Int) < (n2 : Int)) = true := decide_eq_true (by omega)
          go_wp2_with fail
          go_ret
          exact ⟨rfl, Below.refl _ _⟩
      · have u1 : decide ((65536 : Int) < (n1 : Int)) = true := decide_eq_true (by omega)
        go_wp2_with fail
        go_ret
        exact ⟨rfl, Below.refl _ _⟩
  · rw [szOk_no ht]
    go_wp2_with fail
    go_ret
    exact ⟨rfl, Below.refl _ _⟩

def firstBlock : Obj → Obj
  | .cells _ t frozen => .cells (Pinned.utf8FirstZ.map fun (z : Nat) => Value.int .u8 z).toArray t frozen
  | o => o
def acceptBlock : Obj → Obj
  | .cells _ t frozen => .cells ((List.range 16).flatMap fun i => [Value.int .u8 (Lib.accLo i : Nat), Value.int .u8 (Lib.accHi i : Nat)]).toArray t frozen
  | o => o
/-- A world for the witness: the settled one, the two tables holding what their initialisers lay. -/
noncomputable def laidWorld (os : Os) : World :=
  { World.holding Tryf.prog os ⟨#[], #[], []⟩ with heap := ((World.holding Tryf.prog os ⟨#[], #[], []⟩).heap.modify 0 firstBlock).modify 1 acceptBlock }
theorem laid_met (os : Os) : laidMet Tryf.prog Rows.fnCloneMangleCacheKeepsStringsAndFalseRow.laid ((laidWorld os).forCall (fun _ _ => 0) ⟨#[], #[.bool false, .slice none 0 0, .slice none 0 0, .slice none 0 0], []⟩).memory :=
  laidMet_of_run' 8 (by kernel_rfl) (by kernel_rfl)
theorem reads (os : Os) {H : Type} (enc : TypeId × Value → H) : ∃ places, DataW.whole enc Tryf.prog ((laidWorld os).forCall (fun _ _ => 0) ⟨#[], #[.bool false, .slice none 0 0, .slice none 0 0, .slice none 0 0], []⟩).memory Tryf.f3.params.toList Rows.fnCloneMangleCacheKeepsStringsAndFalseSpec.vars false (#[.bool false, .slice none 0 0, .slice none 0 0, .slice none 0 0] : Array Value).toList 8 = some ([.lit (.bool false), .nil, .nil, .nil], [], places) :=
  ⟨[], by kernel_rfl⟩

set_option maxRecDepth 10000000 in
theorem lifted (os : Os) (started : os.Started) (H : Type) (enc : TypeId × Value → H) :
    ReturnsInTold none {} Tryf.checked os 3 .any Input.okWide ((OpenSpec.ofChange Rows.fnCloneMangleCacheKeepsStringsAndFalseSpec).preRow enc Tryf.prog Tryf.f3 Rows.fnCloneMangleCacheKeepsStringsAndFalseRow.domain false Rows.fnCloneMangleCacheKeepsStringsAndFalseRow.laid) (fun F => ((OpenSpec.ofChange Rows.fnCloneMangleCacheKeepsStringsAndFalseSpec).at F).post enc Tryf.prog Tryf.f3 false true false false) (aloneAtReturn Tryf.prog) nothingAlways := by
  obtain ⟨places, hx⟩ := reads os enc
  refine returnsInTold_of_row (C := Tryf.checked) (s := OpenSpec.ofChange Rows.fnCloneMangleCacheKeepsStringsAndFalseSpec) (by kernel_rfl) own started (by kernel_rfl) Tryf.func3
    (OpenSpec.witness_stopped_at (enc := enc) (C := Tryf.checked) false (laidWorld os) #[.bool false, .slice none 0 0, .slice none 0 0, .slice none 0 0] rfl (by kernel_rfl) (by kernel_rfl) (by kernel_rfl)
      (OpenSpec.preRow_of_cond 8 hx (by kernel_rfl) (fun k hk => by cases hk) (by kernel_rfl) (laid_met os))) ?_
  intro F W base args ds gs before _ _ hval0 hW hcnd _ _ _ _
  have hval : ∀ (j : Nat) t v, Tryf.f3.params[j]? = some t → args[j]? = some v → Value.okWide Tryf.prog W .any base t v := hval0
  have hW' := hW
  obtain ⟨p, q, hA0, hV, rfl, hfz, hnd⟩ := hW
  have hA : DataW.TrodAll enc Tryf.prog W 0 (fun _ => true) true Tryf.f3.params.toList args.toList ds p := hA0
  rw [Tryf.params3] at hA hval
  obtain ⟨v0, vs0, d0, ds0, p0, q0, hargs0, rfl, rfl, h0, r0⟩ := trodAll_cons hA
  obtain ⟨v1, vs1, d1, ds1, p1, q1, hargs1, rfl, rfl, h1, r1⟩ := trodAll_cons r0
  obtain ⟨v2, vs2, d2, ds2, p2, q2, hargs2, rfl, rfl, h2, r2⟩ := trodAll_cons r1
  obtain ⟨v3, vs3, d3, ds3, p3, q3, hargs3, rfl, rfl, h3, r3⟩ := trodAll_cons r2
  obtain ⟨rfl, rfl, rfl⟩ := trodAll_nil r3
  obtain rfl : args = #[v0, v1, v2, v3] := by cases args; simp_all
  obtain ⟨a0, rfl, rfl, rfl⟩ := open_bool Tryf.underlying4 (hval 0 4 v0 rfl rfl) h0
  obtain ⟨A1, n1, c1, S1, rfl, hn1, hc1, hz1, hA1, hS1⟩ := Mem.open_strings Tryf.underlying22 Tryf.underlying9 (by kernel_rfl) (hval 1 22 v1 rfl rfl) h1
  obtain ⟨A2, n2, c2, S2, rfl, hn2, hc2, hz2, hA2, hS2⟩ := Mem.open_strings Tryf.underlying22 Tryf.underlying9 (by kernel_rfl) (hval 2 22 v2 rfl rfl) h2
  obtain ⟨A3, n3, c3, Z3, rfl, hn3, hc3, hz3, hA3⟩ := Opb.open_bools' Tryf.underlying23 Tryf.underlying4 (by kernel_rfl) (hval 3 23 v3 rfl rfl) h3
  clear hA0 hval0
  refine (walk a0 A1 n1 c1 S1 A2 n2 c2 S2 A3 n3 c3 Z3 W hA1 hc1 hn1 hz1 hS1 hA2 hc2 hn2 hz2 hS2 hA3 hc3 hn3 hz3).mono fun e W' ⟨he, hg⟩ => ?_
  subst he
  exact ⟨_, rfl, law_post laid readEach rfl rfl Tryf.underlying4 ⟨rfl, rfl, rfl⟩ hW' hg⟩

theorem stopsAre : Tryf.pinned.checked.prog.stops = ["fmt.Sprintf"] := by kernel_rfl
theorem knobsAre : Tryf.pinned.checked.prog.stopKnobs = [] := by kernel_rfl
theorem quietIs (os : Os) : Stop.quiet Tryf.pinned.checked.prog os := by
  intro k hk
  rw [knobsAre] at hk
  cases hk

/-- The statement. -/
theorem proved : Rows.FnCloneMangleCacheKeepsStringsAndFalseToldSaid :=
  Claim7.holds_of_told_tied_any_at .later 3 Tryf.f3 "fmt.Sprintf" [] [] (true, "9efa9aed66eb27a5def6412971990755033d62f8fbdef5d6b40872311a9ec3be") true false [.data, .pinned] true (by kernel_rfl) rfl rfl rfl laid (by kernel_rfl) rfl ⟨rfl, rfl, rfl, rfl, rfl, rfl, rfl⟩ rfl rfl (by kernel_rfl) (by kernel_rfl) Tryf.func3 (by kernel_rfl)
    (of_decide_eq_true (by kernel_rfl)) (by unfold Func.isWrapper; first | (rw [if_pos (by decide +kernel)]; kernel_rfl) | (rw [if_neg (by decide +kernel)]; exact ⟨rfl, rfl⟩)) stopsAre.symm rfl knobsAre.symm (by kernel_rfl)
    (by kernel_rfl) (by kernel_rfl) (by kernel_rfl) (by kernel_rfl) (by kernel_rfl) (by kernel_rfl) (by kernel_rfl) (by kernel_rfl) (by kernel_rfl) rfl (by kernel_rfl) rfl rfl
    rfl rfl
    rfl (by kernel_rfl) (by kernel_rfl) (by kernel_rfl) (by decide) (by kernel_rfl) fnCloneMangleCacheKeepsStringsAndFalse_row_tie
    (OpenClaim.moreEntering_of (by kernel_rfl) (by kernel_rfl) (by kernel_rfl) (by kernel_rfl) (by kernel_rfl) (by kernel_rfl) (by kernel_rfl) (by kernel_rfl) (by kernel_rfl) (by kernel_rfl))
    ⟨_, WideRow.started_initial, quietIs _⟩
    (fun os started _ H enc _ => lifted os started H enc)
#print axioms proved
end Go.Proofs.YtkliapmijogfeaaFmt.fnCloneMangleCacheKeepsStringsAndFalse
