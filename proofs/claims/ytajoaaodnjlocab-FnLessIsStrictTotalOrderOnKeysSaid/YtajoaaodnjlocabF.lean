/-
  Proved: the law FnLessIsStrictTotalOrderOnKeys of folder n011_63 returns true for every argument that its parameter types allow, and leaves its arguments as they were; there is no further condition.
-/
import Derived.Test.YtajoaaodnjlocabRows
import Derived.WalkKit
import Derived.ProofKit
import Derived.OpenShut
import Derived.Below
import Derived.Carry
import Derived.ChangeMaps5
import Derived.Handy
import Derived.Lib.Hide
import Derived.Laws.StructEq
import Derived.Deep.QuietTactic
import Derived.BigQuiet
namespace Go.Proofs.Ytajoaaodnjlocab.fnLessIsStrictTotalOrderOnKeys
open Go.ChangeShapes Go.WideShapes Go.ChangeAt Go.RowKit
set_option linter.unusedVariables false

theorem own : ownKnob Try.prog.godebug = none := by kernel_rfl
theorem laid : laidOutB Try.prog = true := by kernel_rfl
theorem readAll : (Try.f8.params.toList.all fun t => Try.prog.readableRec t && decide (t < Try.prog.types.size)) = true := by kernel_rfl
theorem readEach : ∀ t ∈ Try.f8.params.toList, Try.prog.readableRec t = true ∧ t < Try.prog.types.size := fun t ht => by
  have := List.all_eq_true.1 readAll t ht
  simpa using this
section
variable {H : Type} {enc : TypeId × Value → H} {P : Program}
theorem trodAll_stays (hl : laidOutB P = true) {W W' : World} (hb : Below W.heap.size W W') {sp : Nat → Bool} : ∀ {ts : List TypeId} {vs : List Value} {ds : List (DataW H)} {ps : List MemPlace},
    (∀ t ∈ ts, P.readableRec t = true ∧ t < P.types.size) → DataW.TrodAll enc P W 0 (fun _ => true) true ts vs ds ps → (∀ p ∈ ps, p.block < W.heap.size) → (∀ p ∈ ps, sp p.block = true) → DataW.TrodAll enc P W' 0 sp true ts vs ds ps
  | [], [], [], _, _, h, _, _ => h
  | _ :: _, _ :: _, _ :: _, _, hT, ⟨p, q, h1, h2, e⟩, hlt, hs =>
    ⟨p, q, WideElems.Trod_stays hl (hT _ (List.mem_cons.2 (Or.inl rfl))).1 (hT _ (List.mem_cons.2 (Or.inl rfl))).2 h1 (fun x hx => hb.same (hlt x (by rw [e]; exact List.mem_append_left _ hx))) (fun x hx => hs x (by rw [e]; exact List.mem_append_left _ hx)),
      trodAll_stays hl hb (fun t ht => hT t (List.mem_cons.2 (Or.inr ht))) h2 (fun x hx => hlt x (by rw [e]; exact List.mem_append_right _ hx)) (fun x hx => hs x (by rw [e]; exact List.mem_append_right _ hx)), e⟩

/-- A law's step: the result is true, the arguments are kept, the world has changed in new blocks alone. -/
theorem law_post {f : Func} {s : ChangeSpec} {apart fresh handsOn again : Bool} {W W' : World} {args : Array Value} {ds gs : List (DataW H)} {before : List MemPlace} {tb : TypeId}
    (hl : laidOutB P = true) (hps : ∀ t ∈ f.params.toList, P.readableRec t = true ∧ t < P.types.size) (hv : s.vars = []) (hr : f.resultTypes = #[tb]) (ht : P.underlying tb = some .bool)
    (hs : (s.fn H (ds ++ [])).results = [.lit (.bool true)] ∧ (s.fn H (ds ++ [])).args = ds ∧ (s.fn H (ds ++ [])).vars = [])
    (hW : DataW.Whole enc P f.params.toList s.vars apart W args.toList ds gs before) (hb : Below W.heap.size W W') :
    s.post enc P f apart fresh handsOn again W args (.bool true) W' := by
  have hlt : ∀ p ∈ before, p.block < W.heap.size := fun p hp => hW.lt p hp
  have hold : ∀ p ∈ before, (fun b => decide (b < W.heap.size)) p.block = true := fun p hp => by simpa using hlt p hp
  have hW0 := hW
  obtain ⟨pa, pv, hA, hV, rfl, hz, hn⟩ := hW
  rw [hv] at hV
  obtain ⟨rfl, rfl⟩ := trodVars_none hV
  have hres : ∀ (b : Nat) (sp : Nat → Bool) (hd : Bool), DataW.TrodAll enc P W' b sp hd f.resultTypes.toList ((Value.bool true).resultList f.resultTypes.size) (s.fn H (ds ++ [])).results [] := fun b sp hd => by
    rw [hs.1, hr]; exact trodAll_cons_mk (shut_bool ht _) trodAll_mk0
  have hargs : ∀ sp : Nat → Bool, (∀ p ∈ pa ++ [], sp p.block = true) → DataW.TrodAll enc P W' 0 sp true f.params.toList args.toList (s.fn H (ds ++ [])).args pa := fun sp hsp => by
    rw [hs.2.1]; exact trodAll_stays hl hb hps hA (fun p hp => hlt p (by simpa using hp)) (fun p hp => hsp p (by simpa using hp))
  have hvars : ∀ sp : Nat → Bool, DataW.TrodVars enc P W' sp s.vars (s.fn H (ds ++ [])).vars [] := fun sp => by rw [hv, hs.2.2]; rfl
  refine ⟨ds, [], pa ++ [], [], pa, [], hW0, hres _ _ _, hargs _ hold, hvars _, World.keptBut_mono (fun p hp => ⟨hp, Or.inr (List.mem_append.1 hp)⟩) (hb.frame (· ∈ pa ++ [])), fun _ => ?_⟩
  refine ⟨?_, _, _, ([] ++ pa) ++ [], ⟨[] ++ pa, [], trodAll_append (hargs _ (fun _ _ => rfl)) (hres _ _ _), hvars _, rfl, ?_, ?_⟩, ?_⟩
  · intro j t r h1 h2
    rw [hr] at h1 h2
    match j, h1, h2 with
    | 0, h1, h2 =>
      obtain rfl : tb = t := by simpa using h1
      obtain rfl : Value.bool true = r := by simpa [Value.resultList] using h2
      exact okWide_bool_mk ht _
    | j + 1, h1, _ => simp at h1
  · intro b off hp
    have hp' : MemPlace.cell b off ∈ pa ++ [] := by simpa using hp
    rw [hb.frozen (hlt _ hp')]
    exact hz b off hp'
  · intro ha
    simpa using hn ha
  · intro p hp _
    simpa using hp
end

def lessB (c x d y : Int) : Bool := decide (d < c ∨ c = d ∧ x < y)
theorem below_cell {B : Nat} {w w' : World} (h : Below B w w') {b o : Nat} (hb : b < B) : w'.cell? ⟨b, o, none⟩ = w.cell? ⟨b, o, none⟩ := h.cell (p := ⟨b, o, none⟩) hb
set_option maxHeartbeats 1000000 in
theorem less_at (bb i j : Nat) (hi : i < 3) (hj : j < 3) (s t : ByteArray) (c x d y : Int) (w : World)
    (h0 : w.cell? ⟨bb, i * 3, none⟩ = some (.string s)) (h1 : w.cell? ⟨bb, i * 3 + 1, none⟩ = some (.int .i32 c)) (h2 : w.cell? ⟨bb, i * 3 + 2, none⟩ = some (.int .u8 x))
    (g0 : w.cell? ⟨bb, j * 3, none⟩ = some (.string t)) (g1 : w.cell? ⟨bb, j * 3 + 1, none⟩ = some (.int .i32 d)) (g2 : w.cell? ⟨bb, j * 3 + 2, none⟩ = some (.int .u8 y)) :
    bb < w.heap.size → Calls Try.prog 18 #[.slice (some ⟨bb, 0, none⟩) 3 3, .int .i64 i, .int .i64 j] w fun e w' => e = .returned (.bool (lessB c x d y)) ∧ Below w.heap.size w w' := by
  intro hbb
  have hne : bb ≠ w.heap.size := by omega
  have hne1 : bb ≠ w.heap.size + 1 := by omega
  go_enter Try.func18, Try.ntmps18
  go_wp2
  all_goals go_ret
  all_goals refine ⟨?_, by go_grown⟩
  all_goals (refine congrArg (fun b => Ending.returned (.bool b)) ?_; show _ = lessB c x d y; unfold lessB; rw [Bool.eq_iff_iff]; simp; try omega)
def sel {α : Type} (a b c : α) : Nat → α
  | 0 => a
  | 1 => b
  | _ => c
structure Inv (bb b1 b2 : Nat) (S : Nat → ByteArray) (C X : Nat → Int) (w0 w : World) : Prop where
  c0 : ∀ k, k < 3 → w.cell? ⟨bb, k * 3, none⟩ = some (.string (S k))
  c1 : ∀ k, k < 3 → w.cell? ⟨bb, k * 3 + 1, none⟩ = some (.int .i32 (C k))
  c2 : ∀ k, k < 3 → w.cell? ⟨bb, k * 3 + 2, none⟩ = some (.int .u8 (X k))
  d1 : ∀ k, k < 3 → w.cell? ⟨b1, k, none⟩ = some (.int .i32 (C k))
  d2 : ∀ k, k < 3 → w.cell? ⟨b2, k, none⟩ = some (.int .u8 (X k))
  l0 : bb < w.heap.size
  l1 : b1 < w.heap.size
  l2 : b2 < w.heap.size
  bl : Below w0.heap.size w0 w
theorem Inv.step {bb b1 b2 : Nat} {S : Nat → ByteArray} {C X : Nat → Int} {w0 w w' : World} (h : Inv bb b1 b2 S C X w0 w) (hb : Below w.heap.size w w') : Inv bb b1 b2 S C X w0 w' where
  c0 := fun k hk => (below_cell hb h.l0).trans (h.c0 k hk)
  c1 := fun k hk => (below_cell hb h.l0).trans (h.c1 k hk)
  c2 := fun k hk => (below_cell hb h.l0).trans (h.c2 k hk)
  d1 := fun k hk => (below_cell hb h.l1).trans (h.d1 k hk)
  d2 := fun k hk => (below_cell hb h.l2).trans (h.d2 k hk)
  l0 := Nat.lt_of_lt_of_le h.l0 hb.size
  l1 := Nat.lt_of_lt_of_le h.l1 hb.size
  l2 := Nat.lt_of_lt_of_le h.l2 hb.size
  bl := h.bl.trans (hb.mono h.bl.size)
theorem Inv.drewN {bb b1 b2 : Nat} {S : Nat → ByteArray} {C X : Nat → Int} {w0 w : World} (h : Inv bb b1 b2 S C X w0 w) (n : Nat) : Inv bb b1 b2 S C X w0 (w.drewN n) :=
  h.step ⟨rfl, rfl, rfl, Nat.le_refl _, fun _ _ => rfl⟩
def L (C X : Nat → Int) (i j : Nat) : Bool := lessB (C i) (X i) (C j) (X j)
theorem less_inv {bb b1 b2 : Nat} {S : Nat → ByteArray} {C X : Nat → Int} {w0 w : World} (h : Inv bb b1 b2 S C X w0 w) (i j : Nat) (hi : i < 3) (hj : j < 3) :
    Calls Try.prog 18 #[.slice (some ⟨bb, 0, none⟩) 3 3, .int .i64 i, .int .i64 j] w fun e w' => e = .returned (.bool (L C X i j)) ∧ Inv bb b1 b2 S C X w0 w' :=
  (less_at bb i j hi hj (S i) (S j) (C i) (X i) (C j) (X j) w (h.c0 i hi) (h.c1 i hi) (h.c2 i hi) (h.c0 j hj) (h.c1 j hj) (h.c2 j hj) h.l0).mono fun _ _ ⟨he, hb⟩ => ⟨he, h.step hb⟩
theorem L_irr (C X : Nat → Int) (i : Nat) : L C X i i = false := by unfold L lessB; simp
theorem L_trans (C X : Nat → Int) (i j k : Nat) (h : L C X i j = true) (g : L C X j k = true) : L C X i k = true := by
  unfold L lessB at *; simp at *; omega
theorem L_ways (C X : Nat → Int) (i j : Nat) :
    ((C i == C j) = true ∧ (X i == X j) = true ∧ L C X i j = false ∧ L C X j i = false) ∨
    ((C i == C j) = true ∧ (X i == X j) = false ∧ L C X i j = true ∧ L C X j i = false) ∨
    ((C i == C j) = true ∧ (X i == X j) = false ∧ L C X i j = false ∧ L C X j i = true) ∨
    ((C i == C j) = false ∧ L C X i j = true ∧ L C X j i = false) ∨
    ((C i == C j) = false ∧ L C X i j = false ∧ L C X j i = true) := by
  unfold L lessB; simp; omega
theorem mk3 (w : World) : (Instr.makeSlice 48 (.int .i64 3) (.int .i64 3)).run Try.prog w = .ok (.slice (some ⟨w.heap.size, 0, none⟩) 3 3) (w.alloc (.cells #[.string ⟨#[]⟩, .int .i32 0, .int .u8 0, .string ⟨#[]⟩, .int .i32 0, .int .u8 0, .string ⟨#[]⟩, .int .i32 0, .int .u8 0] 57)) := by kernel_rfl
set_option maxRecDepth 100000 in
set_option maxHeartbeats 4000000 in
theorem walk (a0 : Int) (a1 : Int) (a2 : Int) (a3 : Int) (a4 : Int) (a5 : Int) (w0 : (Lit.int .i32 a0).wf = true) (w1 : (Lit.int .u8 a1).wf = true) (w2 : (Lit.int .i32 a2).wf = true) (w3 : (Lit.int .u8 a3).wf = true) (w4 : (Lit.int .i32 a4).wf = true) (w5 : (Lit.int .u8 a5).wf = true) (w : World) :
    Calls Try.prog 8 #[.int .i32 a0, .int .u8 a1, .int .i32 a2, .int .u8 a3, .int .i32 a4, .int .u8 a5] w fun e w' => e = .returned (.bool true) ∧ Below w.heap.size w w' := by
  have hm := mk3
  clear w0 w1 w2 w3 w4 w5
  go_enter Try.func8, Try.ntmps8
  go_wp2_with (first | (go_at_call 16; go_in) | (go_at_call 17; go_in))
  go_loopw [16] (fun p wr => ∃ k : Nat, k ≤ 3 ∧ p = .int .i64 k ∧ Inv w.heap.size (w.heap.size + 1) (w.heap.size + 1 + 1) (sel ⟨#[122]⟩ ⟨#[97]⟩ ⟨#[77]⟩) (sel a0 a2 a4) (sel a1 a3 a5) w wr) (fun p _ => 3 - (intOf p).toNat)
  case atStart =>
    refine ⟨0, by omega, rfl, ?_⟩
    constructor
    case bl => go_grown
    case l0 => simp; try omega
    case l1 => simp
    case l2 => simp
    all_goals (intro k hk; rcases (by omega : k = 0 ∨ k = 1 ∨ k = 2) with rfl | rfl | rfl <;> simp [sel] <;> go_simp)
  case round =>
    obtain ⟨p, hp, rfl, hI⟩ := hrel
    generalize sel (ByteArray.mk #[122]) ⟨#[97]⟩ ⟨#[77]⟩ = S at *
    generalize sel a0 a2 a4 = C at *
    generalize sel a1 a3 a5 = X at *
    by_cases hlt : p < 3
    · have hirr := L_irr C X p
      go_wp2_with fail
      refine (less_inv hI p p hlt hlt).mono ?_
      rintro e w1 ⟨rfl, hI1⟩
      clear hI hlt
      go_wp2_with fail
      go_loopw [17, 18, 19, 20, 21] (fun q _ _ _ _ wr => ∃ k : Nat, k ≤ 3 ∧ q = .int .i64 k ∧ Inv w.heap.size (w.heap.size + 1) (w.heap.size + 1 + 1) S C X w wr) (fun q _ _ _ _ _ => 3 - (intOf q).toNat)
      case atStart => exact ⟨0, by omega, rfl, hI1⟩
      case round =>
        obtain ⟨q, hq, rfl, hI2⟩ := hrel
        clear hI1
        by_cases hlt : q < 3
        · go_wp2_with fail
          refine (less_inv hI2 p q (by omega) hlt).mono ?_
          rintro e w2 ⟨rfl, hI3⟩
          clear hI2
          go_wp2_with fail
          refine (less_inv hI3 q p hlt (by omega)).mono ?_
          rintro e w3 ⟨rfl, hI4⟩
          clear hI3
          have c1 := hI4.d1 p (by omega)
          have c2 := hI4.d1 q hlt
          have c3 := hI4.d2 p (by omega)
          have c4 := hI4.d2 q hlt
          rcases L_ways C X p q with ⟨e1, e2, l1, l2⟩ | ⟨e1, e2, l1, l2⟩ | ⟨e1, e2, l1, l2⟩ | ⟨e1, l1, l2⟩ | ⟨e1, l1, l2⟩
          · go_wp2_with fail
            go_quiet (fail)
            go_wp2_with fail
            clear c1 c2 c3 c4
            have hI5 := hI4.drewN nq
            go_loopw [21] (fun s wr => ∃ k : Nat, k ≤ 3 ∧ s = .int .i64 k ∧ Inv w.heap.size (w.heap.size + 1) (w.heap.size + 1 + 1) S C X w wr) (fun s _ => 3 - (intOf s).toNat)
            case atStart => exact ⟨0, by omega, rfl, hI5⟩
            case round =>
              obtain ⟨m, hm3, rfl, hI6⟩ := hrel
              clear hI5 hI4
              by_cases hltm : m < 3
              · go_wp2_with fail
                go_roundw
                case rel => exact ⟨m + 1, by omega, by go_num, hI6⟩
                case measure => simp [intOf]; omega
              · go_wp2_with fail
                go_roundw
                case rel => exact ⟨q + 1, by omega, by go_num, hI6⟩
                case measure => simp [intOf]; omega
          · go_wp2_with fail
            go_quiet (fail)
            go_wp2_with fail
            clear c1 c2 c3 c4
            have hI5 := hI4.drewN nq
            go_loopw [21] (fun s wr => ∃ k : Nat, k ≤ 3 ∧ s = .int .i64 k ∧ Inv w.heap.size (w.heap.size + 1) (w.heap.size + 1 + 1) S C X w wr) (fun s _ => 3 - (intOf s).toNat)
            case atStart => exact ⟨0, by omega, rfl, hI5⟩
            case round =>
              obtain ⟨m, hm3, rfl, hI6⟩ := hrel
              clear hI5 hI4
              by_cases hltm : m < 3
              · have htr := L_trans C X p q m l1
                cases l3 : L C X q m
                · clear htr
                  go_wp2_with fail
                  refine (less_inv hI6 q m hlt hltm).mono ?_
                  rintro e w4 ⟨rfl, hI7⟩
                  go_wp2_with fail
                  go_roundw
                  case rel => exact ⟨m + 1, by omega, by go_num, hI7⟩
                  case measure => simp [intOf]; omega
                · have l4 := htr l3
                  clear htr
                  go_wp2_with fail
                  refine (less_inv hI6 q m hlt hltm).mono ?_
                  rintro e w4 ⟨rfl, hI7⟩
                  go_wp2_with fail
                  refine (less_inv hI7 p m (by omega) hltm).mono ?_
                  rintro e w5 ⟨rfl, hI8⟩
                  go_wp2_with fail
                  go_roundw
                  case rel => exact ⟨m + 1, by omega, by go_num, hI8⟩
                  case measure => simp [intOf]; omega
              · go_wp2_with fail
                go_roundw
                case rel => exact ⟨q + 1, by omega, by go_num, hI6⟩
                case measure => simp [intOf]; omega
          · go_wp2_with fail
            go_quiet (fail)
            go_wp2_with fail
            clear c1 c2 c3 c4
            have hI5 := hI4.drewN nq
            go_loopw [21] (fun s wr => ∃ k : Nat, k ≤ 3 ∧ s = .int .i64 k ∧ Inv w.heap.size (w.heap.size + 1) (w.heap.size + 1 + 1) S C X w wr) (fun s _ => 3 - (intOf s).toNat)
            case atStart => exact ⟨0, by omega, rfl, hI5⟩
            case round =>
              obtain ⟨m, hm3, rfl, hI6⟩ := hrel
              clear hI5 hI4
              by_cases hltm : m < 3
              · go_wp2_with fail
                go_roundw
                case rel => exact ⟨m + 1, by omega, by go_num, hI6⟩
                case measure => simp [intOf]; omega
              · go_wp2_with fail
                go_roundw
                case rel => exact ⟨q + 1, by omega, by go_num, hI6⟩
                case measure => simp [intOf]; omega
          · go_wp2_with fail
            go_quiet (fail)
            go_wp2_with fail
            clear c1 c2 c3 c4
            have hI5 := hI4.drewN nq
            go_loopw [21] (fun s wr => ∃ k : Nat, k ≤ 3 ∧ s = .int .i64 k ∧ Inv w.heap.size (w.heap.size + 1) (w.heap.size + 1 + 1) S C X w wr) (fun s _ => 3 - (intOf s).toNat)
            case atStart => exact ⟨0, by omega, rfl, hI5⟩
            case round =>
              obtain ⟨m, hm3, rfl, hI6⟩ := hrel
              clear hI5 hI4
              by_cases hltm : m < 3
              · have htr := L_trans C X p q m l1
                cases l3 : L C X q m
                · clear htr
                  go_wp2_with fail
                  refine (less_inv hI6 q m hlt hltm).mono ?_
                  rintro e w4 ⟨rfl, hI7⟩
                  go_wp2_with fail
                  go_roundw
                  case rel => exact ⟨m + 1, by omega, by go_num, hI7⟩
                  case measure => simp [intOf]; omega
                · have l4 := htr l3
                  clear htr
                  go_wp2_with fail
                  refine (less_inv hI6 q m hlt hltm).mono ?_
                  rintro e w4 ⟨rfl, hI7⟩
                  go_wp2_with fail
                  refine (less_inv hI7 p m (by omega) hltm).mono ?_
                  rintro e w5 ⟨rfl, hI8⟩
                  go_wp2_with fail
                  go_roundw
                  case rel => exact ⟨m + 1, by omega, by go_num, hI8⟩
                  case measure => simp [intOf]; omega
              · go_wp2_with fail
                go_roundw
                case rel => exact ⟨q + 1, by omega, by go_num, hI6⟩
                case measure => simp [intOf]; omega
          · go_wp2_with fail
            go_quiet (fail)
            go_wp2_with fail
            clear c1 c2 c3 c4
            have hI5 := hI4.drewN nq
            go_loopw [21] (fun s wr => ∃ k : Nat, k ≤ 3 ∧ s = .int .i64 k ∧ Inv w.heap.size (w.heap.size + 1) (w.heap.size + 1 + 1) S C X w wr) (fun s _ => 3 - (intOf s).toNat)
            case atStart => exact ⟨0, by omega, rfl, hI5⟩
            case round =>
              obtain ⟨m, hm3, rfl, hI6⟩ := hrel
              clear hI5 hI4
              by_cases hltm : m < 3
              · go_wp2_with fail
                go_roundw
                case rel => exact ⟨m + 1, by omega, by go_num, hI6⟩
                case measure => simp [intOf]; omega
              · go_wp2_with fail
                go_roundw
                case rel => exact ⟨q + 1, by omega, by go_num, hI6⟩
                case measure => simp [intOf]; omega
        · go_wp2_with fail
          first | exact ⟨⟨p + 1, by omega, by go_num, hI2⟩, by simp [intOf]; omega⟩ | (refine ⟨?_, by simp [intOf]; omega⟩; (repeat apply Exists.intro); exact ⟨⟨p + 1, by omega, by go_num, hI2⟩, rfl⟩)
    · go_wp2_with fail
      go_ret
      exact ⟨rfl, hI.bl⟩

set_option maxRecDepth 100000 in
theorem lifted (os : Os) (started : os.Started) (H : Type) (enc : TypeId × Value → H) :
    ReturnsInHanded {} Try.checked os 8 .any (Rows.fnLessIsStrictTotalOrderOnKeysSpec.pre6 enc Try.prog Try.f8 Rows.fnLessIsStrictTotalOrderOnKeysRow.domain false) (Rows.fnLessIsStrictTotalOrderOnKeysSpec.post enc Try.prog Try.f8 false true false false) := by
  refine returnsInHanded_of_change (C := Try.checked) own started (by kernel_rfl) Try.func8
    (ChangeSpec.witness6 (enc := enc) (C := Try.checked) false ⟨#[], #[.int .i32 0, .int .u8 0, .int .i32 0, .int .u8 0, .int .i32 0, .int .u8 0], []⟩ 8 (by kernel_rfl) (by kernel_rfl) (by kernel_rfl) (by kernel_rfl)) ?_
  intro W base args ds gs before hval0 hW hcnd _
  have hval : ∀ (j : Nat) t v, Try.f8.params[j]? = some t → args[j]? = some v → Value.okWide Try.prog W .any base t v := hval0
  have hW' := hW
  obtain ⟨p, q, hA0, hV, rfl, hfz, hnd⟩ := hW
  have hA : DataW.TrodAll enc Try.prog W 0 (fun _ => true) true Try.f8.params.toList args.toList ds p := hA0
  rw [Try.params8] at hA hval
  obtain ⟨v0, vs0, d0, ds0, p0, q0, hargs0, rfl, rfl, h0, r0⟩ := trodAll_cons hA
  obtain ⟨v1, vs1, d1, ds1, p1, q1, hargs1, rfl, rfl, h1, r1⟩ := trodAll_cons r0
  obtain ⟨v2, vs2, d2, ds2, p2, q2, hargs2, rfl, rfl, h2, r2⟩ := trodAll_cons r1
  obtain ⟨v3, vs3, d3, ds3, p3, q3, hargs3, rfl, rfl, h3, r3⟩ := trodAll_cons r2
  obtain ⟨v4, vs4, d4, ds4, p4, q4, hargs4, rfl, rfl, h4, r4⟩ := trodAll_cons r3
  obtain ⟨v5, vs5, d5, ds5, p5, q5, hargs5, rfl, rfl, h5, r5⟩ := trodAll_cons r4
  obtain ⟨rfl, rfl, rfl⟩ := trodAll_nil r5
  obtain rfl : args = #[v0, v1, v2, v3, v4, v5] := by cases args; simp_all
  obtain ⟨a0, rfl, rfl, rfl, w0⟩ := open_int Try.underlying21 (hval 0 21 v0 rfl rfl) h0
  obtain ⟨a1, rfl, rfl, rfl, w1⟩ := open_int Try.underlying5 (hval 1 5 v1 rfl rfl) h1
  obtain ⟨a2, rfl, rfl, rfl, w2⟩ := open_int Try.underlying21 (hval 2 21 v2 rfl rfl) h2
  obtain ⟨a3, rfl, rfl, rfl, w3⟩ := open_int Try.underlying5 (hval 3 5 v3 rfl rfl) h3
  obtain ⟨a4, rfl, rfl, rfl, w4⟩ := open_int Try.underlying21 (hval 4 21 v4 rfl rfl) h4
  obtain ⟨a5, rfl, rfl, rfl, w5⟩ := open_int Try.underlying5 (hval 5 5 v5 rfl rfl) h5
  clear hA0 hval0
  refine (walk a0 a1 a2 a3 a4 a5 w0 w1 w2 w3 w4 w5 W).mono fun e W' ⟨he, hg⟩ => ?_
  subst he
  exact ⟨_, rfl, law_post laid readEach rfl rfl Try.underlying4 ⟨rfl, rfl, rfl⟩ hW' hg⟩

theorem over : Rows.fnLessIsStrictTotalOrderOnKeysRow.holds Try.pinned (OpenSpec.ofChange Rows.fnLessIsStrictTotalOrderOnKeysSpec) :=
  OpenClaim.holds_of_wide 8 Try.f8 rfl rfl rfl rfl rfl rfl rfl ⟨rfl, rfl, rfl, rfl, rfl⟩ rfl rfl rfl rfl rfl (by kernel_rfl) Try.func8 (by kernel_rfl)
    (of_decide_eq_true (by kernel_rfl)) (by unfold Func.isWrapper; first | (rw [if_pos (by decide +kernel)]; kernel_rfl) | (rw [if_neg (by decide +kernel)]; exact ⟨rfl, rfl⟩))
    (fun os started H enc _ => lifted os started H enc)

/-- The statement. -/
theorem proved : Rows.FnLessIsStrictTotalOrderOnKeysSaid :=
  over
#print axioms proved
end Go.Proofs.Ytajoaaodnjlocab.fnLessIsStrictTotalOrderOnKeys
