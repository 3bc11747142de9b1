/-
  Proved: the tied card of the law FnDecodeEscapesInvertsHexEscaping of folder n011_251: it returns true for every argument that its parameter types allow, wherever unicode/utf8's two tables hold what their initialisers lay, and leaves its arguments as they were; there is no further condition.
-/
import Derived.Test.YtcljenkgbbbfpaaDoorCards
import Derived.Test.YtcljenkgbbbfpaaDoorTie
import Derived.Test.YtcljenkgbbbfpaaDoorShelf
import Derived.WalkKit
import Derived.ProofKit
import Derived.OpenShut
import Derived.Below
import Derived.Carry
import Derived.ChangeMaps5
import Derived.Deep.DeepHandedRow
import Derived.Lib.LaidTab
import Derived.Lib.LaidU8
import Derived.PinnedBridge
import Derived.Handy
import Derived.Lib.Hide
import Derived.WalkSpells
import Derived.OwnWalk
import Derived.Test.YtcljenkgbbbfpaaDoorDz
import Derived.Test.YtcljenkgbbbfpaaDoorEa
import Derived.Test.YtcljenkgbbbfpaaDoorHp
import Derived.Test.YtcljenkgbbbfpaaDoorSz
namespace Go.Proofs.YtcljenkgbbbfpaaDoor.fnDecodeEscapesInvertsHexEscaping
open Go.ChangeShapes Go.WideShapes Go.ChangeAt Go.RowKit
set_option linter.unusedVariables false

theorem own : ownKnob Tryd.prog.godebug = none := by kernel_rfl
theorem laid : laidOutB Tryd.prog = true := by kernel_rfl
theorem readAll : (Tryd.f4.params.toList.all fun t => Tryd.prog.readableRec t && decide (t < Tryd.prog.types.size)) = true := by kernel_rfl
theorem readEach : ∀ t ∈ Tryd.f4.params.toList, Tryd.prog.readableRec t = true ∧ t < Tryd.prog.types.size := fun t ht => by
  have := List.all_eq_true.1 readAll t ht
  simpa using this
theorem extra : U8Extra Tryd.prog Tryd.lays260_ren := ⟨by kernel_rfl, by kernel_rfl, by kernel_rfl, by kernel_rfl, by kernel_rfl, by kernel_rfl, by kernel_rfl⟩
theorem accept_eq : (Rows.laid_unicode_utf8_acceptRanges : DataW Unit) = Lib.acceptData := by kernel_rfl
/-- What the row's list gives: the two tables. -/
theorem tabs {W : World} (h : laidMetH Tryd.prog Rows.fnDecodeEscapesInvertsHexEscapingRow.laid W) : Lib.Utf8Tabs 1 2 W :=
  utf8Tabs_of_reads Tryd.lays260 extra
    (Lib.laidMet.reads h (by rw [← Pinned.utf8First_eq]; exact List.mem_cons.2 (Or.inr (List.mem_cons.2 (Or.inl rfl)))))
    (Lib.laidMet.reads h (by rw [← accept_eq]; exact List.mem_cons.2 (Or.inl rfl)))
section
variable {H : Type} {enc : TypeId × Value → H} {P : Program}
theorem trodAll_stays (hl : laidOutB P = true) {W W' : World} (hb : Below W.heap.size W W') {sp : Nat → Bool} : ∀ {ts : List TypeId} {vs : List Value} {ds : List (DataW H)} {ps : List MemPlace},
    (∀ t ∈ ts, P.readableRec t = true ∧ t < P.types.size) → DataW.TrodAll enc P W 0 (fun _ => true) true ts vs ds ps → (∀ p ∈ ps, p.block < W.heap.size) → (∀ p ∈ ps, sp p.block = true) → DataW.TrodAll enc P W' 0 sp true ts vs ds ps
  | [], [], [], _, _, h, _, _ => h
  | _ :: _, _ :: _, _ :: _, _, hT, ⟨p, q, h1, h2, e⟩, hlt, hs =>
    ⟨p, q, WideElems.Trod_stays hl (hT _ (List.mem_cons.2 (Or.inl rfl))).1 (hT _ (List.mem_cons.2 (Or.inl rfl))).2 h1 (fun x hx => hb.same (hlt x (by rw [e]; exact List.mem_append_left _ hx))) (fun x hx => hs x (by rw [e]; exact List.mem_append_left _ hx)),
      trodAll_stays hl hb (fun t ht => hT t (List.mem_cons.2 (Or.inr ht))) h2 (fun x hx => hlt x (by rw [e]; exact List.mem_append_right _ hx)) (fun x hx => hs x (by rw [e]; exact List.mem_append_right _ hx)), e⟩

/-- A law's step: the result is true, the arguments are kept, the world has changed in new blocks alone. -/
theorem law_post {f : Func} {s : ChangeSpec} {apart fresh handsOn again : Bool} {W W' : World} {args : Array Value} {ds gs : List (DataW H)} {before : List MemPlace} {tb : TypeId}
    (hl : laidOutB P = true) (hps : ∀ t ∈ f.params.toList, P.readableRec t = true ∧ t < P.types.size) (hv : s.vars = []) (hr : f.resultTypes = #[tb]) (ht : P.underlying tb = some .bool)
    (hs : (s.fn H (ds ++ [])).results = [.lit (.bool true)] ∧ (s.fn H (ds ++ [])).args = ds ∧ (s.fn H (ds ++ [])).vars = [])
    (hW : DataW.Whole enc P f.params.toList s.vars apart W args.toList ds gs before) (hb : Below W.heap.size W W') :
    s.post enc P f apart fresh handsOn again W args (.bool true) W' := by
  have hlt : ∀ p ∈ before, p.block < W.heap.size := fun p hp => hW.lt p hp
  have hold : ∀ p ∈ before, (fun b => decide (b < W.heap.size)) p.block = true := fun p hp => by simpa using hlt p hp
  have hW0 := hW
  obtain ⟨pa, pv, hA, hV, rfl, hz, hn⟩ := hW
  rw [hv] at hV
  obtain ⟨rfl, rfl⟩ := trodVars_none hV
  have hres : ∀ (b : Nat) (sp : Nat → Bool) (hd : Bool), DataW.TrodAll enc P W' b sp hd f.resultTypes.toList ((Value.bool true).resultList f.resultTypes.size) (s.fn H (ds ++ [])).results [] := fun b sp hd => by
    rw [hs.1, hr]; exact trodAll_cons_mk (shut_bool ht _) trodAll_mk0
  have hargs : ∀ sp : Nat → Bool, (∀ p ∈ pa ++ [], sp p.block = true) → DataW.TrodAll enc P W' 0 sp true f.params.toList args.toList (s.fn H (ds ++ [])).args pa := fun sp hsp => by
    rw [hs.2.1]; exact trodAll_stays hl hb hps hA (fun p hp => hlt p (by simpa using hp)) (fun p hp => hsp p (by simpa using hp))
  have hvars : ∀ sp : Nat → Bool, DataW.TrodVars enc P W' sp s.vars (s.fn H (ds ++ [])).vars [] := fun sp => by rw [hv, hs.2.2]; rfl
  refine ⟨ds, [], pa ++ [], [], pa, [], hW0, hres _ _ _, hargs _ hold, hvars _, World.keptBut_mono (fun p hp => ⟨hp, Or.inr (List.mem_append.1 hp)⟩) (hb.frame (· ∈ pa ++ [])), fun _ => ?_⟩
  refine ⟨?_, _, _, ([] ++ pa) ++ [], ⟨[] ++ pa, [], trodAll_append (hargs _ (fun _ _ => rfl)) (hres _ _ _), hvars _, rfl, ?_, ?_⟩, ?_⟩
  · intro j t r h1 h2
    rw [hr] at h1 h2
    match j, h1, h2 with
    | 0, h1, h2 =>
      obtain rfl : tb = t := by simpa using h1
      obtain rfl : Value.bool true = r := by simpa [Value.resultList] using h2
      exact okWide_bool_mk ht _
    | j + 1, h1, _ => simp at h1
  · intro b off hp
    have hp' : MemPlace.cell b off ∈ pa ++ [] := by simpa using hp
    rw [hb.frozen (hlt _ hp')]
    exact hz b off hp'
  · intro ha
    simpa using hn ha
  · intro p hp _
    simpa using hp
end

open Go.PlainAid Str Mem Sz De Dw Dg Dz Ap Hp
theorem heap3 {w : World} (h : Lib.Utf8Tabs 1 2 w) : 3 ≤ w.heap.size := by
  have := (h.2 0 (by omega)).1
  have := World.block_lt_of_cell? w _ this
  exact this
def Vd (c : Int) : Prop := 1 ≤ c ∧ c ≤ 1114111 ∧ (c < 55296 ∨ 57343 < c)
theorem mk66 (n : Nat) (h : n ≤ 10000000) (x : Int) (hx : x = n) (w : World) : (Instr.makeSlice 66 (.int .i64 0) (.int .i64 x)).run Tryd.prog w = .ok (.slice (some ⟨w.heap.size, 0, none⟩) 0 n) (w.alloc (.cells (madeCells #[.int .u8 0] (n * 1)) 5)) := by
  subst hx
  exact run_mkc (P := Tryd.prog) 66 5 _ _ rfl _ _ Tryd.underlying66 info8 0 n (by omega) (by omega) (by omega) w
/-- The state of the main loop: the two buffers. -/
structure Ms (w : World) (U P S : Nat → Bool) (Z : Nat → Int) (k : Nat) (ve vw : Value) (wr : World) : Prop where
  oe : wr.ownsRow w.heap.size 5 1 ve (E U P S Z k).length (bytesV (E U P S Z k))
  ow : wr.ownsRow w.heap.size 5 1 vw (V Z k).length (bytesV (V Z k))
  ap : Apart ve vw
  be : Below w.heap.size w wr
def fl (n : Nat) (Z : Nat → Int) (i : Nat) : Int := if i < n then Z i else 0
/-- The state of the loop over the digits: d of them are written into the block g. -/
structure Ds (wr : World) (up : Bool) (v : Int) (n : Nat) (x : Int) (wx : World) : Prop where
  n6 : n ≤ 6
  x0 : 0 ≤ x
  x1 : x < 16 ^ (6 - n)
  d : ∃ (d : List Int) (cs : Array Value), d.length = n ∧ dl up 6 v = d ++ dl up (6 - n) x ∧ Own wx wr.heap.size 70 cs ∧ cs.size = 6 ∧ ∀ i (h : i < d.length), cs[i]? = some (.int .u8 d[i])
  gr : wr.grownBy wx none
theorem dl_step (up : Bool) (n : Nat) (x : Int) (hn : n < 6) (hx : 0 < x) : dl up (6 - n) x = hd up (x % 16) :: dl up (6 - (n + 1)) (x / 16) := by
  rw [show 6 - n = (6 - (n + 1)) + 1 by omega, dl, if_pos hx]
theorem dl_zero (up : Bool) (n : Nat) (x : Int) (hx : x ≤ 0) : dl up n x = [] := by
  cases n with
  | zero => rfl
  | succ n => rw [dl, if_neg (by omega)]
theorem lt6 {n : Nat} {x : Int} (hn : n ≤ 6) (hx : 0 < x) (h : x < 16 ^ (6 - n)) : n < 6 := by
  by_cases e : n = 6
  · subst e; simp at h; omega
  · omega
theorem div16 {n : Nat} {x : Int} (hn : n < 6) (h : x < 16 ^ (6 - n)) : x / 16 < 16 ^ (6 - (n + 1)) := by
  rw [show 6 - n = (6 - (n + 1)) + 1 by omega, Int.pow_succ] at h
  omega
theorem Ds.start (wr : World) (up : Bool) (v : Int) (h0 : 0 ≤ v) (h1 : v ≤ 1114111) (cs : Array Value) (hcs : cs.size = 6) : Ds wr up v 0 v (wr.alloc (.cells cs 70)) :=
  ⟨by omega, h0, by have : (16 : Int) ^ (6 - 0) = 16777216 := by decide
                    omega, ⟨[], cs, rfl, rfl, Own.new _ _ _, hcs, fun i h => absurd h (by simp)⟩, World.grownBy_alloc _ _ _⟩
theorem Ds.next {wr wx : World} {up : Bool} {v x : Int} {n : Nat} (h : Ds wr up v n x wx) (hx : 0 < x) : Ds wr up v (n + 1) (x / 16) (wx.setCell ⟨wr.heap.size, n, none⟩ (.int .u8 (hd up (x % 16)))) := by
  have hn := lt6 h.n6 hx h.x1
  obtain ⟨d, cs, e1, e2, e3, e4, e5⟩ := h.d
  refine ⟨by omega, by omega, div16 hn h.x1, ⟨d ++ [hd up (x % 16)], cs.setIfInBounds n (.int .u8 (hd up (x % 16))), by simp [e1], ?_, e3.set n _, by simpa using e4, ?_⟩, ?_⟩
  · rw [e2, dl_step up n x hn hx]; simp
  · intro i hi
    rw [List.length_append, List.length_singleton] at hi
    rw [Array.getElem?_setIfInBounds]
    by_cases e : n = i
    · subst e
      rw [if_pos rfl, if_pos (by omega)]
      rw [List.getElem_append_right (by omega)]
      simp [e1]
    · rw [if_neg e, List.getElem_append_left (by omega)]
      exact e5 i (by omega)
  · refine ⟨h.gr.os, h.gr.tape, h.gr.output, by rw [World.size_setCell]; exact h.gr.size, fun k hk hne => ?_⟩
    rw [Below.heap_setCell wx ⟨wr.heap.size, n, none⟩ _ k (by show k ≠ wr.heap.size; omega)]
    exact h.gr.block k hk hne
theorem kept_none {w w' : World} {B : Nat} {v : Value} {n : Nat} {xs : List Value} (h : w.ownsRow B 5 1 v n xs) (hg : w.grownBy w' none) : w'.ownsRow B 5 1 v n xs := h.kept hg (by cases v.ownBlock <;> simp)
/-- The block of digits stands while a buffer grows. -/
theorem own_kept {wr wx w5 : World} {B : Nat} {v0 v : Value} {l : List Int} {cs : Array Value} {n : Nat} {xs : List Value} (h : Own wx wr.heap.size 70 cs) (hv : wr.ownsRow B 5 1 v0 n xs) (hb : Bf B wx v0.ownBlock v l w5) : Own w5 wr.heap.size 70 cs := by
  refine (hb.gr.block _ h.lt fun e => ?_).trans h
  have := (hv.lt _ e.symm).2
  omega
theorem drop_rev {d : List Int} {m : Nat} (hm : m < d.length) : (d.drop m).reverse = (d.drop (m + 1)).reverse ++ [d[m]] := by
  rw [← List.reverse_cons, ← List.drop_eq_getElem_cons hm]
set_option maxRecDepth 100000 in
set_option maxHeartbeats 4000000 in
theorem walk (A0 : Option Addr) (n0 c0 : Nat) (Z0 : Nat → Int) (A1 : Option Addr) (n1 c1 : Nat) (Z1 : Nat → Int) (w : World) (hT : Lib.Utf8Tabs 1 2 w) (hA0 : Mem.Rd w w.heap.size 1 A0 n0 (fun j => .int .i32 (Z0 j))) (hc0 : c0 ≤ maxLen) (hn0 : n0 ≤ c0) (hz0 : A0 = none → n0 = 0 ∧ c0 = 0) (hZ0 : ∀ j, j < n0 → (Lit.int .i32 (Z0 j)).wf = true) (hA1 : Mem.Rd w w.heap.size 1 A1 n1 (fun j => .int .u8 (Z1 j))) (hc1 : c1 ≤ maxLen) (hn1 : n1 ≤ c1) (hz1 : A1 = none → n1 = 0 ∧ c1 = 0) (hZ1 : ∀ j, j < n1 → (Lit.int .u8 (Z1 j)).wf = true) :
    Calls Tryd.prog 4 #[.slice A0 n0 c0, .slice A1 n1 c1] w fun e w' => e = .returned (.bool true) ∧ Below w.heap.size w w' := by
  have hw3 := heap3 hT
  have HT := Lib.hid hT
  have HA0 := Lib.hid hA0
  have HA1 := Lib.hid hA1
  have HZ0 := Lib.hid hZ0
  have HZ1 := Lib.hid hZ1
  have mx0 : n0 ≤ maxLen := Nat.le_trans hn0 hc0
  have mx1 : n1 ≤ maxLen := Nat.le_trans hn1 hc1
  clear hT hA0 hA1 hZ0 hZ1 hz0 hz1
  go_enter Tryd.func4, Tryd.ntmps4
  go_wp2_with fail
  refine (bytes16 A0 n0 c0 A1 n1 c1 _ mx0 mx1).mono ?_
  rintro e w' ⟨rfl, rfl⟩
  clear mx0 mx1 hc0 hn0 hc1 hn1
  by_cases ht : n0 + n1 ≤ 1048576
  · rw [szOk_yes ht]
    by_cases g0 : 131072 < n0
    · have t0 : decide (131072 < n0) = true := decide_eq_true g0
      go_wp2_with fail
      go_ret
      exact ⟨rfl, by go_grown⟩
    by_cases g1 : 131072 < n1
    · have t0 : decide (131072 < n0) = false := decide_eq_false g0
      have t1 : decide (131072 < n1) = true := decide_eq_true g1
      go_wp2_with fail
      go_ret
      exact ⟨rfl, by go_grown⟩
    have t0 : decide (131072 < n0) = false := decide_eq_false g0
    have t1 : decide (131072 < n1) = false := decide_eq_false g1
    go_wp2_with fail
    go_loop [5] (fun i => ∃ k : Nat, k ≤ n0 ∧ i = .int .i64 k ∧ Hid (∀ j, j < k → Vd (Z0 j))) (fun i => n0 - (intOf i).toNat)
    case atStart => exact ⟨0, Nat.zero_le _, rfl, Lib.hid fun j hj => absurd hj (by omega)⟩
    case round =>
      obtain ⟨k, hk, rfl, HV⟩ := hrel
      by_cases hlt : k < n0
      · have z : decide (k < n0) = true := decide_eq_true hlt
        obtain ⟨b, off, rfl, hb, hc⟩ := HA0.out (by omega)
        have hck := hc k (by omega)
        have hwf : -2147483648 ≤ Z0 k ∧ Z0 k ≤ 2147483647 := by simpa [Lit.wf, IntKind.min, IntKind.max, IntKind.signed, IntKind.bits] using HZ0.out k hlt
        clear hc
        by_cases hv : Vd (Z0 k)
        · have HV2 : Hid (∀ j, j < k + 1 → Vd (Z0 j)) := Lib.hid fun j hj => by
            by_cases e : j = k
            · subst e; exact hv
            · exact HV.out j (by omega)
          unfold Vd at hv
          go_wp2_with fail
          all_goals first
            | (go_round
               case rel => exact ⟨k + 1, by omega, by go_num, HV2⟩
               case measure => simp [intOf]; omega)
            | (exfalso; omega)
        · unfold Vd at hv
          go_wp2_with fail
          all_goals first
            | (go_ret; exact ⟨rfl, by go_grown⟩)
            | (exfalso; omega)
      · obtain rfl : k = n0 := by omega
        have z : decide (k < k) = false := decide_eq_false (by omega)
        have hmk8 := mk66 (k * 8) (by omega) ((k : Int) * 8) (by omega)
        have hmk4 := mk66 (k * 4) (by omega) ((k : Int) * 4) (by omega)
        go_wp2_with fail
        have HM : Hid (Ms w (fun i => bits .and .u8 (fl n1 Z1 i) 1 != 0) (fun i => bits .and .u8 (fl n1 Z1 i) 2 != 0) (fun i => bits .and .u8 (fl n1 Z1 i) 4 != 0) Z0 0 (.slice (some ⟨w.heap.size, 0, none⟩) 0 (k * 8)) (.slice (some ⟨w.heap.size + 1, 0, none⟩) 0 (k * 4)) ((w.alloc (Obj.cells (madeCells #[Value.int IntKind.u8 0] (k * 8)) 5)).alloc (Obj.cells (madeCells #[Value.int IntKind.u8 0] (k * 4)) 5))) := by
          refine Lib.hid ⟨?_, ?_, ?_, ?_⟩
          · have h := World.ownsRow_made w (madeCells #[Value.int IntKind.u8 0] (k * 8)) (k * 8) (base := w.heap.size) (e := 5) (size := 1) (Nat.le_refl _) (by unfold maxLen; omega) (by rw [size_madeCells, Nat.mul_one])
            exact h.alloc _
          · have h := World.ownsRow_made (w.alloc (Obj.cells (madeCells #[Value.int IntKind.u8 0] (k * 8)) 5)) (madeCells #[Value.int IntKind.u8 0] (k * 4)) (k * 4) (base := w.heap.size) (e := 5) (size := 1) (by simp) (by unfold maxLen; omega) (by rw [size_madeCells, Nat.mul_one])
            rw [World.size_alloc] at h
            exact h
          · intro i h1 h2
            simp [Value.ownBlock] at h1 h2
            omega
          · go_grown
        clear hmk8 hmk4
        go_loopw [7, 8, 9] (fun ve vw i wr => ∃ j : Nat, j ≤ k ∧ i = .int .i64 j ∧ Hid (Ms w (fun i => bits .and .u8 (fl n1 Z1 i) 1 != 0) (fun i => bits .and .u8 (fl n1 Z1 i) 2 != 0) (fun i => bits .and .u8 (fl n1 Z1 i) 4 != 0) Z0 j ve vw wr)) (fun _ _ i _ => k - (intOf i).toNat)
        case atStart => exact ⟨0, Nat.zero_le _, rfl, HM⟩
        case round =>
          clear HM
          obtain ⟨j, hj, rfl, HM⟩ := hrel
          obtain ⟨wo, rfl⟩ : ∃ wo : World, wo = wr := ⟨_, rfl⟩
          obtain ⟨ve, rfl⟩ : ∃ x : Value, x = u7 := ⟨_, rfl⟩
          obtain ⟨vw, rfl⟩ : ∃ x : Value, x = u8 := ⟨_, rfl⟩
          by_cases hjk : j < k
          · have zj : decide (j < k) = true := decide_eq_true hjk
            obtain ⟨b, off, rfl, hb, hc⟩ := HA0.out (by omega)
            have hck := (HM.out.be.cell (p := ⟨b, off + j, none⟩) hb).trans (hc j (by omega))
            have hv := HV.out j hjk
            unfold Vd at hv
            clear hc
            have hel := E_len (fun i => bits .and .u8 (fl n1 Z1 i) 1 != 0) (fun i => bits .and .u8 (fl n1 Z1 i) 2 != 0) (fun i => bits .and .u8 (fl n1 Z1 i) 4 != 0) Z0 j (fun i hi => (HV.out i (by omega)).1)
            have hvl := V_len Z0 j
            have hgo : ∀ (up pad sp : Bool), Hid ((bits .and .u8 (fl n1 Z1 j) 1 != 0) = up) → Hid ((bits .and .u8 (fl n1 Z1 j) 2 != 0) = pad) → Hid ((bits .and .u8 (fl n1 Z1 j) 4 != 0) = sp) → Hid (E (fun i => bits .and .u8 (fl n1 Z1 i) 1 != 0) (fun i => bits .and .u8 (fl n1 Z1 i) 2 != 0) (fun i => bits .and .u8 (fl n1 Z1 i) 4 != 0) Z0 (j + 1) = E (fun i => bits .and .u8 (fl n1 Z1 i) 1 != 0) (fun i => bits .and .u8 (fl n1 Z1 i) 2 != 0) (fun i => bits .and .u8 (fl n1 Z1 i) 4 != 0) Z0 j ++ piece up pad sp (Z0 j)) := by
              intro up pad sp h1 h2 h3
              refine Lib.hid ?_
              rw [E_succ, ← h1.out, ← h2.out, ← h3.out]
            have HGO := Lib.hid hgo
            clear hgo
            have hE0 := HM.out.oe
            have hW0 := HM.out.ow
            have hAP := HM.out.ap
            have hBE := HM.out.be
            clear HM
            generalize hE : E (fun i => bits .and .u8 (fl n1 Z1 i) 1 != 0) (fun i => bits .and .u8 (fl n1 Z1 i) 2 != 0) (fun i => bits .and .u8 (fl n1 Z1 i) 4 != 0) Z0 j = L at *
            have HE0 := Lib.hid hE0
            have HW0 := Lib.hid hW0
            have HAP := Lib.hid hAP
            have HBE := Lib.hid hBE
            have HEE := Lib.hid hE
            have hbz := hBE.size
            clear hE0 hW0 hAP hBE hE
            by_cases hj1 : j < n1
            focus
              have zj1 : decide (j < n1) = true := decide_eq_true hj1
              obtain ⟨b1, off1, rfl, hb1, hc1⟩ := HA1.out (by omega)
              have hck1 := (HBE.out.cell (p := ⟨b1, off1 + j, none⟩) hb1).trans (hc1 j (by omega))
              have hwf1 : 0 ≤ Z1 j ∧ Z1 j ≤ 255 := by simpa [Lit.wf, IntKind.min, IntKind.max, IntKind.signed, IntKind.bits] using HZ1.out j hj1
              clear hc1
              go_wp2_with fail
              have hf : fl n1 Z1 j = Z1 j := if_pos hj1
              obtain ⟨up, hup⟩ : ∃ up, (bits .and .u8 (Z1 j) 1 != 0) = up := ⟨_, rfl⟩
              obtain ⟨pad, hpad⟩ : ∃ pad, (bits .and .u8 (Z1 j) 2 != 0) = pad := ⟨_, rfl⟩
              obtain ⟨sp, hsp⟩ : ∃ sp, (bits .and .u8 (Z1 j) 4 != 0) = sp := ⟨_, rfl⟩
              have HP := HGO.out up pad sp (Lib.hid (by rw [hf]; exact hup)) (Lib.hid (by rw [hf]; exact hpad)) (Lib.hid (by rw [hf]; exact hsp))
              rw [hup, hpad, hsp]
              clear hup hpad hsp hf HGO hck1 hwf1 zj1
            rotate_left
            focus
              have zj1 : decide (j < n1) = false := decide_eq_false hj1
              go_wp2_with fail
              have hf : fl n1 Z1 j = 0 := if_neg hj1
              obtain ⟨up, hup⟩ : ∃ up, (bits .and .u8 0 1 != 0) = up := ⟨_, rfl⟩
              obtain ⟨pad, hpad⟩ : ∃ pad, (bits .and .u8 0 2 != 0) = pad := ⟨_, rfl⟩
              obtain ⟨sp, hsp⟩ : ∃ sp, (bits .and .u8 0 4 != 0) = sp := ⟨_, rfl⟩
              have HP := HGO.out up pad sp (Lib.hid (by rw [hf]; exact hup)) (Lib.hid (by rw [hf]; exact hpad)) (Lib.hid (by rw [hf]; exact hsp))
              rw [hup, hpad, hsp]
              clear hup hpad hsp hf HGO zj1
            all_goals
              clear hj1
              generalize hv' : Z0 j = v at *
              have HVV := Lib.hid hv'
              clear hv'
              go_loopw [16, 17] (fun a x wx => ∃ (n : Nat) (xv : Int), a = .int .i64 n ∧ x = .int .i32 xv ∧ Hid (Ds wo up v n xv wx)) (fun _ x _ => (intOf x).toNat)
              case atStart => exact ⟨0, v, rfl, rfl, Lib.hid (Ds.start wo up v (by omega) (by omega) _ rfl)⟩
              case round =>
                obtain ⟨n, xv, rfl, rfl, HD⟩ := hrel
                have hx0 := HD.out.x0
                have hxb : xv ≤ 16777216 := by
                  have h1 := HD.out.x1
                  have h2 : (16 : Int) ^ (6 - n) ≤ 16 ^ 6 := by
                    have := HD.out.n6
                    obtain e | e | e | e | e | e | e : n = 0 ∨ n = 1 ∨ n = 2 ∨ n = 3 ∨ n = 4 ∨ n = 5 ∨ n = 6 := by omega
                    all_goals (subst e; decide)
                  have h3 : (16 : Int) ^ 6 = 16777216 := by decide
                  omega
                by_cases hx : 0 < xv
                · have hn6 := lt6 HD.out.n6 hx HD.out.x1
                  have tx : decide (0 < xv) = true := decide_eq_true hx
                  obtain ⟨d, cs, e1, e2, e3, e4, e5⟩ := HD.out.d
                  have hcl : ∃ u, wr.cell? ⟨wo.heap.size, n, none⟩ = some u := by
                    rw [e3.cell n]; exact ⟨_, Array.getElem?_eq_getElem (by omega)⟩
                  obtain ⟨u, hcl⟩ := hcl
                  have hfz := e3.frozen n
                  have HDN := Lib.hid (HD.out.next hx)
                  clear e1 e2 e3 e4 e5 HD
                  have hn0 : (0 : Int) ≤ (n : Int) := by omega
                  have hn1 : (n : Int) < 6 := by omega
                  go_wp2_with (go_at_call 17; refine (digit _ _ (by omega) (by omega) _).mono ?_; rintro e w9 ⟨rfl, rfl⟩)
                  go_roundw
                  case rel => exact ⟨n + 1, _, by go_num, rfl, HDN⟩
                  case measure => simp [intOf]; omega
                · have tx : decide (0 < xv) = false := decide_eq_false hx
                  obtain ⟨d, cs, e1, e2, e3, e4, e5⟩ := HD.out.d
                  rw [dl_zero up _ xv (by omega), List.append_nil] at e2
                  have hn6 := HD.out.n6
                  have hng := HD.out.gr
                  have HB0 := Lib.hid (Bf.start (kept_none HE0.out hng) (Nat.le_trans hbz hng.size))
                  have hgz := hng.size
                  have HOW := Lib.hid (kept_none HW0.out hng)
                  have HGR := Lib.hid hng
                  have H1 := Lib.hid e1
                  have H2 := Lib.hid e2
                  have H3 := Lib.hid e3
                  have H5 := Lib.hid e5
                  clear HD e1 e2 e3 e4 e5 hng
                  obtain ⟨wx, rfl⟩ : ∃ wx : World, wx = wr := ⟨_, rfl⟩
                  go_wp2_with (at_builtin; (refine push rfl _ _ rfl w.heap.size wx _ _ ve L _ rfl HB0.out (by rfl) (by omega) ?_))
                  intro v1 w1 hb1
                  have HB1 := Lib.hid hb1
                  clear hb1 HB0
                  have hl1 : (L ++ [92]).length = L.length + 1 := by simp
                  cases pad
                  · obtain ⟨M, hM⟩ : ∃ M, M = L ++ [92] := ⟨_, rfl⟩
                    have hMl : M.length ≤ 8 * j + 10 := by rw [hM, hl1]; omega
                    have HPM : Hid (L ++ piece up false sp v = M ++ d.reverse ++ (if sp then [32] else [])) := Lib.hid (by rw [hM]; unfold piece digits; rw [H2.out]; simp)
                    have HBM : Hid (Bf w.heap.size wx ve.ownBlock v1 M w1) := Lib.hid (by rw [hM]; exact HB1.out)
                    clear hM HB1 hl1
                    go_wp2_with fail
                    go_loopw [7, 19] (fun ve' z wq => ∃ m : Nat, m ≤ n ∧ z = .int .i64 ((m : Int) - 1) ∧ Hid (Bf w.heap.size wx ve.ownBlock ve' (M ++ (d.drop m).reverse) wq)) (fun _ z _ => (intOf z + 1).toNat)
                    case atStart => exact ⟨n, Nat.le_refl _, rfl, by rw [List.drop_of_length_le (by rw [H1.out]; exact Nat.le_refl _), List.reverse_nil, List.append_nil]; exact HBM⟩
                    case round =>
                      clear HBM
                      obtain ⟨m, hm, rfl, HQ⟩ := hrel
                      have hqz := HQ.out.gr.size
                      by_cases hm0 : 0 < m
                      · obtain ⟨m', rfl⟩ : ∃ m', m = m' + 1 := ⟨m - 1, by omega⟩
                        have em : (((m' + 1 : Nat) : Int) - 1) = (m' : Int) := by omega
                        have hmd : m' < d.length := by rw [H1.out]; omega
                        have hcd := (own_kept H3.out HE0.out HQ.out).cell m'
                        rw [H5.out m' hmd] at hcd
                        have HDR := Lib.hid (drop_rev hmd)
                        have hm0' : (0 : Int) ≤ (m' : Int) := by omega
                        have hm1' : (m' : Int) < 6 := by omega
                        have tm : decide ((0 : Int) ≤ (m' : Int)) = true := decide_eq_true (by omega)
                        have hml : (M ++ (d.drop (m' + 1)).reverse).length + 1 ≤ 140737488355328 := by
                          have := H1.out
                          rw [List.length_append, List.length_reverse, List.length_drop]; omega
                        rw [em]
                        generalize d[m'] = c at *
                        go_wp2_with (at_builtin; (refine push rfl _ _ rfl w.heap.size wx _ _ _ _ _ rfl HQ.out (by rfl) hml ?_))
                        intro v2 w2 hb2
                        have HQ2 : Hid (Bf w.heap.size wx ve.ownBlock v2 (M ++ (d.drop m').reverse) w2) := Lib.hid (by rw [HDR.out]; simpa only [List.append_assoc] using hb2)
                        clear hb2 HQ
                        go_wp2_with fail
                        go_roundw
                        case rel => first | exact ⟨m', by omega, rfl, HQ2⟩ | ((repeat apply Exists.intro); exact ⟨⟨m', by omega, rfl, HQ2⟩, rfl⟩)
                        case measure => first | (simp [intOf]; done) | (simp [intOf]; omega)
                      · obtain rfl : m = 0 := by omega
                        have HQ0 := HQ
                        rw [List.drop_zero] at HQ0
                        clear HQ
                        have tm : decide ((0 : Int) ≤ ((0 : Nat) : Int) - 1) = false := by decide
                        have tm' : decide ((0 : Int) ≤ -1) = false := by decide
                        have hml : (M ++ d.reverse).length + 1 ≤ 140737488355328 := by
                          have := H1.out
                          rw [List.length_append, List.length_reverse]; omega
                        have hvl2 : (V Z0 j).length ≤ 100000000 := by omega
                        cases sp
                        · obtain ⟨w5, rfl⟩ : ∃ w5 : World, w5 = wr := ⟨_, rfl⟩
                          have HQ5 : Hid (Bf w.heap.size wx ve.ownBlock u7 (L ++ piece up false false v) w5) := Lib.hid (by rw [HPM.out, show (if false = true then [32] else ([] : List Int)) = [] from rfl, List.append_nil]; exact HQ0.out)
                          obtain ⟨k5, a5⟩ := HQ5.out.apart HOW.out HAP.out
                          have K5 := Lib.hid k5
                          have A5 := Lib.hid a5
                          clear k5 a5 HQ0
                          go_wp2_with fail
                          refine (Ea.enc w.heap.size vw (V Z0 j) v w5 K5.out (Nat.le_trans HQ5.out.base HQ5.out.gr.size) hvl2 (by omega) (by omega) (by omega)).mono ?_
                          rintro e w6 ⟨v6, rfl, hb6⟩
                          have HF : Hid (Ms w (fun i => bits .and .u8 (fl n1 Z1 i) 1 != 0) (fun i => bits .and .u8 (fl n1 Z1 i) 2 != 0) (fun i => bits .and .u8 (fl n1 Z1 i) 4 != 0) Z0 (j + 1) u7 v6 w6) := by
                            obtain ⟨k6, a6⟩ := hb6.apart HQ5.out.own A5.out.symm
                            refine Lib.hid ⟨?_, ?_, a6.symm, ?_⟩
                            · rw [HP.out]; exact k6
                            · rw [V_succ, HVV.out]; exact hb6.own
                            · have b1 : Below w.heap.size w wx := HBE.out.grown HGR.out hbz (fun k hk => by cases hk)
                              have b2 := b1.trans (HQ5.out.below (kept_none HE0.out HGR.out))
                              exact b2.trans (hb6.below K5.out)
                          clear hb6 K5 A5 HQ5
                          go_wp2_with fail
                          go_roundw
                          case rel => exact ⟨j + 1, by omega, by go_num, HF⟩
                          case measure => simp [intOf]; omega
                        · go_wp2_with (at_builtin; (refine push rfl _ _ rfl w.heap.size wx _ _ _ _ _ rfl HQ0.out (by rfl) hml ?_))
                          intro v5 w5 hb5
                          have HQ5 : Hid (Bf w.heap.size wx ve.ownBlock v5 (L ++ piece up false true v) w5) := Lib.hid (by rw [HPM.out]; simpa using hb5)
                          obtain ⟨k5, a5⟩ := HQ5.out.apart HOW.out HAP.out
                          have K5 := Lib.hid k5
                          have A5 := Lib.hid a5
                          clear k5 a5 HQ0 hb5
                          go_wp2_with fail
                          refine (Ea.enc w.heap.size vw (V Z0 j) v w5 K5.out (Nat.le_trans HQ5.out.base HQ5.out.gr.size) hvl2 (by omega) (by omega) (by omega)).mono ?_
                          rintro e w6 ⟨v6, rfl, hb6⟩
                          have HF : Hid (Ms w (fun i => bits .and .u8 (fl n1 Z1 i) 1 != 0) (fun i => bits .and .u8 (fl n1 Z1 i) 2 != 0) (fun i => bits .and .u8 (fl n1 Z1 i) 4 != 0) Z0 (j + 1) v5 v6 w6) := by
                            obtain ⟨k6, a6⟩ := hb6.apart HQ5.out.own A5.out.symm
                            refine Lib.hid ⟨?_, ?_, a6.symm, ?_⟩
                            · rw [HP.out]; exact k6
                            · rw [V_succ, HVV.out]; exact hb6.own
                            · have b1 : Below w.heap.size w wx := HBE.out.grown HGR.out hbz (fun k hk => by cases hk)
                              have b2 := b1.trans (HQ5.out.below (kept_none HE0.out HGR.out))
                              exact b2.trans (hb6.below K5.out)
                          clear hb6 K5 A5 HQ5
                          go_wp2_with fail
                          go_roundw
                          case rel => exact ⟨j + 1, by omega, by go_num, HF⟩
                          case measure => simp [intOf]; omega
                  · go_wp2_with fail
                    go_loopw [7, 18] (fun ve' z wq => ∃ m : Nat, n ≤ m ∧ m ≤ 6 ∧ z = .int .i64 m ∧ Hid (Bf w.heap.size wx ve.ownBlock ve' (L ++ [92] ++ List.replicate (m - n) 48) wq)) (fun _ z _ => 6 - (intOf z).toNat)
                    case atStart => exact ⟨n, Nat.le_refl _, hn6, rfl, by rw [Nat.sub_self, List.replicate_zero, List.append_nil]; exact HB1⟩
                    case round =>
                      clear HB1
                      obtain ⟨m, hm, hm6, rfl, HQ⟩ := hrel
                      by_cases hlt : m < 6
                      · have tm : decide ((m : Int) < 6) = true := decide_eq_true (by omega)
                        have hml : (L ++ [92] ++ List.replicate (m - n) 48).length + 1 ≤ 140737488355328 := by simp; omega
                        go_wp2_with (at_builtin; (refine push rfl _ _ rfl w.heap.size wx _ _ _ _ _ rfl HQ.out (by rfl) hml ?_))
                        intro v2 w2 hb2
                        have HQ2 : Hid (Bf w.heap.size wx ve.ownBlock v2 (L ++ [92] ++ List.replicate (m + 1 - n) 48) w2) := Lib.hid (by rw [show m + 1 - n = (m - n) + 1 by omega, List.replicate_succ']; simpa only [List.append_assoc, List.cons_append, List.nil_append] using hb2)
                        clear hb2 HQ
                        go_wp2_with fail
                        go_roundw
                        case rel => exact ⟨m + 1, by omega, by omega, by go_num, HQ2⟩
                        case measure => simp [intOf]; omega
                      · obtain rfl : m = 6 := by omega
                        have tm : decide (((6 : Nat) : Int) < 6) = false := by decide
                        obtain ⟨M, hM⟩ : ∃ M, M = L ++ [92] ++ List.replicate (6 - n) 48 := ⟨_, rfl⟩
                        have hMl : M.length ≤ 8 * j + 10 := by rw [hM]; simp; omega
                        have HPM : Hid (L ++ piece up true sp v = M ++ d.reverse ++ (if sp then [32] else [])) := Lib.hid (by rw [hM]; unfold piece digits; rw [H2.out, H1.out]; simp)
                        obtain ⟨v1', rfl⟩ : ∃ x : Value, x = u7 := ⟨_, rfl⟩
                        obtain ⟨w1', rfl⟩ : ∃ x : World, x = wr := ⟨_, rfl⟩
                        have HBM : Hid (Bf w.heap.size wx ve.ownBlock v1' M w1') := Lib.hid (by rw [hM]; exact HQ.out)
                        clear hM HQ
                        go_wp2_with fail
                        go_loopw [7, 19] (fun ve' z wq => ∃ m : Nat, m ≤ n ∧ z = .int .i64 ((m : Int) - 1) ∧ Hid (Bf w.heap.size wx ve.ownBlock ve' (M ++ (d.drop m).reverse) wq)) (fun _ z _ => (intOf z + 1).toNat)
                        case atStart => exact ⟨n, Nat.le_refl _, rfl, by rw [List.drop_of_length_le (by rw [H1.out]; exact Nat.le_refl _), List.reverse_nil, List.append_nil]; exact HBM⟩
                        case round =>
                          clear HBM
                          obtain ⟨m, hm, rfl, HQ⟩ := hrel
                          have hqz := HQ.out.gr.size
                          by_cases hm0 : 0 < m
                          · obtain ⟨m', rfl⟩ : ∃ m', m = m' + 1 := ⟨m - 1, by omega⟩
                            have em : (((m' + 1 : Nat) : Int) - 1) = (m' : Int) := by omega
                            have hmd : m' < d.length := by rw [H1.out]; omega
                            have hcd := (own_kept H3.out HE0.out HQ.out).cell m'
                            rw [H5.out m' hmd] at hcd
                            have HDR := Lib.hid (drop_rev hmd)
                            have hm0' : (0 : Int) ≤ (m' : Int) := by omega
                            have hm1' : (m' : Int) < 6 := by omega
                            have tm : decide ((0 : Int) ≤ (m' : Int)) = true := decide_eq_true (by omega)
                            have hml : (M ++ (d.drop (m' + 1)).reverse).length + 1 ≤ 140737488355328 := by
                              have := H1.out
                              rw [List.length_append, List.length_reverse, List.length_drop]; omega
                            rw [em]
                            generalize d[m'] = c at *
                            go_wp2_with (at_builtin; (refine push rfl _ _ rfl w.heap.size wx _ _ _ _ _ rfl HQ.out (by rfl) hml ?_))
                            intro v2 w2 hb2
                            have HQ2 : Hid (Bf w.heap.size wx ve.ownBlock v2 (M ++ (d.drop m').reverse) w2) := Lib.hid (by rw [HDR.out]; simpa only [List.append_assoc] using hb2)
                            clear hb2 HQ
                            go_wp2_with fail
                            go_roundw
                            case rel => first | exact ⟨m', by omega, rfl, HQ2⟩ | ((repeat apply Exists.intro); exact ⟨⟨m', by omega, rfl, HQ2⟩, rfl⟩)
                            case measure => first | (simp [intOf]; done) | (simp [intOf]; omega)
                          · obtain rfl : m = 0 := by omega
                            have HQ0 := HQ
                            rw [List.drop_zero] at HQ0
                            clear HQ
                            have tm : decide ((0 : Int) ≤ ((0 : Nat) : Int) - 1) = false := by decide
                            have tm' : decide ((0 : Int) ≤ -1) = false := by decide
                            have hml : (M ++ d.reverse).length + 1 ≤ 140737488355328 := by
                              have := H1.out
                              rw [List.length_append, List.length_reverse]; omega
                            have hvl2 : (V Z0 j).length ≤ 100000000 := by omega
                            cases sp
                            · obtain ⟨w5, rfl⟩ : ∃ w5 : World, w5 = wr := ⟨_, rfl⟩
                              have HQ5 : Hid (Bf w.heap.size wx ve.ownBlock u7 (L ++ piece up true false v) w5) := Lib.hid (by rw [HPM.out, show (if false = true then [32] else ([] : List Int)) = [] from rfl, List.append_nil]; exact HQ0.out)
                              obtain ⟨k5, a5⟩ := HQ5.out.apart HOW.out HAP.out
                              have K5 := Lib.hid k5
                              have A5 := Lib.hid a5
                              clear k5 a5 HQ0
                              go_wp2_with fail
                              refine (Ea.enc w.heap.size vw (V Z0 j) v w5 K5.out (Nat.le_trans HQ5.out.base HQ5.out.gr.size) hvl2 (by omega) (by omega) (by omega)).mono ?_
                              rintro e w6 ⟨v6, rfl, hb6⟩
                              have HF : Hid (Ms w (fun i => bits .and .u8 (fl n1 Z1 i) 1 != 0) (fun i => bits .and .u8 (fl n1 Z1 i) 2 != 0) (fun i => bits .and .u8 (fl n1 Z1 i) 4 != 0) Z0 (j + 1) u7 v6 w6) := by
                                obtain ⟨k6, a6⟩ := hb6.apart HQ5.out.own A5.out.symm
                                refine Lib.hid ⟨?_, ?_, a6.symm, ?_⟩
                                · rw [HP.out]; exact k6
                                · rw [V_succ, HVV.out]; exact hb6.own
                                · have b1 : Below w.heap.size w wx := HBE.out.grown HGR.out hbz (fun k hk => by cases hk)
                                  have b2 := b1.trans (HQ5.out.below (kept_none HE0.out HGR.out))
                                  exact b2.trans (hb6.below K5.out)
                              clear hb6 K5 A5 HQ5
                              go_wp2_with fail
                              go_roundw
                              case rel => exact ⟨j + 1, by omega, by go_num, HF⟩
                              case measure => simp [intOf]; omega
                            · go_wp2_with (at_builtin; (refine push rfl _ _ rfl w.heap.size wx _ _ _ _ _ rfl HQ0.out (by rfl) hml ?_))
                              intro v5 w5 hb5
                              have HQ5 : Hid (Bf w.heap.size wx ve.ownBlock v5 (L ++ piece up true true v) w5) := Lib.hid (by rw [HPM.out]; simpa using hb5)
                              obtain ⟨k5, a5⟩ := HQ5.out.apart HOW.out HAP.out
                              have K5 := Lib.hid k5
                              have A5 := Lib.hid a5
                              clear k5 a5 HQ0 hb5
                              go_wp2_with fail
                              refine (Ea.enc w.heap.size vw (V Z0 j) v w5 K5.out (Nat.le_trans HQ5.out.base HQ5.out.gr.size) hvl2 (by omega) (by omega) (by omega)).mono ?_
                              rintro e w6 ⟨v6, rfl, hb6⟩
                              have HF : Hid (Ms w (fun i => bits .and .u8 (fl n1 Z1 i) 1 != 0) (fun i => bits .and .u8 (fl n1 Z1 i) 2 != 0) (fun i => bits .and .u8 (fl n1 Z1 i) 4 != 0) Z0 (j + 1) v5 v6 w6) := by
                                obtain ⟨k6, a6⟩ := hb6.apart HQ5.out.own A5.out.symm
                                refine Lib.hid ⟨?_, ?_, a6.symm, ?_⟩
                                · rw [HP.out]; exact k6
                                · rw [V_succ, HVV.out]; exact hb6.own
                                · have b1 : Below w.heap.size w wx := HBE.out.grown HGR.out hbz (fun k hk => by cases hk)
                                  have b2 := b1.trans (HQ5.out.below (kept_none HE0.out HGR.out))
                                  exact b2.trans (hb6.below K5.out)
                              clear hb6 K5 A5 HQ5
                              go_wp2_with fail
                              go_roundw
                              case rel => exact ⟨j + 1, by omega, by go_num, HF⟩
                              case measure => simp [intOf]; omega
          · obtain rfl : j = k := by omega
            have zj : decide (j < j) = false := decide_eq_false (by omega)
            have hVd : ∀ i, i < j → 1 ≤ Z0 i ∧ Z0 i ≤ 1114111 ∧ (Z0 i < 55296 ∨ 57343 < Z0 i) := HV.out
            have hdec := decoded (fun i => bits .and .u8 (fl n1 Z1 i) 1 != 0) (fun i => bits .and .u8 (fl n1 Z1 i) 2 != 0) (fun i => bits .and .u8 (fl n1 Z1 i) 4 != 0) Z0 j hVd
            have hrg := E_range (fun i => bits .and .u8 (fl n1 Z1 i) 1 != 0) (fun i => bits .and .u8 (fl n1 Z1 i) 2 != 0) (fun i => bits .and .u8 (fl n1 Z1 i) 4 != 0) Z0 j
            have hel := E_len (fun i => bits .and .u8 (fl n1 Z1 i) 1 != 0) (fun i => bits .and .u8 (fl n1 Z1 i) 2 != 0) (fun i => bits .and .u8 (fl n1 Z1 i) 4 != 0) Z0 j (fun i hi => (hVd i hi).1)
            have hst := E_rest (fun i => bits .and .u8 (fl n1 Z1 i) 1 != 0) (fun i => bits .and .u8 (fl n1 Z1 i) 2 != 0) (fun i => bits .and .u8 (fl n1 Z1 i) 4 != 0) Z0 0 j
            have hoe := HM.out.oe
            have how := HM.out.ow
            have hbe := HM.out.be
            clear HM hVd
            rw [Nat.zero_add] at hst
            generalize E (fun i => bits .and .u8 (fl n1 Z1 i) 1 != 0) (fun i => bits .and .u8 (fl n1 Z1 i) 2 != 0) (fun i => bits .and .u8 (fl n1 Z1 i) 4 != 0) Z0 j = L at *
            generalize V Z0 j = VV at *
            have hcv := conv hoe
            have hsz : (strOfNums L).size ≤ 4194304 := by rw [strOfNums_size]; omega
            have hr1 : ∀ c ∈ L, 0 ≤ c ∧ c < 256 := fun c hc => (hrg c hc).1
            have h92 : 0 < (strOfNums L).size → bt (strOfNums L) 0 = 92 := by
              intro hp
              rw [strOfNums_size] at hp
              obtain ⟨rest, e, e0, e1⟩ := hst
              rw [show E (fun i => bits .and .u8 (fl n1 Z1 i) 1 != 0) (fun i => bits .and .u8 (fl n1 Z1 i) 2 != 0) (fun i => bits .and .u8 (fl n1 Z1 i) 4 != 0) Z0 0 = [] from rfl, List.nil_append] at e
              by_cases hj0 : j = 0
              · rw [e, e0 hj0] at hp; simp at hp
              · obtain ⟨t, ht⟩ := e1 (by omega)
                rw [bt_nums hr1 0 hp]
                simp [e, ht]
            have hnl : ∀ i, i + 1 < (strOfNums L).size → bt (strOfNums L) i = 92 → bt (strOfNums L) (i + 1) ≠ 10 ∧ bt (strOfNums L) (i + 1) ≠ 12 ∧ bt (strOfNums L) (i + 1) ≠ 13 := by
              intro i hi _
              rw [strOfNums_size] at hi
              rw [bt_nums hr1 (i + 1) hi]
              exact (hrg _ (List.getElem_mem hi)).2
            have HC := Lib.hid (fun W hT hw => wrap251 (strOfNums L) (fun _ _ => True) W (Dz.any (strOfNums L) hsz h92 hnl W hT hw))
            have HDEC := Lib.hid hdec
            have HOW := Lib.hid how
            have HBE := Lib.hid hbe
            have hbz := hbe.size
            clear hdec hrg hel hst hoe how hbe hr1 h92 hnl hsz
            generalize strOfNums L = sL at *
            go_wp2_with fail
            refine (HC.out _ (tabs_of HT.out hw3 HBE.out) (Nat.le_trans hw3 hbz)).mono ?_
            rintro e w5 ⟨l, rfl, hl, hb5⟩
            clear HC hcv
            have hs := of_nums (hl.trans HDEC.out)
            have hcv := conv (kept_none HOW.out ⟨hb5.os, hb5.tape, hb5.output, hb5.size, fun k hk _ => hb5.block k hk⟩)
            rw [hs]
            have HB5 := Lib.hid (HBE.out.trans (hb5.mono hbz))
            clear hl hs hb5 HOW HBE HDEC
            generalize strOfNums VV = sV at *
            go_wp2_with fail
            go_ret
            exact ⟨by first | rfl | simp, HB5.out⟩
  · rw [szOk_no ht]
    go_wp2_with fail
    go_ret
    exact ⟨rfl, by go_grown⟩

set_option maxRecDepth 100000 in
/-- What the walk gives, for every argument and every world that holds the tables. -/
theorem contract (H : Type) (enc : TypeId × Value → H) (W : World) (base : Nat) (args : Array Value) (ds gs : List (DataW H)) (before : List MemPlace)
    (hval : ∀ (j : Nat) t v, Tryd.f4.params[j]? = some t → args[j]? = some v → Value.okWide Tryd.prog W .any base t v)
    (hW : DataW.Whole enc Tryd.prog Tryd.f4.params.toList Rows.fnDecodeEscapesInvertsHexEscapingSpec.vars false W args.toList ds gs before) (hL : laidMetH Tryd.prog Rows.fnDecodeEscapesInvertsHexEscapingRow.laid W) :
    Calls Tryd.prog 4 args W fun e W' => ∃ v, e = .returned v ∧ Rows.fnDecodeEscapesInvertsHexEscapingSpec.post enc Tryd.prog Tryd.f4 false true false false W args v W' := by
  have hW' := hW
  obtain ⟨p, q, hA0, hV, rfl, hfz, hnd⟩ := hW
  have hA : DataW.TrodAll enc Tryd.prog W 0 (fun _ => true) true Tryd.f4.params.toList args.toList ds p := hA0
  rw [Tryd.params4] at hA hval
  obtain ⟨v0, vs0, d0, ds0, p0, q0, hargs0, rfl, rfl, h0, r0⟩ := trodAll_cons hA
  obtain ⟨v1, vs1, d1, ds1, p1, q1, hargs1, rfl, rfl, h1, r1⟩ := trodAll_cons r0
  obtain ⟨rfl, rfl, rfl⟩ := trodAll_nil r1
  obtain rfl : args = #[v0, v1] := by cases args; simp_all
  obtain ⟨A0, n0, c0, Z0, rfl, hn0, hc0, hz0, hA0, hZ0⟩ := Mem.open_ints' Tryd.underlying68 Tryd.underlying21 (by kernel_rfl) (hval 0 68 v0 rfl rfl) h0
  obtain ⟨A1, n1, c1, Z1, rfl, hn1, hc1, hz1, hA1, hZ1⟩ := Mem.open_ints' Tryd.underlying66 Tryd.underlying5 (by kernel_rfl) (hval 1 66 v1 rfl rfl) h1
  clear hA0
  refine (walk A0 n0 c0 Z0 A1 n1 c1 Z1 W (tabs hL) hA0 hc0 hn0 hz0 hZ0 hA1 hc1 hn1 hz1 hZ1).mono fun e W' ⟨he, hg⟩ => ?_
  subst he
  exact ⟨_, rfl, law_post laid readEach rfl rfl Tryd.underlying4 ⟨rfl, rfl, rfl⟩ hW' hg⟩

def firstBlock : Obj → Obj
  | .cells _ t frozen => .cells (Pinned.utf8FirstZ.map fun (z : Nat) => Value.int .u8 z).toArray t frozen
  | o => o
def acceptBlock : Obj → Obj
  | .cells _ t frozen => .cells ((List.range 16).flatMap fun i => [Value.int .u8 (Lib.accLo i : Nat), Value.int .u8 (Lib.accHi i : Nat)]).toArray t frozen
  | o => o
/-- A world for the witness: the settled one, the two tables holding what their initialisers lay. -/
noncomputable def laidWorld (os : Os) : World :=
  { World.holding Tryd.prog os ⟨#[], #[], []⟩ with heap := ((World.holding Tryd.prog os ⟨#[], #[], []⟩).heap.modify 1 firstBlock).modify 2 acceptBlock }
theorem laid_met (os : Os) : laidMet Tryd.prog Rows.fnDecodeEscapesInvertsHexEscapingRow.laid ((laidWorld os).forCall (fun _ _ => 0) ⟨#[], #[.slice none 0 0, .slice none 0 0], []⟩).memory :=
  laidMet_of_run' 8 (by kernel_rfl) (by kernel_rfl)
theorem reads (os : Os) {H : Type} (enc : TypeId × Value → H) : ∃ places, DataW.whole enc Tryd.prog ((laidWorld os).forCall (fun _ _ => 0) ⟨#[], #[.slice none 0 0, .slice none 0 0], []⟩).memory Tryd.f4.params.toList Rows.fnDecodeEscapesInvertsHexEscapingSpec.vars false (#[.slice none 0 0, .slice none 0 0] : Array Value).toList 8 = some ([.nil, .nil], [], places) :=
  ⟨[], by kernel_rfl⟩

set_option maxRecDepth 100000 in
theorem lifted (os : Os) (started : os.Started) (H : Type) (enc : TypeId × Value → H) (F : Stop.Interp) :
    ReturnsInHanded {} Tryd.checked os 4 .any ((OpenSpec.ofChange Rows.fnDecodeEscapesInvertsHexEscapingSpec).preRow enc Tryd.prog Tryd.f4 Rows.fnDecodeEscapesInvertsHexEscapingRow.domain false Rows.fnDecodeEscapesInvertsHexEscapingRow.laid) (((OpenSpec.ofChange Rows.fnDecodeEscapesInvertsHexEscapingSpec).at F).post enc Tryd.prog Tryd.f4 false true false false) := by
  obtain ⟨places, hx⟩ := reads os enc
  refine returnsInHanded_of_row (C := Tryd.checked) (s := OpenSpec.ofChange Rows.fnDecodeEscapesInvertsHexEscapingSpec) own started (by kernel_rfl) Tryd.func4
    (witness_row_at (enc := enc) (C := Tryd.checked) false (laidWorld os) #[.slice none 0 0, .slice none 0 0] rfl (by kernel_rfl) (by kernel_rfl) (by kernel_rfl)
      (OpenSpec.preRow_of_cond 8 hx (by kernel_rfl) (fun k hk => by cases hk) (by kernel_rfl) (laid_met os))) ?_
  intro W base args ds gs before hval hW _ _ _ hL _ _
  exact contract H enc W base args ds gs before hval hW hL

theorem said : Rows.FnDecodeEscapesInvertsHexEscapingSaid :=
  OpenClaim.holds_of_cond 4 Tryd.f4 rfl rfl rfl rfl rfl rfl rfl ⟨rfl, rfl, rfl, rfl, rfl⟩ rfl rfl rfl rfl rfl (by kernel_rfl) Tryd.func4 (by kernel_rfl)
    (of_decide_eq_true (by kernel_rfl)) (by unfold Func.isWrapper; first | (rw [if_pos (by decide +kernel)]; kernel_rfl) | (rw [if_neg (by decide +kernel)]; exact ⟨rfl, rfl⟩))
    (fun os started H enc _ F => by rw [OpenClaim.pre_eq_preRow]; exact lifted os started H enc F)

/-- No parameter wants a stand-in; the program's own looks are off. -/
theorem plain (f : FuncId) (fn : Func) (hf : Tryd.pinned.checked.prog.funcNamed Rows.fnDecodeEscapesInvertsHexEscapingRow.func = some f) (hfn : Tryd.pinned.checked.prog.funcs[f]? = some fn) :
    false = Tryd.pinned.checked.prog.looks [] ∧ ∀ (j : Nat) t, fn.params[j]? = some t → Tryd.pinned.checked.prog.wantsStandIn t = false := by
  obtain rfl : f = 4 := Option.some.inj ((show Tryd.prog.funcNamed Rows.fnDecodeEscapesInvertsHexEscapingRow.func = some 4 by kernel_rfl).symm.trans hf) |>.symm
  obtain rfl : fn = Tryd.f4 := (Option.some.inj (Tryd.func4.symm.trans hfn)).symm
  refine ⟨by kernel_rfl, fun j t ht => ?_⟩
  rw [Tryd.params4] at ht
  have hm : t ∈ [68, 66] := by simpa using Array.mem_of_getElem? ht
  have hall : ([68, 66] : List TypeId).all (fun t => !Tryd.prog.wantsStandIn t) = true := by kernel_rfl
  have hh : Tryd.prog.wantsStandIn t = false := by simpa using List.all_eq_true.1 hall t hm
  exact hh

/-- The card. -/
theorem card : Rows.FnDecodeEscapesInvertsHexEscapingCardSaid :=
  Claim7.holds_tied_plain_at .later [] _ _ _ _ said (fun _ h => by cases h) (by kernel_rfl) (fun _ h => by cases h) fnDecodeEscapesInvertsHexEscaping_row_tie rfl ⟨rfl, rfl⟩ (by kernel_rfl) rfl plain (by kernel_rfl)
#print axioms card
end Go.Proofs.YtcljenkgbbbfpaaDoor.fnDecodeEscapesInvertsHexEscaping
