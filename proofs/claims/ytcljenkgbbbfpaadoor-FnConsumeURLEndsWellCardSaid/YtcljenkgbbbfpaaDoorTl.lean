/-
  Proved: computeLineAndColumn counts what it is asked and changes no old memory. Conditions: those that each theorem names as its hypotheses, and no
  others.
-/
import Derived.Test.YtcljenkgbbbfpaaDoorTk
namespace Go.Proofs.YtcljenkgbbbfpaaDoor.Tl
open Go.RowKit Go.PlainAid Str Mem Ho De Lu Lg Dw Tk
set_option linter.unusedVariables false
set_option linter.unusedSimpArgs false
theorem wrapP {x y : Int} (h : x = y) (h0 : -2147483648 ≤ y) (h1 : y ≤ 2147483647) : IntKind.i64.wrap x = y := by
  subst h
  simp [IntKind.wrap, IntKind.bits, IntKind.signed]
  omega
def Comp (g : Nat) (cs : Array Value) (s : ByteArray) (off : Nat) (w : World) (e : Ending) (w' : World) : Prop :=
  ∃ (cs' : Array Value) (o ln ls le : Nat), e = .returned (.tuple #[.int .i64 ln, .int .i64 ((off : Int) - ls), .int .i64 ls, .int .i64 le]) ∧ Tk g cs s w w' cs' o ln ls le true ∧ off ≤ o ∧ ∀ p, off ≤ p → p < o → 128 ≤ bt s p
set_option maxRecDepth 100000 in
set_option maxHeartbeats 4000000 in
theorem comp96 (g : Nat) (cs : Array Value) (s : ByteArray) (off o ln ls le : Nat) (he : Bool) (w : World) (h : Tk g cs s w w cs o ln ls le he) (ho : o ≤ off) (hoff : off ≤ s.size) (hs : s.size ≤ 1048576) (hT : Lib.Utf8Tabs 1 2 w) (hg : 3 ≤ g) (hw : 3 ≤ w.heap.size) :
    Calls Tryd.prog 96 #[.pointer (some ⟨g, 22, none⟩), .int .i64 off] w (Comp g cs s off w) := by
  have HT := Lib.hid hT
  have HH := Lib.hid h
  clear hT h
  go_enter Tryd.func96, Tryd.ntmps96
  go_wp2_with fail
  refine (scan110 g cs s off o ln ls le he w HH.out ho hoff hs HT.out hg hw).mono ?_
  rintro e w1 ⟨rfl, cs1, o1, ln1, ls1, le1, he1, hk, ho1, hc1⟩
  have HK := Lib.hid hk
  have HC := Lib.hid hc1
  have o1s := hk.ho
  have hls1 := hk.hls
  have hln1 := hk.hln
  have c29 : w1.cell? ⟨g, 29, none⟩ = some (.bool true) := (hk.tr.own.cell 29).trans hk.tr.c29
  have c30 : w1.cell? ⟨g, 30, none⟩ = some (.bool he1) := (hk.tr.own.cell 30).trans hk.tr.c30
  have c22 : w1.cell? ⟨g, 22, none⟩ = some (.string s) := (hk.tr.own.cell 22).trans hk.tr.c22
  have c25 : w1.cell? ⟨g, 25, none⟩ = some (.int .i32 o1) := (hk.tr.own.cell 25).trans hk.tr.c25
  have fin : ∀ (w2 : World) (cs2 : Array Value) (l2 : Nat), Tk g cs s w w2 cs2 o1 ln1 ls1 l2 true → Hid (Tk g cs s w w2 cs2 o1 ln1 ls1 l2 true ∧ w2.cell? ⟨g, 26, none⟩ = some (.int .i32 ln1) ∧ w2.cell? ⟨g, 27, none⟩ = some (.int .i32 ls1) ∧ w2.cell? ⟨g, 28, none⟩ = some (.int .i32 l2)) :=
    fun w2 cs2 l2 h => Lib.hid ⟨h, (h.tr.own.cell 26).trans h.tr.c26, (h.tr.own.cell 27).trans h.tr.c27, (h.tr.own.cell 28).trans h.tr.c28⟩
  clear hk hc1 HH
  cases he1
  focus
    go_wp2_with fail
    clear c22 c25 c29
    have fz := HK.out.tr.own.frozen
    go_loopw [13] (fun i wr => ∃ (j : Nat), i = .int .i32 j ∧ o1 ≤ j ∧ j ≤ s.size ∧ Hid (Tk g cs s w wr cs1 o1 ln1 ls1 le1 false)) (fun i _ => s.size - (intOf i).toNat)
    case atStart => exact ⟨o1, rfl, Nat.le_refl _, o1s, HK⟩
    case round =>
      clear HK c30 fz
      obtain ⟨j, rfl, hj1, hj2, HK⟩ := hrel
      obtain ⟨wo, rfl⟩ : ∃ wo : World, wo = wr := ⟨_, rfl⟩
      have c30 : wo.cell? ⟨g, 30, none⟩ = some (.bool false) := (HK.out.tr.own.cell 30).trans HK.out.tr.c30
      have c28 : wo.cell? ⟨g, 28, none⟩ = some (.int .i32 le1) := (HK.out.tr.own.cell 28).trans HK.out.tr.c28
      have fz := HK.out.tr.own.frozen
      by_cases hlt : j < s.size
      · have i0 : (0 : Int) ≤ (j : Int) := by omega
        have i1 : (j : Int) ≤ (s.size : Int) := by omega
        have tl : decide ((j : Int) < (s.size : Int)) = true := decide_eq_true (by omega)
        go_wp2_with fail
        refine (dec s j _ rfl _ (tabs_gr HT.out hg hw HK.out.gr)).mono ?_
        rintro e w2 ⟨rfl, hb2⟩
        have HK2 : Hid (Tk g cs s w w2 cs1 o1 ln1 ls1 le1 false) := Lib.hid ⟨HK.out.tr.below hb2, HK.out.same, grown_trans HK.out.gr (grown_of_below hb2 (some g)), HK.out.ho, HK.out.hln, HK.out.hls, HK.out.hle⟩
        have hK1 := rw_pos (s := s) (i := j) (by omega)
        have hK2 := (rd_bounds s j (by omega)).2.2
        generalize rc s j = R at *
        generalize rw' s j = K at *
        clear hb2 HK c30 c28 fz tl
        have c30 : w2.cell? ⟨g, 30, none⟩ = some (.bool false) := (HK2.out.tr.own.cell 30).trans HK2.out.tr.c30
        have c28 : w2.cell? ⟨g, 28, none⟩ = some (.int .i32 le1) := (HK2.out.tr.own.cell 28).trans HK2.out.tr.c28
        have fz := HK2.out.tr.own.frozen
        by_cases hb : R = 10 ∨ R = 13 ∨ R = 8232 ∨ R = 8233
        · rcases hb with rfl | rfl | rfl | rfl
          all_goals
            go_upto_region 21 with fail
            have HX := fin ((w2.setCell ⟨g, 30, none⟩ (.bool true)).setCell ⟨g, 28, none⟩ (.int .i32 j)) _ j ⟨(HK2.out.tr.set30 true).set28 j, (HK2.out.same.set 30 (by omega) _).set 28 (by omega) _, grown_cell (grown_cell HK2.out.gr _ _) _ _, HK2.out.ho, HK2.out.hln, HK2.out.hls, fun _ => ⟨by omega, hj2⟩⟩
            clear fin c28 c30 fz HK2
            generalize World.setCell _ _ _ = wx at HX ⊢
            obtain ⟨-, x26, x27, x28⟩ := HX.out
            have v1 : IntKind.i64.wrap (ln1 : Int) = ln1 := wrapP rfl (by omega) (by omega)
            have v2 : IntKind.i64.wrap (ls1 : Int) = ls1 := wrapP rfl (by omega) (by omega)
            have v3 : IntKind.i64.wrap (j : Int) = j := wrapP rfl (by omega) (by omega)
            have v4 : IntKind.i64.wrap ((off : Int) - ls1) = (off : Int) - ls1 := wrapP rfl (by omega) (by omega)
            go_quiet (fail)
            go_wp2
            refine bodyPost_ret (v := .tuple #[.int .i64 ln1, .int .i64 ((off : Int) - ls1), .int .i64 ls1, .int .i64 j]) (by simp [results, Tryd.results96, go_sem, v1, v2, v3, v4]) rfl ⟨_, o1, ln1, ls1, j, rfl, ⟨HX.out.1.tr.drewN _, HX.out.1.same, grown_trans HX.out.1.gr (grown_of_below (below_drewN (Below.refl _ _) _) _), HX.out.1.ho, HX.out.1.hln, HX.out.1.hls, HX.out.1.hle⟩, ho1, HC.out⟩
        · have x0 : (R == 10) = false := beq_eq_false_iff_ne.2 fun e => hb (.inl e)
          have x1 : (R == 13) = false := beq_eq_false_iff_ne.2 fun e => hb (.inr (.inl e))
          have x2 : (R == 8232) = false := beq_eq_false_iff_ne.2 fun e => hb (.inr (.inr (.inl e)))
          have x3 : (R == 8233) = false := beq_eq_false_iff_ne.2 fun e => hb (.inr (.inr (.inr e)))
          clear hb
          go_wp2_with fail
          go_roundw
          case rel => exact ⟨j + K, by go_num, by omega, by omega, HK2⟩
          case measure => simp [intOf]; omega
      · have tl : decide ((j : Int) < (s.size : Int)) = false := decide_eq_false (by omega)
        go_upto_region 21 with fail
        have HX := fin ((wo.setCell ⟨g, 30, none⟩ (.bool true)).setCell ⟨g, 28, none⟩ (.int .i32 j)) _ j ⟨(HK.out.tr.set30 true).set28 j, (HK.out.same.set 30 (by omega) _).set 28 (by omega) _, grown_cell (grown_cell HK.out.gr _ _) _ _, HK.out.ho, HK.out.hln, HK.out.hls, fun _ => ⟨by omega, hj2⟩⟩
        clear fin c28 c30 fz HK
        generalize World.setCell _ _ _ = wx at HX ⊢
        obtain ⟨-, x26, x27, x28⟩ := HX.out
        have v1 : IntKind.i64.wrap (ln1 : Int) = ln1 := wrapP rfl (by omega) (by omega)
        have v2 : IntKind.i64.wrap (ls1 : Int) = ls1 := wrapP rfl (by omega) (by omega)
        have v3 : IntKind.i64.wrap (j : Int) = j := wrapP rfl (by omega) (by omega)
        have v4 : IntKind.i64.wrap ((off : Int) - ls1) = (off : Int) - ls1 := wrapP rfl (by omega) (by omega)
        go_quiet (fail)
        go_wp2
        refine bodyPost_ret (v := .tuple #[.int .i64 ln1, .int .i64 ((off : Int) - ls1), .int .i64 ls1, .int .i64 j]) (by simp [results, Tryd.results96, go_sem, v1, v2, v3, v4]) rfl ⟨_, o1, ln1, ls1, j, rfl, ⟨HX.out.1.tr.drewN _, HX.out.1.same, grown_trans HX.out.1.gr (grown_of_below (below_drewN (Below.refl _ _) _) _), HX.out.1.ho, HX.out.1.hln, HX.out.1.hls, HX.out.1.hle⟩, ho1, HC.out⟩
  focus
    have hle1 := (HK.out.hle rfl).2
    go_upto_region 21 with fail
    have HX := fin w1 cs1 le1 HK.out
    clear fin c22 c25 c29 c30 HK
    obtain ⟨-, x26, x27, x28⟩ := HX.out
    have v1 : IntKind.i64.wrap (ln1 : Int) = ln1 := wrapP rfl (by omega) (by omega)
    have v2 : IntKind.i64.wrap (ls1 : Int) = ls1 := wrapP rfl (by omega) (by omega)
    have v3 : IntKind.i64.wrap (le1 : Int) = le1 := wrapP rfl (by omega) (by omega)
    have v4 : IntKind.i64.wrap ((off : Int) - ls1) = (off : Int) - ls1 := wrapP rfl (by omega) (by omega)
    go_quiet (fail)
    go_wp2
    refine bodyPost_ret (v := .tuple #[.int .i64 ln1, .int .i64 ((off : Int) - ls1), .int .i64 ls1, .int .i64 le1]) (by simp [results, Tryd.results96, go_sem, v1, v2, v3, v4]) rfl ⟨_, o1, ln1, ls1, le1, rfl, ⟨HX.out.1.tr.drewN _, HX.out.1.same, grown_trans HX.out.1.gr (grown_of_below (below_drewN (Below.refl _ _) _) _), HX.out.1.ho, HX.out.1.hln, HX.out.1.hls, HX.out.1.hle⟩, ho1, HC.out⟩
end Go.Proofs.YtcljenkgbbbfpaaDoor.Tl
