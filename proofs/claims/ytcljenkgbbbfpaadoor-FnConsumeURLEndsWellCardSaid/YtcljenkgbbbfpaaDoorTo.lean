/-
  Proved: what Range.End, isNewline, isNonPrintable and isValidEscape return, and the cells of the lexer as the tracker sees them. Conditions: those
  that each theorem names as its hypotheses, and no others.
-/
import Derived.Test.YtcljenkgbbbfpaaDoorTn
import Derived.Test.YtcljenkgbbbfpaaDoorCu
namespace Go.Proofs.YtcljenkgbbbfpaaDoor.To
open Go.RowKit Go.PlainAid Str Mem Ho De Lu Lg Dw Tk Tl Tm Tn Cu Rws
set_option linter.unusedVariables false
set_option linter.unusedSimpArgs false
variable {B : Nat → Option Value}
set_option maxRecDepth 100000 in
theorem end44 (a n : Int) (h0 : 0 ≤ a) (h1 : a ≤ 100000000) (h2 : 0 ≤ n) (h3 : n ≤ 100000000) (w : World) : Calls Tryd.prog 44 #[.agg #[.int .i32 a, .int .i32 n]] w fun e w' => e = .returned (.int .i32 (a + n)) ∧ Below w.heap.size w w' := by
  go_enter Tryd.func44, Tryd.ntmps44
  go_wp2
  go_ret
  exact ⟨rfl, by go_grown⟩
theorem nl65 (c : Int) (w : World) : Calls Tryd.prog 65 #[.int .i32 c] w fun e w' => (∃ b, e = .returned (.bool b)) ∧ w = w' := by
  cases e1 : (c == 10) <;> cases e2 : (c == 13) <;> cases e3 : (c == 12)
  all_goals
    go_enter Tryd.func65, Tryd.ntmps65
    go_wp2
    go_ret
    exact ⟨⟨_, rfl⟩, rfl⟩
theorem np63 (c : Int) (w : World) : Calls Tryd.prog 63 #[.int .i32 c] w fun e w' => (∃ b, e = .returned (.bool b)) ∧ w = w' := by
  cases e1 : decide (c ≤ 8) <;> cases e2 : (c == 11) <;> cases e3 : decide (14 ≤ c) <;> cases e4 : decide (c ≤ 31) <;> cases e5 : (c == 127)
  all_goals
    go_enter Tryd.func63, Tryd.ntmps63
    go_wp2
    go_ret
    exact ⟨⟨_, rfl⟩, rfl⟩
set_option maxRecDepth 100000 in
set_option maxHeartbeats 2000000 in
theorem valid61 (g : Nat) (s : ByteArray) (ts : Int) (q : Nat) (w : World) (h : Ax B g s ts q w) (hT : Lib.Utf8Tabs 1 2 w) (hw2 : 3 ≤ w.heap.size) (hs : s.size ≤ 1048576) :
    Calls Tryd.prog 61 #[.pointer (some ⟨g, 0, none⟩)] w fun e w' => (∃ b, e = .returned (.bool b)) ∧ Below w.heap.size w w' := by
  have hr := cp_rng s q h.hq
  have c35 := h.cell
  have hg := h.lt
  obtain ⟨_, nl, cs, hl, _⟩ := h
  have c10 := (hl.own.cell 10).trans hl.c10
  have c33 := (hl.own.cell 33).trans hl.c33
  clear hl
  generalize cpOf s q = C at *
  generalize q + wdOf s q = k at *
  have hi0 : (0 : Int) ≤ (k : Int) := by omega
  have hi1 : (k : Int) ≤ (s.size : Int) := by omega
  cases e1 : (C != 92)
  · go_enter Tryd.func61, Tryd.ntmps61
    go_wp2_with fail
    clear c35
    go_region_held3 (fun W => W.cell? ⟨g, 10, none⟩ = some (.string s) ∧ W.cell? ⟨g, 33, none⟩ = some (.int .i64 (k : Int)) ∧ Below w.heap.size w W)
      (first | with_reducible exact keepL hg hb1 (by assumption) | exact ⟨c10, c33, below_drew (Below.refl _ _)⟩)
      (first | (go_at_call 52; refine (Tryd.utf8_DecodeRuneInString _ _ (tabs_below hT hw2 (And.right (And.right (by assumption))))).mono ?_; rintro e w1 ⟨rfl, hb1⟩))
    have hbw : Below w.heap.size w w1 := (below_drew (Below.refl _ _)).trans (hb1.mono (Nat.le_refl _))
    have HB := Lib.hid hbw
    clear hbw hb1
    go_wp2_with fail
    refine (nl65 _ w1).mono ?_
    rintro e w' ⟨⟨b, rfl⟩, rfl⟩
    go_wp2_with fail
    go_ret
    exact ⟨⟨_, rfl⟩, HB.out⟩
  · go_enter Tryd.func61, Tryd.ntmps61
    go_wp2_with fail
    go_ret
    exact ⟨⟨_, rfl⟩, Below.refl _ _⟩
/-- What the lexer's other cells hold: the log's, and the tracker's at its start. -/
structure BB (B : Nat → Option Value) (s : ByteArray) (k mu hm ms : Nat) : Prop where
  b1 : B 1 = some (.func (.func 78) #[] #[.pointer (some ⟨k, 0, none⟩), .pointer (some ⟨mu, 0, none⟩), .pointer (some ⟨hm, 0, none⟩), .pointer (some ⟨ms, 0, none⟩)])
  b2 : B 2 = some (.func (.func 81) #[] #[.pointer (some ⟨mu, 0, none⟩), .pointer (some ⟨hm, 0, none⟩)])
  b3 : B 3 = some (.func (.func 82) #[] #[.pointer (some ⟨mu, 0, none⟩), .pointer (some ⟨ms, 0, none⟩)])
  b4 : B 4 = some (.func (.func 83) #[] #[.pointer (some ⟨mu, 0, none⟩), .pointer (some ⟨ms, 0, none⟩)])
  b5 : B 5 = some (.int .i8 3)
  b6 : B 6 = some (.map none)
  b22 : B 22 = some (.string s)
  b23 : ∃ a, B 23 = some (.string a)
  b24 : ∃ a, B 24 = some (.string a)
  b25 : B 25 = some (.int .i32 0)
  b26 : B 26 = some (.int .i32 0)
  b27 : B 27 = some (.int .i32 0)
  b28 : B 28 = some (.int .i32 0)
  b29 : B 29 = some (.bool true)
  b30 : B 30 = some (.bool false)
  b31 : B 31 = some (.bool true)
/-- The lexer's cells at a place, for the tracker. -/
theorem Ax.open {g : Nat} {s : ByteArray} {ts : Int} {q : Nat} {w : World} {k mu hm ms : Nat} (h : Ax B g s ts q w) (b : BB B s k mu hm ms) :
    ∃ cs, Tk.Tk g cs s w w cs 0 0 0 0 false ∧ (∀ i, i ≠ 32 → i ≠ 33 → i ≠ 35 → i ≠ 37 → cs[i]? = B i) ∧
      ∀ w' cs', Own w' g 64 cs' → Same cs cs' → cs'.size = 41 → Ax (fun i => cs'[i]?) g s ts q w' := by
  obtain ⟨hq, nl, cs, hl, hn⟩ := h
  have r := hl.rest
  refine ⟨cs, ⟨⟨hl.own, hl.sz, (r 22 (by omega) (by omega) (by omega) (by omega)).trans b.b22, b.b23.imp fun _ e => (r 23 (by omega) (by omega) (by omega) (by omega)).trans e, b.b24.imp fun _ e => (r 24 (by omega) (by omega) (by omega) (by omega)).trans e,
    (r 25 (by omega) (by omega) (by omega) (by omega)).trans b.b25, (r 26 (by omega) (by omega) (by omega) (by omega)).trans b.b26, (r 27 (by omega) (by omega) (by omega) (by omega)).trans b.b27, (r 28 (by omega) (by omega) (by omega) (by omega)).trans b.b28, (r 29 (by omega) (by omega) (by omega) (by omega)).trans b.b29,
    (r 30 (by omega) (by omega) (by omega) (by omega)).trans b.b30, (r 31 (by omega) (by omega) (by omega) (by omega)).trans b.b31⟩, Same.refl _, ⟨rfl, rfl, rfl, Nat.le_refl _, fun _ _ _ => rfl⟩, Nat.zero_le _, Nat.le_refl _, Nat.le_refl _, fun e => by cases e⟩, r, fun w' cs' ho hs hz => ?_⟩
  exact ⟨hq, nl, cs', ⟨ho, hz, (hs 10 (by omega)).trans hl.c10, (hs 32 (by omega)).trans hl.c32, (hs 33 (by omega)).trans hl.c33, (hs 35 (by omega)).trans hl.c35, (hs 36 (by omega)).trans hl.c36, (hs 37 (by omega)).trans hl.c37, fun i _ _ _ _ => rfl⟩, hn⟩
theorem Fr.gr {g : Nat} {w w' : World} (h : Fr g w w') : w.grownBy w' (some g) := ⟨h.os, h.tape, h.output, h.size, fun k hk he => h.block k hk (fun e => he (by rw [e]))⟩
theorem Ax.log {g : Nat} {s : ByteArray} {ts : Int} {q : Nat} {w w' : World} {lo k mu hm ms n : Nat} {v : Value} {xs : List Value} (h : Ax B g s ts q w) (hL : LogSt w lo k mu hm ms v n xs) (hg : w.grownBy w' (some g)) : LogSt w' lo k mu hm ms v n xs := by
  obtain ⟨_, nl, cs, hl, _⟩ := h
  exact LogSt.grown hL hg hl.own
theorem gr_below {lo g : Nat} {w0 w w' : World} (h : Below lo w0 w) (hw : lo ≤ w0.heap.size) (hg : w.grownBy w' (some g)) (hlo : lo ≤ g) : Below lo w0 w' :=
  h.trans ⟨hg.os, hg.tape, hg.output, hg.size, fun p hp => hg.block p (Nat.lt_of_lt_of_le hp (Nat.le_trans hw h.size)) (fun e => by injection e with e; omega)⟩
end Go.Proofs.YtcljenkgbbbfpaaDoor.To
