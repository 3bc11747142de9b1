/-
  Proved: next at each of the fixed texts reads the whole text as one token of its kind. Conditions: those that each theorem names as its hypotheses,
  and no others.
-/
import Derived.Test.YtcljenkgbbbfpaaDoorCu
import Derived.Deep.DeepCutAuto
import Derived.BigQuiet
namespace Go.Proofs.YtcljenkgbbbfpaaDoor.Nx
open Go.RowKit Go.PlainAid Str Mem De Lu Dw Cu Rws
set_option linter.unusedVariables false
set_option linter.unusedSimpArgs false
/-- Tokenize's lexer over s: its newlines, its place, the code point, the token's start, length and kind. -/
def lxC (s : ByteArray) (nl cur cp ts tl kd : Int) : Array Value := #[.bool false, .nilFunc, .nilFunc, .nilFunc, .nilFunc, .int .i8 0, .map none, .string ⟨#[]⟩, .string ⟨#[]⟩, .string ⟨#[]⟩, .string s, .string ⟨#[]⟩, .string ⟨#[]⟩, .string ⟨#[]⟩, .string ⟨#[]⟩, .int .u8 0, .int .u32 0, .slice none 0 0, .slice none 0 0, .string ⟨#[]⟩, .int .i32 0, .int .i32 0, .string s, .string ⟨#[]⟩, .string ⟨#[]⟩, .int .i32 0, .int .i32 0, .int .i32 0, .int .i32 0, .bool true, .bool false, .bool true, .int .i64 nl, .int .i64 cur, .int .i32 0, .int .i32 cp, .int .i32 ts, .int .i32 tl, .int .u16 0, .int .u8 kd, .int .u8 0]
theorem lx_sets (s : ByteArray) (nl cur cp ts tl kd nl' cur' cp' tl' : Int) : ((((lxC s nl cur cp ts tl kd).setIfInBounds 32 (.int .i64 nl')).setIfInBounds 33 (.int .i64 cur')).setIfInBounds 35 (.int .i32 cp')).setIfInBounds 37 (.int .i32 tl') = lxC s nl' cur' cp' ts tl' kd := by
  simp only [lxC, List.setIfInBounds_toArray, List.set_cons_zero, List.set_cons_succ]
def Stp (g : Nat) (s : ByteArray) (nl : Int) (k : Nat) (ts kd : Int) (w : World) (e : Ending) (w' : World) : Prop :=
  e = .returned (.tuple #[]) ∧ ∃ nl', nl ≤ nl' ∧ nl' ≤ nl + 1 ∧ Own w' g 64 (lxC s nl' ((k + wdOf s k : Nat) : Int) (cpOf s k) ts ((k : Int) - ts) kd) ∧ Fr g w w'
set_option maxRecDepth 100000 in
theorem stepC (g : Nat) (s : ByteArray) (nl : Int) (k : Nat) (cp ts tl kd : Int) (w : World) (h : Own w g 64 (lxC s nl k cp ts tl kd)) (hk : k ≤ s.size) (hT : Lib.Utf8Tabs 1 2 w) (hw : 3 ≤ w.heap.size) (hs : s.size ≤ 1048576) (n0 : 0 ≤ nl) (n1 : nl ≤ 1000) (t0 : 0 ≤ ts) (t1 : ts ≤ 1000) :
    Calls Tryd.prog 41 #[.pointer (some ⟨g, 0, none⟩)] w (Stp g s nl k ts kd w) := by
  refine (step25 (B := fun i : Nat => (lxC s nl k cp ts tl kd)[i]?) g s k nl cp ts tl _ w ⟨h, rfl, rfl, rfl, rfl, rfl, rfl, rfl, fun i _ _ _ _ => rfl⟩ hT hw hs hk n0 (by omega) t0 (by omega)).mono ?_
  rintro e w' ⟨cs', nl', rfl, hl, m0, m1, m2, hf⟩
  refine ⟨rfl, nl', m0, m1, ?_, hf⟩
  have e : cs' = lxC s nl' ((k + wdOf s k : Nat) : Int) (cpOf s k) ts ((k : Int) - ts) kd := by
    refine Array.ext_getElem? fun i => ?_
    by_cases h32 : i = 32
    · subst h32; exact hl.c32
    by_cases h33 : i = 33
    · subst h33; exact hl.c33
    by_cases h35 : i = 35
    · subst h35; exact hl.c35
    by_cases h37 : i = 37
    · subst h37; exact hl.c37
    rw [hl.rest i h32 h33 h35 h37, ← lx_sets s nl k cp ts tl kd nl' _ (cpOf s k) _, at_set _ _ _ _ (Ne.symm h37), at_set _ _ _ _ (Ne.symm h35), at_set _ _ _ _ (Ne.symm h33), at_set _ _ _ _ (Ne.symm h32)]
  rw [← e]
  exact hl.own
/-- The token was read: the lexer stands at the end. -/
def Nxt (g : Nat) (s : ByteArray) (ts kd : Int) (w : World) (e : Ending) (w' : World) : Prop :=
  e = .returned (.tuple #[]) ∧ ∃ nl, 0 ≤ nl ∧ nl ≤ 9 ∧ Own w' g 64 (lxC s nl (s.size : Int) (-1) ts ((s.size : Int) - ts) kd) ∧ Fr g w w'
theorem end44 (a n : Int) (h0 : 0 ≤ a) (h1 : a ≤ 100000000) (h2 : 0 ≤ n) (h3 : n ≤ 100000000) (w : World) : Calls Tryd.prog 44 #[.agg #[.int .i32 a, .int .i32 n]] w fun e w' => e = .returned (.int .i32 (a + n)) ∧ Below w.heap.size w w' := by
  go_enter Tryd.func44, Tryd.ntmps44
  go_wp2
  go_ret
  exact ⟨rfl, by go_grown⟩
structure Cell (g : Nat) (s : ByteArray) (nl cur cp ts tl kd : Int) (w : World) : Prop where
  c10 : w.cell? ⟨g, 10, none⟩ = some (.string s)
  c33 : w.cell? ⟨g, 33, none⟩ = some (.int .i64 cur)
  c35 : w.cell? ⟨g, 35, none⟩ = some (.int .i32 cp)
  c36 : w.cell? ⟨g, 36, none⟩ = some (.int .i32 ts)
  c37 : w.cell? ⟨g, 37, none⟩ = some (.int .i32 tl)
  c38 : w.cell? ⟨g, 38, none⟩ = some (.int .u16 0)
  c39 : w.cell? ⟨g, 39, none⟩ = some (.int .u8 kd)
  c40 : w.cell? ⟨g, 40, none⟩ = some (.int .u8 0)
  fz : ∀ j, w.frozen? ⟨g, j, none⟩ = false
theorem cells {g : Nat} {s : ByteArray} {nl cur cp ts tl kd : Int} {w : World} (h : Own w g 64 (lxC s nl cur cp ts tl kd)) : Cell g s nl cur cp ts tl kd w :=
  ⟨(h.cell 10).trans rfl, (h.cell 33).trans rfl, (h.cell 35).trans rfl, (h.cell 36).trans rfl, (h.cell 37).trans rfl, (h.cell 38).trans rfl, (h.cell 39).trans rfl, (h.cell 40).trans rfl, h.frozen⟩
theorem lx_tok (s : ByteArray) (nl cur cp ts tl kd x : Int) : (((((lxC s nl cur cp ts tl kd).setIfInBounds 36 (.int .i32 x)).setIfInBounds 37 (.int .i32 0)).setIfInBounds 38 (.int .u16 0)).setIfInBounds 39 (.int .u8 0)).setIfInBounds 40 (.int .u8 0) = lxC s nl cur cp x 0 0 := by
  simp only [lxC, List.setIfInBounds_toArray, List.set_cons_zero, List.set_cons_succ]
theorem lx_kind (s : ByteArray) (nl cur cp ts tl kd x : Int) : (lxC s nl cur cp ts tl kd).setIfInBounds 39 (.int .u8 x) = lxC s nl cur cp ts tl x := by
  simp only [lxC, List.setIfInBounds_toArray, List.set_cons_zero, List.set_cons_succ]
theorem Own.tok {g : Nat} {s : ByteArray} {nl cur cp ts tl kd : Int} {w : World} (h : Own w g 64 (lxC s nl cur cp ts tl kd)) (x : Int) : Own (((((w.setCell ⟨g, 36, none⟩ (.int .i32 x)).setCell ⟨g, 37, none⟩ (.int .i32 0)).setCell ⟨g, 38, none⟩ (.int .u16 0)).setCell ⟨g, 39, none⟩ (.int .u8 0)).setCell ⟨g, 40, none⟩ (.int .u8 0)) g 64 (lxC s nl cur cp x 0 0) := by
  have e := ((((h.set 36 (.int .i32 x)).set 37 (.int .i32 0)).set 38 (.int .u16 0)).set 39 (.int .u8 0)).set 40 (.int .u8 0)
  rw [lx_tok] at e
  exact e
theorem Own.kind {g : Nat} {s : ByteArray} {nl cur cp ts tl kd : Int} {w : World} (h : Own w g 64 (lxC s nl cur cp ts tl kd)) (x : Int) : Own (w.setCell ⟨g, 39, none⟩ (.int .u8 x)) g 64 (lxC s nl cur cp ts tl x) := by
  have e := h.set 39 (.int .u8 x)
  rw [lx_kind] at e
  exact e
theorem _root_.Go.Proofs.YtcljenkgbbbfpaaDoor.Lu.Fr.set {g : Nat} {w w' : World} (h : Fr g w w') (i : Nat) (v : Value) : Fr g w (w'.setCell ⟨g, i, none⟩ v) :=
  ⟨h.os, h.tape, h.output, by rw [World.size_setCell]; exact h.size, fun k hk hne => (Below.heap_setCell w' ⟨g, i, none⟩ v k hne).trans (h.block k hk hne)⟩
theorem num70 (c : Int) (g : Nat) (s : ByteArray) (W : World) (hc : (c == 43 || c == 45 || c == 46) = true) (hs1 : s.size = 1) (c10 : W.cell? ⟨g, 10, none⟩ = some (.string s)) (c33 : W.cell? ⟨g, 33, none⟩ = some (.int .i64 1)) (c35 : W.cell? ⟨g, 35, none⟩ = some (.int .i32 c)) :
    Calls Tryd.prog 70 #[.pointer (some ⟨g, 0, none⟩)] W fun e w' => e = .returned (.bool false) ∧ W = w' := by
  have hc' : c = 43 ∨ c = 45 ∨ c = 46 := by simpa [or_assoc] using hc
  have t1 : decide (1 < (s.size : Int)) = false := decide_eq_false (by omega)
  clear hc hs1
  rcases hc' with rfl | rfl | rfl
  all_goals
    go_enter Tryd.func70, Tryd.ntmps70
    go_wp2
    go_ret
    exact ⟨rfl, rfl⟩
theorem ns74 (W : World) : Calls Tryd.prog 74 #[.int .i32 45] W fun e w' => e = .returned (.bool false) ∧ W = w' := by
  go_enter Tryd.func74, Tryd.ntmps74
  go_wp2
  go_ret
  exact ⟨rfl, rfl⟩
set_option maxRecDepth 100000 in
set_option maxHeartbeats 4000000 in
theorem idt68 (g : Nat) (s : ByteArray) (W : World) (hg : g < W.heap.size) (hs1 : s.size = 1) (c10 : W.cell? ⟨g, 10, none⟩ = some (.string s)) (c33 : W.cell? ⟨g, 33, none⟩ = some (.int .i64 1)) (c35 : W.cell? ⟨g, 35, none⟩ = some (.int .i32 45)) (hT : Lib.Utf8Tabs 1 2 W) (hw : 3 ≤ W.heap.size) :
    Calls Tryd.prog 68 #[.pointer (some ⟨g, 0, none⟩)] W fun e w' => e = .returned (.bool false) ∧ Below W.heap.size W w' := by
  have he := rd_end (s := s) (i := 1) (by omega)
  unfold rd at he
  have HE := Lib.hid he
  have hi1 : (1 : Int) ≤ (s.size : Int) := by omega
  clear he hs1
  go_enter Tryd.func68, Tryd.ntmps68
  go_wp2_with fail
  refine (ns74 _).mono ?_
  rintro e w9 ⟨rfl, rfl⟩
  go_wp2_with fail
  clear c35
  go_region_held3 (fun V => V.cell? ⟨g, 10, none⟩ = some (.string s) ∧ V.cell? ⟨g, 33, none⟩ = some (.int .i64 1) ∧ Below W.heap.size W V)
    (first | with_reducible exact keepL hg hb1 (by assumption) | exact ⟨c10, c33, below_drew (Below.refl _ _)⟩)
    (first | (go_at_call 52; refine (Tryd.utf8_DecodeRuneInString _ _ (tabs_below hT hw (And.right (And.right (by assumption))))).mono ?_; rintro e w1 ⟨rfl, hb1⟩))
  have hbw : Below W.heap.size W w1 := (below_drew (Below.refl _ _)).trans (hb1.mono (Nat.le_refl _))
  have HB := Lib.hid hbw
  clear hbw hb1
  rw [HE.out]
  go_wp2_with fail
  go_ret
  exact ⟨rfl, HB.out⟩
theorem num70' (g : Nat) (s : ByteArray) (W : World) (hsz : s.size = 3) (b1 : bt s 1 = 45) (c10 : W.cell? ⟨g, 10, none⟩ = some (.string s)) (c33 : W.cell? ⟨g, 33, none⟩ = some (.int .i64 1)) (c35 : W.cell? ⟨g, 35, none⟩ = some (.int .i32 45)) :
    Calls Tryd.prog 70 #[.pointer (some ⟨g, 0, none⟩)] W fun e w' => e = .returned (.bool false) ∧ W = w' := by
  have t1 : decide (1 < (s.size : Int)) = true := decide_eq_true (by omega)
  have hgb := get_bt s
  have i1 : (1 : Int) < (s.size : Int) := by omega
  have t2 : decide (48 ≤ bt s 1) = false := decide_eq_false (by omega)
  have t3 : (bt s 1 == 46) = false := beq_eq_false_iff_ne.2 (by omega)
  clear hsz b1
  go_enter Tryd.func70, Tryd.ntmps70
  go_wp2
  go_ret
  exact ⟨rfl, rfl⟩
set_option maxRecDepth 100000 in
set_option maxHeartbeats 4000000 in
theorem nxCDC (g : Nat) (s : ByteArray) (nl : Int) (w : World) (h : Own w g 64 (lxC s nl 1 45 0 0 0)) (n0 : 0 ≤ nl) (n1 : nl ≤ 2) (hsz : s.size = 3) (b1 : bt s 1 = 45) (b2 : bt s 2 = 62) (hx : s.extract 1 3 = ⟨#[45, 62]⟩) (hT : Lib.Utf8Tabs 1 2 w) (hg : 3 ≤ g) (hw : 3 ≤ w.heap.size) :
    Calls Tryd.prog 51 #[.pointer (some ⟨g, 0, none⟩)] w (Nxt g s 0 4 w) := by
  have HW1 : Hid (wdOf s 1 = 1) := Lib.hid ((cp_in (s := s) (q := 1) (by omega)).2.trans (rd_asc (s := s) (i := 1) (by omega) (by omega)).2)
  have HW2 : Hid (wdOf s 2 = 1) := Lib.hid ((cp_in (s := s) (q := 2) (by omega)).2.trans (rd_asc (s := s) (i := 2) (by omega) (by omega)).2)
  have HB1 := Lib.hid b1
  have HX := Lib.hid hx
  clear hx b1 b2
  have HO := Lib.hid h
  have HT := Lib.hid hT
  have hc := cells h
  clear h hT
  obtain ⟨c10, c33, c35, c36, c37, c38, c39, c40, fz⟩ := hc
  go_enter Tryd.func51, Tryd.ntmps51
  refine wp_block (wp_loop_once (wp_block ?_))
  go_wp2_with fail
  refine (end44 0 0 (by omega) (by omega) (by omega) (by omega) _).mono ?_
  rintro e w1 ⟨rfl, hb1⟩
  rw [Int.add_zero]
  have HO1 := Lib.hid (HO.out.below hb1 HO.out.lt)
  have HF1 : Hid (Fr g w w1) := Lib.hid ⟨hb1.os, hb1.tape, hb1.output, hb1.size, fun k hk _ => hb1.block k hk⟩
  have hc := cells HO1.out
  clear HO hb1 c10 c33 c35 c36 c37 c38 c39 c40 fz
  obtain ⟨c10, c33, c35, c36, c37, c38, c39, c40, fz⟩ := hc
  go_upto_region 1 with fail
  have hO := Own.tok HO1.out 0
  have hF := (((((HF1.out.set 36 (.int .i32 0)).set 37 (.int .i32 0)).set 38 (.int .u16 0)).set 39 (.int .u8 0)).set 40 (.int .u8 0))
  clear HO1 HF1 c10 c33 c35 c36 c37 c38 c39 c40 fz
  generalize World.setCell _ _ _ = W at hO hF ⊢
  have hc := cells hO
  obtain ⟨c10, c33, c35, c36, c37, c38, c39, c40, fz⟩ := hc
  have HO := Lib.hid hO
  have HF := Lib.hid hF
  have HTW := Lib.hid (tabs_fr HT.out hg hw hF)
  have hwW : 3 ≤ W.heap.size := Nat.le_trans hw hF.size
  clear hO hF HT
  go_wp2_with fail
  refine (num70' g s W hsz HB1.out c10 c33 c35).mono ?_
  rintro e w9 ⟨rfl, rfl⟩
  go_upto_region 90 with fail
  have t4 : decide (3 ≤ (s.size : Int)) = true := decide_eq_true (by omega)
  have hx := HX.out
  go_quiet (fail)
  have hO := HO.out.drewN nq
  have hF : Fr g w (W.drewN nq) := ⟨HF.out.os, HF.out.tape, HF.out.output, HF.out.size, HF.out.block⟩
  have hT : Lib.Utf8Tabs 1 2 (W.drewN nq) := tabs_fr HTW.out hg hwW (g := g) ⟨rfl, rfl, rfl, Nat.le_refl _, fun _ _ _ => rfl⟩
  have hw5 : 3 ≤ (W.drewN nq).heap.size := hwW
  clear HO HF HTW hwW c10 c33 c35 c36 c37 c38 c39 c40 fz
  generalize W.drewN nq = W at *
  have hc := cells hO
  obtain ⟨c10, c33, c35, c36, c37, c38, c39, c40, fz⟩ := hc
  have HO := Lib.hid hO
  have HF := Lib.hid hF
  have HTW := Lib.hid hT
  have hwW := hw5
  clear hO hF hT hw5
  clear hx
  go_wp2_with fail
  clear c10 c33 c35 c36 c37 c38 c39 c40 fz
  refine (stepC g s nl 1 _ _ _ _ W HO.out (by omega) HTW.out hwW (by omega) (by omega) (by omega) (by omega) (by omega)).mono ?_
  rintro e w2 ⟨rfl, nl1, m1, l1, hO2, hF2⟩
  rw [HW1.out] at hO2
  have hT := tabs_fr HTW.out hg hwW hF2
  have hw5 : 3 ≤ w2.heap.size := Nat.le_trans hwW hF2.size
  have hF := Fr.trans HF.out hF2
  clear HO HF HTW hwW hF2
  have HO := Lib.hid hO2
  have HF := Lib.hid hF
  have HTW := Lib.hid hT
  have hwW := hw5
  have hc := cells hO2
  obtain ⟨c10, c33, c35, c36, c37, c38, c39, c40, fz⟩ := hc
  clear hO2 hF hT hw5
  generalize w2 = W at *
  go_wp2_with fail
  clear c10 c33 c35 c36 c37 c38 c39 c40 fz
  refine (stepC g s nl1 2 _ _ _ _ W HO.out (by omega) HTW.out hwW (by omega) (by omega) (by omega) (by omega) (by omega)).mono ?_
  rintro e w2 ⟨rfl, nl2, m2, l2, hO2, hF2⟩
  rw [HW2.out] at hO2
  have hT := tabs_fr HTW.out hg hwW hF2
  have hw5 : 3 ≤ w2.heap.size := Nat.le_trans hwW hF2.size
  have hF := Fr.trans HF.out hF2
  clear HO HF HTW hwW hF2
  have HO := Lib.hid hO2
  have HF := Lib.hid hF
  have HTW := Lib.hid hT
  have hwW := hw5
  have hc := cells hO2
  obtain ⟨c10, c33, c35, c36, c37, c38, c39, c40, fz⟩ := hc
  clear hO2 hF hT hw5
  generalize w2 = W at *
  go_wp2_with fail
  clear c10 c33 c35 c36 c37 c38 c39 c40 fz
  refine (stepC g s nl2 3 _ _ _ _ W HO.out (by omega) HTW.out hwW (by omega) (by omega) (by omega) (by omega) (by omega)).mono ?_
  rintro e w2 ⟨rfl, nl3, m3, l3, hO2, hF2⟩
  rw [(cp_out (s := s) (q := 3) (by omega)).1, (cp_out (s := s) (q := 3) (by omega)).2] at hO2
  have HO2 : Hid (Own w2 g 64 (lxC s nl3 (s.size : Int) (-1) 0 ((s.size : Int) - 0) 0)) := Lib.hid (by rw [hsz]; exact hO2)
  have HF2 := Lib.hid (Fr.trans HF.out hF2)
  clear hO2 hF2 HO HF HTW hwW
  have hc := cells HO2.out
  obtain ⟨c10, c33, c35, c36, c37, c38, c39, c40, fz⟩ := hc
  go_wp2_with fail
  go_end0
  exact ⟨rfl, nl3, by omega, by omega, Own.kind HO2.out 4, HF2.out.set 39 _⟩
set_option maxRecDepth 100000 in
set_option maxHeartbeats 4000000 in
theorem nxCDO (g : Nat) (s : ByteArray) (nl : Int) (w : World) (h : Own w g 64 (lxC s nl 1 60 0 0 0)) (n0 : 0 ≤ nl) (n1 : nl ≤ 2) (hsz : s.size = 4) (b1 : bt s 1 = 33) (b2 : bt s 2 = 45) (b3 : bt s 3 = 45) (hx : s.extract 1 4 = ⟨#[33, 45, 45]⟩) (hT : Lib.Utf8Tabs 1 2 w) (hg : 3 ≤ g) (hw : 3 ≤ w.heap.size) :
    Calls Tryd.prog 51 #[.pointer (some ⟨g, 0, none⟩)] w (Nxt g s 0 5 w) := by
  have HW1 : Hid (wdOf s 1 = 1) := Lib.hid ((cp_in (s := s) (q := 1) (by omega)).2.trans (rd_asc (s := s) (i := 1) (by omega) (by omega)).2)
  have HW2 : Hid (wdOf s 2 = 1) := Lib.hid ((cp_in (s := s) (q := 2) (by omega)).2.trans (rd_asc (s := s) (i := 2) (by omega) (by omega)).2)
  have HW3 : Hid (wdOf s 3 = 1) := Lib.hid ((cp_in (s := s) (q := 3) (by omega)).2.trans (rd_asc (s := s) (i := 3) (by omega) (by omega)).2)
  have HB1 := Lib.hid b1
  have HX := Lib.hid hx
  clear hx b1 b2 b3
  have HO := Lib.hid h
  have HT := Lib.hid hT
  have hc := cells h
  clear h hT
  obtain ⟨c10, c33, c35, c36, c37, c38, c39, c40, fz⟩ := hc
  go_enter Tryd.func51, Tryd.ntmps51
  refine wp_block (wp_loop_once (wp_block ?_))
  go_wp2_with fail
  refine (end44 0 0 (by omega) (by omega) (by omega) (by omega) _).mono ?_
  rintro e w1 ⟨rfl, hb1⟩
  rw [Int.add_zero]
  have HO1 := Lib.hid (HO.out.below hb1 HO.out.lt)
  have HF1 : Hid (Fr g w w1) := Lib.hid ⟨hb1.os, hb1.tape, hb1.output, hb1.size, fun k hk _ => hb1.block k hk⟩
  have hc := cells HO1.out
  clear HO hb1 c10 c33 c35 c36 c37 c38 c39 c40 fz
  obtain ⟨c10, c33, c35, c36, c37, c38, c39, c40, fz⟩ := hc
  go_upto_region 1 with fail
  have hO := Own.tok HO1.out 0
  have hF := (((((HF1.out.set 36 (.int .i32 0)).set 37 (.int .i32 0)).set 38 (.int .u16 0)).set 39 (.int .u8 0)).set 40 (.int .u8 0))
  clear HO1 HF1 c10 c33 c35 c36 c37 c38 c39 c40 fz
  generalize World.setCell _ _ _ = W at hO hF ⊢
  have hc := cells hO
  obtain ⟨c10, c33, c35, c36, c37, c38, c39, c40, fz⟩ := hc
  have HO := Lib.hid hO
  have HF := Lib.hid hF
  have HTW := Lib.hid (tabs_fr HT.out hg hw hF)
  have hwW : 3 ≤ W.heap.size := Nat.le_trans hw hF.size
  clear hO hF HT
  go_wp2_with fail
  go_upto_region 100 with fail
  have t4 : decide (4 ≤ (s.size : Int)) = true := decide_eq_true (by omega)
  have hx := HX.out
  go_quiet (fail)
  have hO := HO.out.drewN nq
  have hF : Fr g w (W.drewN nq) := ⟨HF.out.os, HF.out.tape, HF.out.output, HF.out.size, HF.out.block⟩
  have hT : Lib.Utf8Tabs 1 2 (W.drewN nq) := tabs_fr HTW.out hg hwW (g := g) ⟨rfl, rfl, rfl, Nat.le_refl _, fun _ _ _ => rfl⟩
  have hw5 : 3 ≤ (W.drewN nq).heap.size := hwW
  clear HO HF HTW hwW c10 c33 c35 c36 c37 c38 c39 c40 fz
  generalize W.drewN nq = W at *
  have hc := cells hO
  obtain ⟨c10, c33, c35, c36, c37, c38, c39, c40, fz⟩ := hc
  have HO := Lib.hid hO
  have HF := Lib.hid hF
  have HTW := Lib.hid hT
  have hwW := hw5
  clear hO hF hT hw5
  clear hx
  go_wp2_with fail
  clear c10 c33 c35 c36 c37 c38 c39 c40 fz
  refine (stepC g s nl 1 _ _ _ _ W HO.out (by omega) HTW.out hwW (by omega) (by omega) (by omega) (by omega) (by omega)).mono ?_
  rintro e w2 ⟨rfl, nl1, m1, l1, hO2, hF2⟩
  rw [HW1.out] at hO2
  have hT := tabs_fr HTW.out hg hwW hF2
  have hw5 : 3 ≤ w2.heap.size := Nat.le_trans hwW hF2.size
  have hF := Fr.trans HF.out hF2
  clear HO HF HTW hwW hF2
  have HO := Lib.hid hO2
  have HF := Lib.hid hF
  have HTW := Lib.hid hT
  have hwW := hw5
  have hc := cells hO2
  obtain ⟨c10, c33, c35, c36, c37, c38, c39, c40, fz⟩ := hc
  clear hO2 hF hT hw5
  generalize w2 = W at *
  go_wp2_with fail
  clear c10 c33 c35 c36 c37 c38 c39 c40 fz
  refine (stepC g s nl1 2 _ _ _ _ W HO.out (by omega) HTW.out hwW (by omega) (by omega) (by omega) (by omega) (by omega)).mono ?_
  rintro e w2 ⟨rfl, nl2, m2, l2, hO2, hF2⟩
  rw [HW2.out] at hO2
  have hT := tabs_fr HTW.out hg hwW hF2
  have hw5 : 3 ≤ w2.heap.size := Nat.le_trans hwW hF2.size
  have hF := Fr.trans HF.out hF2
  clear HO HF HTW hwW hF2
  have HO := Lib.hid hO2
  have HF := Lib.hid hF
  have HTW := Lib.hid hT
  have hwW := hw5
  have hc := cells hO2
  obtain ⟨c10, c33, c35, c36, c37, c38, c39, c40, fz⟩ := hc
  clear hO2 hF hT hw5
  generalize w2 = W at *
  go_wp2_with fail
  clear c10 c33 c35 c36 c37 c38 c39 c40 fz
  refine (stepC g s nl2 3 _ _ _ _ W HO.out (by omega) HTW.out hwW (by omega) (by omega) (by omega) (by omega) (by omega)).mono ?_
  rintro e w2 ⟨rfl, nl3, m3, l3, hO2, hF2⟩
  rw [HW3.out] at hO2
  have hT := tabs_fr HTW.out hg hwW hF2
  have hw5 : 3 ≤ w2.heap.size := Nat.le_trans hwW hF2.size
  have hF := Fr.trans HF.out hF2
  clear HO HF HTW hwW hF2
  have HO := Lib.hid hO2
  have HF := Lib.hid hF
  have HTW := Lib.hid hT
  have hwW := hw5
  have hc := cells hO2
  obtain ⟨c10, c33, c35, c36, c37, c38, c39, c40, fz⟩ := hc
  clear hO2 hF hT hw5
  generalize w2 = W at *
  go_wp2_with fail
  clear c10 c33 c35 c36 c37 c38 c39 c40 fz
  refine (stepC g s nl3 4 _ _ _ _ W HO.out (by omega) HTW.out hwW (by omega) (by omega) (by omega) (by omega) (by omega)).mono ?_
  rintro e w2 ⟨rfl, nl4, m4, l4, hO2, hF2⟩
  rw [(cp_out (s := s) (q := 4) (by omega)).1, (cp_out (s := s) (q := 4) (by omega)).2] at hO2
  have HO2 : Hid (Own w2 g 64 (lxC s nl4 (s.size : Int) (-1) 0 ((s.size : Int) - 0) 0)) := Lib.hid (by rw [hsz]; exact hO2)
  have HF2 := Lib.hid (Fr.trans HF.out hF2)
  clear hO2 hF2 HO HF HTW hwW
  have hc := cells HO2.out
  obtain ⟨c10, c33, c35, c36, c37, c38, c39, c40, fz⟩ := hc
  go_wp2_with fail
  go_end0
  exact ⟨rfl, nl4, by omega, by omega, Own.kind HO2.out 5, HF2.out.set 39 _⟩
set_option maxRecDepth 100000 in
set_option maxHeartbeats 4000000 in
theorem nxE (g : Nat) (s : ByteArray) (nl kd : Int) (w : World) (h : Own w g 64 (lxC s nl (s.size : Int) (-1) 0 (s.size : Int) kd)) (n0 : 0 ≤ nl) (n1 : nl ≤ 9) (hs1 : s.size ≤ 1000) (hT : Lib.Utf8Tabs 1 2 w) (hg : 3 ≤ g) (hw : 3 ≤ w.heap.size) :
    Calls Tryd.prog 51 #[.pointer (some ⟨g, 0, none⟩)] w (Nxt g s (s.size : Int) 0 w) := by
  have HO := Lib.hid h
  have HT := Lib.hid hT
  have hc := cells h
  clear h hT
  obtain ⟨c10, c33, c35, c36, c37, c38, c39, c40, fz⟩ := hc
  go_enter Tryd.func51, Tryd.ntmps51
  refine wp_block (wp_loop_once (wp_block ?_))
  go_wp2_with fail
  refine (end44 0 (s.size : Int) (by omega) (by omega) (by omega) (by omega) _).mono ?_
  rintro e w1 ⟨rfl, hb1⟩
  rw [Int.zero_add]
  have HO1 := Lib.hid (HO.out.below hb1 HO.out.lt)
  have HF1 : Hid (Fr g w w1) := Lib.hid ⟨hb1.os, hb1.tape, hb1.output, hb1.size, fun k hk _ => hb1.block k hk⟩
  have hc := cells HO1.out
  clear HO hb1 c10 c33 c35 c36 c37 c38 c39 c40 fz
  obtain ⟨c10, c33, c35, c36, c37, c38, c39, c40, fz⟩ := hc
  go_upto_region 1 with fail
  have hO := Own.tok HO1.out (s.size : Int)
  have hF := (((((HF1.out.set 36 (.int .i32 (s.size : Int))).set 37 (.int .i32 0)).set 38 (.int .u16 0)).set 39 (.int .u8 0)).set 40 (.int .u8 0))
  clear HO1 HF1 c10 c33 c35 c36 c37 c38 c39 c40 fz
  generalize World.setCell _ _ _ = W at hO hF ⊢
  have hc := cells hO
  obtain ⟨c10, c33, c35, c36, c37, c38, c39, c40, fz⟩ := hc
  have HO := Lib.hid hO
  have HF := Lib.hid hF
  have HTW := Lib.hid (tabs_fr HT.out hg hw hF)
  have hwW : 3 ≤ W.heap.size := Nat.le_trans hw hF.size
  clear hO hF HT
  go_wp2_with fail
  go_end0
  exact ⟨rfl, nl, by omega, by omega, by rw [Int.sub_self]; exact Own.kind HO.out 0, HF.out.set 39 _⟩
set_option maxRecDepth 100000 in
set_option maxHeartbeats 4000000 in
theorem nx125 (g : Nat) (s : ByteArray) (nl : Int) (w : World) (h : Own w g 64 (lxC s nl 1 125 0 0 0)) (n0 : 0 ≤ nl) (n1 : nl ≤ 2) (hs1 : s.size = 1) (hT : Lib.Utf8Tabs 1 2 w) (hg : 3 ≤ g) (hw : 3 ≤ w.heap.size) :
    Calls Tryd.prog 51 #[.pointer (some ⟨g, 0, none⟩)] w (Nxt g s 0 6 w) := by
  have HO := Lib.hid h
  have HT := Lib.hid hT
  have hc := cells h
  clear h hT
  obtain ⟨c10, c33, c35, c36, c37, c38, c39, c40, fz⟩ := hc
  go_enter Tryd.func51, Tryd.ntmps51
  refine wp_block (wp_loop_once (wp_block ?_))
  go_wp2_with fail
  refine (end44 0 0 (by omega) (by omega) (by omega) (by omega) _).mono ?_
  rintro e w1 ⟨rfl, hb1⟩
  rw [Int.add_zero]
  have HO1 := Lib.hid (HO.out.below hb1 HO.out.lt)
  have HF1 : Hid (Fr g w w1) := Lib.hid ⟨hb1.os, hb1.tape, hb1.output, hb1.size, fun k hk _ => hb1.block k hk⟩
  have hc := cells HO1.out
  clear HO hb1 c10 c33 c35 c36 c37 c38 c39 c40 fz
  obtain ⟨c10, c33, c35, c36, c37, c38, c39, c40, fz⟩ := hc
  go_upto_region 1 with fail
  have hO := Own.tok HO1.out 0
  have hF := (((((HF1.out.set 36 (.int .i32 0)).set 37 (.int .i32 0)).set 38 (.int .u16 0)).set 39 (.int .u8 0)).set 40 (.int .u8 0))
  clear HO1 HF1 c10 c33 c35 c36 c37 c38 c39 c40 fz
  generalize World.setCell _ _ _ = W at hO hF ⊢
  have hc := cells hO
  obtain ⟨c10, c33, c35, c36, c37, c38, c39, c40, fz⟩ := hc
  have HO := Lib.hid hO
  have HF := Lib.hid hF
  have HTW := Lib.hid (tabs_fr HT.out hg hw hF)
  have hwW : 3 ≤ W.heap.size := Nat.le_trans hw hF.size
  clear hO hF HT
  go_wp2_with fail
  clear c10 c33 c35 c36 c37 c38 c39 c40 fz
  refine (stepC g s nl 1 _ _ _ _ W HO.out (by omega) HTW.out hwW (by omega) n0 (by omega) (by omega) (by omega)).mono ?_
  rintro e w2 ⟨rfl, nl2, m0, m1, hO2, hF2⟩
  rw [(cp_out (s := s) (q := 1) (by omega)).1, (cp_out (s := s) (q := 1) (by omega)).2] at hO2
  have HO2 : Hid (Own w2 g 64 (lxC s nl2 (s.size : Int) (-1) 0 ((s.size : Int) - 0) 0)) := Lib.hid (by rw [hs1]; exact hO2)
  have HF2 := Lib.hid (Fr.trans HF.out hF2)
  clear hO2 hF2 HO HF HTW hwW
  have hc := cells HO2.out
  obtain ⟨c10, c33, c35, c36, c37, c38, c39, c40, fz⟩ := hc
  go_wp2_with fail
  go_end0
  exact ⟨rfl, nl2, by omega, by omega, Own.kind HO2.out 6, HF2.out.set 39 _⟩
set_option maxRecDepth 100000 in
set_option maxHeartbeats 4000000 in
theorem nx93 (g : Nat) (s : ByteArray) (nl : Int) (w : World) (h : Own w g 64 (lxC s nl 1 93 0 0 0)) (n0 : 0 ≤ nl) (n1 : nl ≤ 2) (hs1 : s.size = 1) (hT : Lib.Utf8Tabs 1 2 w) (hg : 3 ≤ g) (hw : 3 ≤ w.heap.size) :
    Calls Tryd.prog 51 #[.pointer (some ⟨g, 0, none⟩)] w (Nxt g s 0 7 w) := by
  have HO := Lib.hid h
  have HT := Lib.hid hT
  have hc := cells h
  clear h hT
  obtain ⟨c10, c33, c35, c36, c37, c38, c39, c40, fz⟩ := hc
  go_enter Tryd.func51, Tryd.ntmps51
  refine wp_block (wp_loop_once (wp_block ?_))
  go_wp2_with fail
  refine (end44 0 0 (by omega) (by omega) (by omega) (by omega) _).mono ?_
  rintro e w1 ⟨rfl, hb1⟩
  rw [Int.add_zero]
  have HO1 := Lib.hid (HO.out.below hb1 HO.out.lt)
  have HF1 : Hid (Fr g w w1) := Lib.hid ⟨hb1.os, hb1.tape, hb1.output, hb1.size, fun k hk _ => hb1.block k hk⟩
  have hc := cells HO1.out
  clear HO hb1 c10 c33 c35 c36 c37 c38 c39 c40 fz
  obtain ⟨c10, c33, c35, c36, c37, c38, c39, c40, fz⟩ := hc
  go_upto_region 1 with fail
  have hO := Own.tok HO1.out 0
  have hF := (((((HF1.out.set 36 (.int .i32 0)).set 37 (.int .i32 0)).set 38 (.int .u16 0)).set 39 (.int .u8 0)).set 40 (.int .u8 0))
  clear HO1 HF1 c10 c33 c35 c36 c37 c38 c39 c40 fz
  generalize World.setCell _ _ _ = W at hO hF ⊢
  have hc := cells hO
  obtain ⟨c10, c33, c35, c36, c37, c38, c39, c40, fz⟩ := hc
  have HO := Lib.hid hO
  have HF := Lib.hid hF
  have HTW := Lib.hid (tabs_fr HT.out hg hw hF)
  have hwW : 3 ≤ W.heap.size := Nat.le_trans hw hF.size
  clear hO hF HT
  go_wp2_with fail
  clear c10 c33 c35 c36 c37 c38 c39 c40 fz
  refine (stepC g s nl 1 _ _ _ _ W HO.out (by omega) HTW.out hwW (by omega) n0 (by omega) (by omega) (by omega)).mono ?_
  rintro e w2 ⟨rfl, nl2, m0, m1, hO2, hF2⟩
  rw [(cp_out (s := s) (q := 1) (by omega)).1, (cp_out (s := s) (q := 1) (by omega)).2] at hO2
  have HO2 : Hid (Own w2 g 64 (lxC s nl2 (s.size : Int) (-1) 0 ((s.size : Int) - 0) 0)) := Lib.hid (by rw [hs1]; exact hO2)
  have HF2 := Lib.hid (Fr.trans HF.out hF2)
  clear hO2 hF2 HO HF HTW hwW
  have hc := cells HO2.out
  obtain ⟨c10, c33, c35, c36, c37, c38, c39, c40, fz⟩ := hc
  go_wp2_with fail
  go_end0
  exact ⟨rfl, nl2, by omega, by omega, Own.kind HO2.out 7, HF2.out.set 39 _⟩
set_option maxRecDepth 100000 in
set_option maxHeartbeats 4000000 in
theorem nx41 (g : Nat) (s : ByteArray) (nl : Int) (w : World) (h : Own w g 64 (lxC s nl 1 41 0 0 0)) (n0 : 0 ≤ nl) (n1 : nl ≤ 2) (hs1 : s.size = 1) (hT : Lib.Utf8Tabs 1 2 w) (hg : 3 ≤ g) (hw : 3 ≤ w.heap.size) :
    Calls Tryd.prog 51 #[.pointer (some ⟨g, 0, none⟩)] w (Nxt g s 0 8 w) := by
  have HO := Lib.hid h
  have HT := Lib.hid hT
  have hc := cells h
  clear h hT
  obtain ⟨c10, c33, c35, c36, c37, c38, c39, c40, fz⟩ := hc
  go_enter Tryd.func51, Tryd.ntmps51
  refine wp_block (wp_loop_once (wp_block ?_))
  go_wp2_with fail
  refine (end44 0 0 (by omega) (by omega) (by omega) (by omega) _).mono ?_
  rintro e w1 ⟨rfl, hb1⟩
  rw [Int.add_zero]
  have HO1 := Lib.hid (HO.out.below hb1 HO.out.lt)
  have HF1 : Hid (Fr g w w1) := Lib.hid ⟨hb1.os, hb1.tape, hb1.output, hb1.size, fun k hk _ => hb1.block k hk⟩
  have hc := cells HO1.out
  clear HO hb1 c10 c33 c35 c36 c37 c38 c39 c40 fz
  obtain ⟨c10, c33, c35, c36, c37, c38, c39, c40, fz⟩ := hc
  go_upto_region 1 with fail
  have hO := Own.tok HO1.out 0
  have hF := (((((HF1.out.set 36 (.int .i32 0)).set 37 (.int .i32 0)).set 38 (.int .u16 0)).set 39 (.int .u8 0)).set 40 (.int .u8 0))
  clear HO1 HF1 c10 c33 c35 c36 c37 c38 c39 c40 fz
  generalize World.setCell _ _ _ = W at hO hF ⊢
  have hc := cells hO
  obtain ⟨c10, c33, c35, c36, c37, c38, c39, c40, fz⟩ := hc
  have HO := Lib.hid hO
  have HF := Lib.hid hF
  have HTW := Lib.hid (tabs_fr HT.out hg hw hF)
  have hwW : 3 ≤ W.heap.size := Nat.le_trans hw hF.size
  clear hO hF HT
  go_wp2_with fail
  clear c10 c33 c35 c36 c37 c38 c39 c40 fz
  refine (stepC g s nl 1 _ _ _ _ W HO.out (by omega) HTW.out hwW (by omega) n0 (by omega) (by omega) (by omega)).mono ?_
  rintro e w2 ⟨rfl, nl2, m0, m1, hO2, hF2⟩
  rw [(cp_out (s := s) (q := 1) (by omega)).1, (cp_out (s := s) (q := 1) (by omega)).2] at hO2
  have HO2 : Hid (Own w2 g 64 (lxC s nl2 (s.size : Int) (-1) 0 ((s.size : Int) - 0) 0)) := Lib.hid (by rw [hs1]; exact hO2)
  have HF2 := Lib.hid (Fr.trans HF.out hF2)
  clear hO2 hF2 HO HF HTW hwW
  have hc := cells HO2.out
  obtain ⟨c10, c33, c35, c36, c37, c38, c39, c40, fz⟩ := hc
  go_wp2_with fail
  go_end0
  exact ⟨rfl, nl2, by omega, by omega, Own.kind HO2.out 8, HF2.out.set 39 _⟩
set_option maxRecDepth 100000 in
set_option maxHeartbeats 4000000 in
theorem nx58 (g : Nat) (s : ByteArray) (nl : Int) (w : World) (h : Own w g 64 (lxC s nl 1 58 0 0 0)) (n0 : 0 ≤ nl) (n1 : nl ≤ 2) (hs1 : s.size = 1) (hT : Lib.Utf8Tabs 1 2 w) (hg : 3 ≤ g) (hw : 3 ≤ w.heap.size) :
    Calls Tryd.prog 51 #[.pointer (some ⟨g, 0, none⟩)] w (Nxt g s 0 9 w) := by
  have HO := Lib.hid h
  have HT := Lib.hid hT
  have hc := cells h
  clear h hT
  obtain ⟨c10, c33, c35, c36, c37, c38, c39, c40, fz⟩ := hc
  go_enter Tryd.func51, Tryd.ntmps51
  refine wp_block (wp_loop_once (wp_block ?_))
  go_wp2_with fail
  refine (end44 0 0 (by omega) (by omega) (by omega) (by omega) _).mono ?_
  rintro e w1 ⟨rfl, hb1⟩
  rw [Int.add_zero]
  have HO1 := Lib.hid (HO.out.below hb1 HO.out.lt)
  have HF1 : Hid (Fr g w w1) := Lib.hid ⟨hb1.os, hb1.tape, hb1.output, hb1.size, fun k hk _ => hb1.block k hk⟩
  have hc := cells HO1.out
  clear HO hb1 c10 c33 c35 c36 c37 c38 c39 c40 fz
  obtain ⟨c10, c33, c35, c36, c37, c38, c39, c40, fz⟩ := hc
  go_upto_region 1 with fail
  have hO := Own.tok HO1.out 0
  have hF := (((((HF1.out.set 36 (.int .i32 0)).set 37 (.int .i32 0)).set 38 (.int .u16 0)).set 39 (.int .u8 0)).set 40 (.int .u8 0))
  clear HO1 HF1 c10 c33 c35 c36 c37 c38 c39 c40 fz
  generalize World.setCell _ _ _ = W at hO hF ⊢
  have hc := cells hO
  obtain ⟨c10, c33, c35, c36, c37, c38, c39, c40, fz⟩ := hc
  have HO := Lib.hid hO
  have HF := Lib.hid hF
  have HTW := Lib.hid (tabs_fr HT.out hg hw hF)
  have hwW : 3 ≤ W.heap.size := Nat.le_trans hw hF.size
  clear hO hF HT
  go_wp2_with fail
  clear c10 c33 c35 c36 c37 c38 c39 c40 fz
  refine (stepC g s nl 1 _ _ _ _ W HO.out (by omega) HTW.out hwW (by omega) n0 (by omega) (by omega) (by omega)).mono ?_
  rintro e w2 ⟨rfl, nl2, m0, m1, hO2, hF2⟩
  rw [(cp_out (s := s) (q := 1) (by omega)).1, (cp_out (s := s) (q := 1) (by omega)).2] at hO2
  have HO2 : Hid (Own w2 g 64 (lxC s nl2 (s.size : Int) (-1) 0 ((s.size : Int) - 0) 0)) := Lib.hid (by rw [hs1]; exact hO2)
  have HF2 := Lib.hid (Fr.trans HF.out hF2)
  clear hO2 hF2 HO HF HTW hwW
  have hc := cells HO2.out
  obtain ⟨c10, c33, c35, c36, c37, c38, c39, c40, fz⟩ := hc
  go_wp2_with fail
  go_end0
  exact ⟨rfl, nl2, by omega, by omega, Own.kind HO2.out 9, HF2.out.set 39 _⟩
set_option maxRecDepth 100000 in
set_option maxHeartbeats 4000000 in
theorem nx44 (g : Nat) (s : ByteArray) (nl : Int) (w : World) (h : Own w g 64 (lxC s nl 1 44 0 0 0)) (n0 : 0 ≤ nl) (n1 : nl ≤ 2) (hs1 : s.size = 1) (hT : Lib.Utf8Tabs 1 2 w) (hg : 3 ≤ g) (hw : 3 ≤ w.heap.size) :
    Calls Tryd.prog 51 #[.pointer (some ⟨g, 0, none⟩)] w (Nxt g s 0 10 w) := by
  have HO := Lib.hid h
  have HT := Lib.hid hT
  have hc := cells h
  clear h hT
  obtain ⟨c10, c33, c35, c36, c37, c38, c39, c40, fz⟩ := hc
  go_enter Tryd.func51, Tryd.ntmps51
  refine wp_block (wp_loop_once (wp_block ?_))
  go_wp2_with fail
  refine (end44 0 0 (by omega) (by omega) (by omega) (by omega) _).mono ?_
  rintro e w1 ⟨rfl, hb1⟩
  rw [Int.add_zero]
  have HO1 := Lib.hid (HO.out.below hb1 HO.out.lt)
  have HF1 : Hid (Fr g w w1) := Lib.hid ⟨hb1.os, hb1.tape, hb1.output, hb1.size, fun k hk _ => hb1.block k hk⟩
  have hc := cells HO1.out
  clear HO hb1 c10 c33 c35 c36 c37 c38 c39 c40 fz
  obtain ⟨c10, c33, c35, c36, c37, c38, c39, c40, fz⟩ := hc
  go_upto_region 1 with fail
  have hO := Own.tok HO1.out 0
  have hF := (((((HF1.out.set 36 (.int .i32 0)).set 37 (.int .i32 0)).set 38 (.int .u16 0)).set 39 (.int .u8 0)).set 40 (.int .u8 0))
  clear HO1 HF1 c10 c33 c35 c36 c37 c38 c39 c40 fz
  generalize World.setCell _ _ _ = W at hO hF ⊢
  have hc := cells hO
  obtain ⟨c10, c33, c35, c36, c37, c38, c39, c40, fz⟩ := hc
  have HO := Lib.hid hO
  have HF := Lib.hid hF
  have HTW := Lib.hid (tabs_fr HT.out hg hw hF)
  have hwW : 3 ≤ W.heap.size := Nat.le_trans hw hF.size
  clear hO hF HT
  go_wp2_with fail
  clear c10 c33 c35 c36 c37 c38 c39 c40 fz
  refine (stepC g s nl 1 _ _ _ _ W HO.out (by omega) HTW.out hwW (by omega) n0 (by omega) (by omega) (by omega)).mono ?_
  rintro e w2 ⟨rfl, nl2, m0, m1, hO2, hF2⟩
  rw [(cp_out (s := s) (q := 1) (by omega)).1, (cp_out (s := s) (q := 1) (by omega)).2] at hO2
  have HO2 : Hid (Own w2 g 64 (lxC s nl2 (s.size : Int) (-1) 0 ((s.size : Int) - 0) 0)) := Lib.hid (by rw [hs1]; exact hO2)
  have HF2 := Lib.hid (Fr.trans HF.out hF2)
  clear hO2 hF2 HO HF HTW hwW
  have hc := cells HO2.out
  obtain ⟨c10, c33, c35, c36, c37, c38, c39, c40, fz⟩ := hc
  go_wp2_with fail
  go_end0
  exact ⟨rfl, nl2, by omega, by omega, Own.kind HO2.out 10, HF2.out.set 39 _⟩
set_option maxRecDepth 100000 in
set_option maxHeartbeats 4000000 in
theorem nx38 (g : Nat) (s : ByteArray) (nl : Int) (w : World) (h : Own w g 64 (lxC s nl 1 38 0 0 0)) (n0 : 0 ≤ nl) (n1 : nl ≤ 2) (hs1 : s.size = 1) (hT : Lib.Utf8Tabs 1 2 w) (hg : 3 ≤ g) (hw : 3 ≤ w.heap.size) :
    Calls Tryd.prog 51 #[.pointer (some ⟨g, 0, none⟩)] w (Nxt g s 0 12 w) := by
  have HO := Lib.hid h
  have HT := Lib.hid hT
  have hc := cells h
  clear h hT
  obtain ⟨c10, c33, c35, c36, c37, c38, c39, c40, fz⟩ := hc
  go_enter Tryd.func51, Tryd.ntmps51
  refine wp_block (wp_loop_once (wp_block ?_))
  go_wp2_with fail
  refine (end44 0 0 (by omega) (by omega) (by omega) (by omega) _).mono ?_
  rintro e w1 ⟨rfl, hb1⟩
  rw [Int.add_zero]
  have HO1 := Lib.hid (HO.out.below hb1 HO.out.lt)
  have HF1 : Hid (Fr g w w1) := Lib.hid ⟨hb1.os, hb1.tape, hb1.output, hb1.size, fun k hk _ => hb1.block k hk⟩
  have hc := cells HO1.out
  clear HO hb1 c10 c33 c35 c36 c37 c38 c39 c40 fz
  obtain ⟨c10, c33, c35, c36, c37, c38, c39, c40, fz⟩ := hc
  go_upto_region 1 with fail
  have hO := Own.tok HO1.out 0
  have hF := (((((HF1.out.set 36 (.int .i32 0)).set 37 (.int .i32 0)).set 38 (.int .u16 0)).set 39 (.int .u8 0)).set 40 (.int .u8 0))
  clear HO1 HF1 c10 c33 c35 c36 c37 c38 c39 c40 fz
  generalize World.setCell _ _ _ = W at hO hF ⊢
  have hc := cells hO
  obtain ⟨c10, c33, c35, c36, c37, c38, c39, c40, fz⟩ := hc
  have HO := Lib.hid hO
  have HF := Lib.hid hF
  have HTW := Lib.hid (tabs_fr HT.out hg hw hF)
  have hwW : 3 ≤ W.heap.size := Nat.le_trans hw hF.size
  clear hO hF HT
  go_wp2_with fail
  clear c10 c33 c35 c36 c37 c38 c39 c40 fz
  refine (stepC g s nl 1 _ _ _ _ W HO.out (by omega) HTW.out hwW (by omega) n0 (by omega) (by omega) (by omega)).mono ?_
  rintro e w2 ⟨rfl, nl2, m0, m1, hO2, hF2⟩
  rw [(cp_out (s := s) (q := 1) (by omega)).1, (cp_out (s := s) (q := 1) (by omega)).2] at hO2
  have HO2 : Hid (Own w2 g 64 (lxC s nl2 (s.size : Int) (-1) 0 ((s.size : Int) - 0) 0)) := Lib.hid (by rw [hs1]; exact hO2)
  have HF2 := Lib.hid (Fr.trans HF.out hF2)
  clear hO2 hF2 HO HF HTW hwW
  have hc := cells HO2.out
  obtain ⟨c10, c33, c35, c36, c37, c38, c39, c40, fz⟩ := hc
  go_wp2_with fail
  go_end0
  exact ⟨rfl, nl2, by omega, by omega, Own.kind HO2.out 12, HF2.out.set 39 _⟩
set_option maxRecDepth 100000 in
set_option maxHeartbeats 4000000 in
theorem nx42 (g : Nat) (s : ByteArray) (nl : Int) (w : World) (h : Own w g 64 (lxC s nl 1 42 0 0 0)) (n0 : 0 ≤ nl) (n1 : nl ≤ 2) (hs1 : s.size = 1) (hT : Lib.Utf8Tabs 1 2 w) (hg : 3 ≤ g) (hw : 3 ≤ w.heap.size) :
    Calls Tryd.prog 51 #[.pointer (some ⟨g, 0, none⟩)] w (Nxt g s 0 13 w) := by
  have HO := Lib.hid h
  have HT := Lib.hid hT
  have hc := cells h
  clear h hT
  obtain ⟨c10, c33, c35, c36, c37, c38, c39, c40, fz⟩ := hc
  go_enter Tryd.func51, Tryd.ntmps51
  refine wp_block (wp_loop_once (wp_block ?_))
  go_wp2_with fail
  refine (end44 0 0 (by omega) (by omega) (by omega) (by omega) _).mono ?_
  rintro e w1 ⟨rfl, hb1⟩
  rw [Int.add_zero]
  have HO1 := Lib.hid (HO.out.below hb1 HO.out.lt)
  have HF1 : Hid (Fr g w w1) := Lib.hid ⟨hb1.os, hb1.tape, hb1.output, hb1.size, fun k hk _ => hb1.block k hk⟩
  have hc := cells HO1.out
  clear HO hb1 c10 c33 c35 c36 c37 c38 c39 c40 fz
  obtain ⟨c10, c33, c35, c36, c37, c38, c39, c40, fz⟩ := hc
  go_upto_region 1 with fail
  have hO := Own.tok HO1.out 0
  have hF := (((((HF1.out.set 36 (.int .i32 0)).set 37 (.int .i32 0)).set 38 (.int .u16 0)).set 39 (.int .u8 0)).set 40 (.int .u8 0))
  clear HO1 HF1 c10 c33 c35 c36 c37 c38 c39 c40 fz
  generalize World.setCell _ _ _ = W at hO hF ⊢
  have hc := cells hO
  obtain ⟨c10, c33, c35, c36, c37, c38, c39, c40, fz⟩ := hc
  have HO := Lib.hid hO
  have HF := Lib.hid hF
  have HTW := Lib.hid (tabs_fr HT.out hg hw hF)
  have hwW : 3 ≤ W.heap.size := Nat.le_trans hw hF.size
  clear hO hF HT
  go_wp2_with fail
  clear c10 c33 c35 c36 c37 c38 c39 c40 fz
  refine (stepC g s nl 1 _ _ _ _ W HO.out (by omega) HTW.out hwW (by omega) n0 (by omega) (by omega) (by omega)).mono ?_
  rintro e w2 ⟨rfl, nl2, m0, m1, hO2, hF2⟩
  rw [(cp_out (s := s) (q := 1) (by omega)).1, (cp_out (s := s) (q := 1) (by omega)).2] at hO2
  have HO2 : Hid (Own w2 g 64 (lxC s nl2 (s.size : Int) (-1) 0 ((s.size : Int) - 0) 0)) := Lib.hid (by rw [hs1]; exact hO2)
  have HF2 := Lib.hid (Fr.trans HF.out hF2)
  clear hO2 hF2 HO HF HTW hwW
  have hc := cells HO2.out
  obtain ⟨c10, c33, c35, c36, c37, c38, c39, c40, fz⟩ := hc
  go_wp2_with fail
  go_end0
  exact ⟨rfl, nl2, by omega, by omega, Own.kind HO2.out 13, HF2.out.set 39 _⟩
set_option maxRecDepth 100000 in
set_option maxHeartbeats 4000000 in
theorem nx124 (g : Nat) (s : ByteArray) (nl : Int) (w : World) (h : Own w g 64 (lxC s nl 1 124 0 0 0)) (n0 : 0 ≤ nl) (n1 : nl ≤ 2) (hs1 : s.size = 1) (hT : Lib.Utf8Tabs 1 2 w) (hg : 3 ≤ g) (hw : 3 ≤ w.heap.size) :
    Calls Tryd.prog 51 #[.pointer (some ⟨g, 0, none⟩)] w (Nxt g s 0 14 w) := by
  have HO := Lib.hid h
  have HT := Lib.hid hT
  have hc := cells h
  clear h hT
  obtain ⟨c10, c33, c35, c36, c37, c38, c39, c40, fz⟩ := hc
  go_enter Tryd.func51, Tryd.ntmps51
  refine wp_block (wp_loop_once (wp_block ?_))
  go_wp2_with fail
  refine (end44 0 0 (by omega) (by omega) (by omega) (by omega) _).mono ?_
  rintro e w1 ⟨rfl, hb1⟩
  rw [Int.add_zero]
  have HO1 := Lib.hid (HO.out.below hb1 HO.out.lt)
  have HF1 : Hid (Fr g w w1) := Lib.hid ⟨hb1.os, hb1.tape, hb1.output, hb1.size, fun k hk _ => hb1.block k hk⟩
  have hc := cells HO1.out
  clear HO hb1 c10 c33 c35 c36 c37 c38 c39 c40 fz
  obtain ⟨c10, c33, c35, c36, c37, c38, c39, c40, fz⟩ := hc
  go_upto_region 1 with fail
  have hO := Own.tok HO1.out 0
  have hF := (((((HF1.out.set 36 (.int .i32 0)).set 37 (.int .i32 0)).set 38 (.int .u16 0)).set 39 (.int .u8 0)).set 40 (.int .u8 0))
  clear HO1 HF1 c10 c33 c35 c36 c37 c38 c39 c40 fz
  generalize World.setCell _ _ _ = W at hO hF ⊢
  have hc := cells hO
  obtain ⟨c10, c33, c35, c36, c37, c38, c39, c40, fz⟩ := hc
  have HO := Lib.hid hO
  have HF := Lib.hid hF
  have HTW := Lib.hid (tabs_fr HT.out hg hw hF)
  have hwW : 3 ≤ W.heap.size := Nat.le_trans hw hF.size
  clear hO hF HT
  go_wp2_with fail
  clear c10 c33 c35 c36 c37 c38 c39 c40 fz
  refine (stepC g s nl 1 _ _ _ _ W HO.out (by omega) HTW.out hwW (by omega) n0 (by omega) (by omega) (by omega)).mono ?_
  rintro e w2 ⟨rfl, nl2, m0, m1, hO2, hF2⟩
  rw [(cp_out (s := s) (q := 1) (by omega)).1, (cp_out (s := s) (q := 1) (by omega)).2] at hO2
  have HO2 : Hid (Own w2 g 64 (lxC s nl2 (s.size : Int) (-1) 0 ((s.size : Int) - 0) 0)) := Lib.hid (by rw [hs1]; exact hO2)
  have HF2 := Lib.hid (Fr.trans HF.out hF2)
  clear hO2 hF2 HO HF HTW hwW
  have hc := cells HO2.out
  obtain ⟨c10, c33, c35, c36, c37, c38, c39, c40, fz⟩ := hc
  go_wp2_with fail
  go_end0
  exact ⟨rfl, nl2, by omega, by omega, Own.kind HO2.out 14, HF2.out.set 39 _⟩
set_option maxRecDepth 100000 in
set_option maxHeartbeats 4000000 in
theorem nx94 (g : Nat) (s : ByteArray) (nl : Int) (w : World) (h : Own w g 64 (lxC s nl 1 94 0 0 0)) (n0 : 0 ≤ nl) (n1 : nl ≤ 2) (hs1 : s.size = 1) (hT : Lib.Utf8Tabs 1 2 w) (hg : 3 ≤ g) (hw : 3 ≤ w.heap.size) :
    Calls Tryd.prog 51 #[.pointer (some ⟨g, 0, none⟩)] w (Nxt g s 0 15 w) := by
  have HO := Lib.hid h
  have HT := Lib.hid hT
  have hc := cells h
  clear h hT
  obtain ⟨c10, c33, c35, c36, c37, c38, c39, c40, fz⟩ := hc
  go_enter Tryd.func51, Tryd.ntmps51
  refine wp_block (wp_loop_once (wp_block ?_))
  go_wp2_with fail
  refine (end44 0 0 (by omega) (by omega) (by omega) (by omega) _).mono ?_
  rintro e w1 ⟨rfl, hb1⟩
  rw [Int.add_zero]
  have HO1 := Lib.hid (HO.out.below hb1 HO.out.lt)
  have HF1 : Hid (Fr g w w1) := Lib.hid ⟨hb1.os, hb1.tape, hb1.output, hb1.size, fun k hk _ => hb1.block k hk⟩
  have hc := cells HO1.out
  clear HO hb1 c10 c33 c35 c36 c37 c38 c39 c40 fz
  obtain ⟨c10, c33, c35, c36, c37, c38, c39, c40, fz⟩ := hc
  go_upto_region 1 with fail
  have hO := Own.tok HO1.out 0
  have hF := (((((HF1.out.set 36 (.int .i32 0)).set 37 (.int .i32 0)).set 38 (.int .u16 0)).set 39 (.int .u8 0)).set 40 (.int .u8 0))
  clear HO1 HF1 c10 c33 c35 c36 c37 c38 c39 c40 fz
  generalize World.setCell _ _ _ = W at hO hF ⊢
  have hc := cells hO
  obtain ⟨c10, c33, c35, c36, c37, c38, c39, c40, fz⟩ := hc
  have HO := Lib.hid hO
  have HF := Lib.hid hF
  have HTW := Lib.hid (tabs_fr HT.out hg hw hF)
  have hwW : 3 ≤ W.heap.size := Nat.le_trans hw hF.size
  clear hO hF HT
  go_wp2_with fail
  clear c10 c33 c35 c36 c37 c38 c39 c40 fz
  refine (stepC g s nl 1 _ _ _ _ W HO.out (by omega) HTW.out hwW (by omega) n0 (by omega) (by omega) (by omega)).mono ?_
  rintro e w2 ⟨rfl, nl2, m0, m1, hO2, hF2⟩
  rw [(cp_out (s := s) (q := 1) (by omega)).1, (cp_out (s := s) (q := 1) (by omega)).2] at hO2
  have HO2 : Hid (Own w2 g 64 (lxC s nl2 (s.size : Int) (-1) 0 ((s.size : Int) - 0) 0)) := Lib.hid (by rw [hs1]; exact hO2)
  have HF2 := Lib.hid (Fr.trans HF.out hF2)
  clear hO2 hF2 HO HF HTW hwW
  have hc := cells HO2.out
  obtain ⟨c10, c33, c35, c36, c37, c38, c39, c40, fz⟩ := hc
  go_wp2_with fail
  go_end0
  exact ⟨rfl, nl2, by omega, by omega, Own.kind HO2.out 15, HF2.out.set 39 _⟩
set_option maxRecDepth 100000 in
set_option maxHeartbeats 4000000 in
theorem nx36 (g : Nat) (s : ByteArray) (nl : Int) (w : World) (h : Own w g 64 (lxC s nl 1 36 0 0 0)) (n0 : 0 ≤ nl) (n1 : nl ≤ 2) (hs1 : s.size = 1) (hT : Lib.Utf8Tabs 1 2 w) (hg : 3 ≤ g) (hw : 3 ≤ w.heap.size) :
    Calls Tryd.prog 51 #[.pointer (some ⟨g, 0, none⟩)] w (Nxt g s 0 16 w) := by
  have HO := Lib.hid h
  have HT := Lib.hid hT
  have hc := cells h
  clear h hT
  obtain ⟨c10, c33, c35, c36, c37, c38, c39, c40, fz⟩ := hc
  go_enter Tryd.func51, Tryd.ntmps51
  refine wp_block (wp_loop_once (wp_block ?_))
  go_wp2_with fail
  refine (end44 0 0 (by omega) (by omega) (by omega) (by omega) _).mono ?_
  rintro e w1 ⟨rfl, hb1⟩
  rw [Int.add_zero]
  have HO1 := Lib.hid (HO.out.below hb1 HO.out.lt)
  have HF1 : Hid (Fr g w w1) := Lib.hid ⟨hb1.os, hb1.tape, hb1.output, hb1.size, fun k hk _ => hb1.block k hk⟩
  have hc := cells HO1.out
  clear HO hb1 c10 c33 c35 c36 c37 c38 c39 c40 fz
  obtain ⟨c10, c33, c35, c36, c37, c38, c39, c40, fz⟩ := hc
  go_upto_region 1 with fail
  have hO := Own.tok HO1.out 0
  have hF := (((((HF1.out.set 36 (.int .i32 0)).set 37 (.int .i32 0)).set 38 (.int .u16 0)).set 39 (.int .u8 0)).set 40 (.int .u8 0))
  clear HO1 HF1 c10 c33 c35 c36 c37 c38 c39 c40 fz
  generalize World.setCell _ _ _ = W at hO hF ⊢
  have hc := cells hO
  obtain ⟨c10, c33, c35, c36, c37, c38, c39, c40, fz⟩ := hc
  have HO := Lib.hid hO
  have HF := Lib.hid hF
  have HTW := Lib.hid (tabs_fr HT.out hg hw hF)
  have hwW : 3 ≤ W.heap.size := Nat.le_trans hw hF.size
  clear hO hF HT
  go_wp2_with fail
  clear c10 c33 c35 c36 c37 c38 c39 c40 fz
  refine (stepC g s nl 1 _ _ _ _ W HO.out (by omega) HTW.out hwW (by omega) n0 (by omega) (by omega) (by omega)).mono ?_
  rintro e w2 ⟨rfl, nl2, m0, m1, hO2, hF2⟩
  rw [(cp_out (s := s) (q := 1) (by omega)).1, (cp_out (s := s) (q := 1) (by omega)).2] at hO2
  have HO2 : Hid (Own w2 g 64 (lxC s nl2 (s.size : Int) (-1) 0 ((s.size : Int) - 0) 0)) := Lib.hid (by rw [hs1]; exact hO2)
  have HF2 := Lib.hid (Fr.trans HF.out hF2)
  clear hO2 hF2 HO HF HTW hwW
  have hc := cells HO2.out
  obtain ⟨c10, c33, c35, c36, c37, c38, c39, c40, fz⟩ := hc
  go_wp2_with fail
  go_end0
  exact ⟨rfl, nl2, by omega, by omega, Own.kind HO2.out 16, HF2.out.set 39 _⟩
set_option maxRecDepth 100000 in
set_option maxHeartbeats 4000000 in
theorem nx46 (g : Nat) (s : ByteArray) (nl : Int) (w : World) (h : Own w g 64 (lxC s nl 1 46 0 0 0)) (n0 : 0 ≤ nl) (n1 : nl ≤ 2) (hs1 : s.size = 1) (hT : Lib.Utf8Tabs 1 2 w) (hg : 3 ≤ g) (hw : 3 ≤ w.heap.size) :
    Calls Tryd.prog 51 #[.pointer (some ⟨g, 0, none⟩)] w (Nxt g s 0 17 w) := by
  have HO := Lib.hid h
  have HT := Lib.hid hT
  have hc := cells h
  clear h hT
  obtain ⟨c10, c33, c35, c36, c37, c38, c39, c40, fz⟩ := hc
  go_enter Tryd.func51, Tryd.ntmps51
  refine wp_block (wp_loop_once (wp_block ?_))
  go_wp2_with fail
  refine (end44 0 0 (by omega) (by omega) (by omega) (by omega) _).mono ?_
  rintro e w1 ⟨rfl, hb1⟩
  rw [Int.add_zero]
  have HO1 := Lib.hid (HO.out.below hb1 HO.out.lt)
  have HF1 : Hid (Fr g w w1) := Lib.hid ⟨hb1.os, hb1.tape, hb1.output, hb1.size, fun k hk _ => hb1.block k hk⟩
  have hc := cells HO1.out
  clear HO hb1 c10 c33 c35 c36 c37 c38 c39 c40 fz
  obtain ⟨c10, c33, c35, c36, c37, c38, c39, c40, fz⟩ := hc
  go_upto_region 1 with fail
  have hO := Own.tok HO1.out 0
  have hF := (((((HF1.out.set 36 (.int .i32 0)).set 37 (.int .i32 0)).set 38 (.int .u16 0)).set 39 (.int .u8 0)).set 40 (.int .u8 0))
  clear HO1 HF1 c10 c33 c35 c36 c37 c38 c39 c40 fz
  generalize World.setCell _ _ _ = W at hO hF ⊢
  have hc := cells hO
  obtain ⟨c10, c33, c35, c36, c37, c38, c39, c40, fz⟩ := hc
  have HO := Lib.hid hO
  have HF := Lib.hid hF
  have HTW := Lib.hid (tabs_fr HT.out hg hw hF)
  have hwW : 3 ≤ W.heap.size := Nat.le_trans hw hF.size
  clear hO hF HT
  go_wp2_with fail
  refine (num70 46 g s W rfl hs1 c10 c33 c35).mono ?_
  rintro e w9 ⟨rfl, rfl⟩
  go_wp2_with fail
  clear c10 c33 c35 c36 c37 c38 c39 c40 fz
  refine (stepC g s nl 1 _ _ _ _ W HO.out (by omega) HTW.out hwW (by omega) n0 (by omega) (by omega) (by omega)).mono ?_
  rintro e w2 ⟨rfl, nl2, m0, m1, hO2, hF2⟩
  rw [(cp_out (s := s) (q := 1) (by omega)).1, (cp_out (s := s) (q := 1) (by omega)).2] at hO2
  have HO2 : Hid (Own w2 g 64 (lxC s nl2 (s.size : Int) (-1) 0 ((s.size : Int) - 0) 0)) := Lib.hid (by rw [hs1]; exact hO2)
  have HF2 := Lib.hid (Fr.trans HF.out hF2)
  clear hO2 hF2 HO HF HTW hwW
  have hc := cells HO2.out
  obtain ⟨c10, c33, c35, c36, c37, c38, c39, c40, fz⟩ := hc
  go_wp2_with fail
  go_end0
  exact ⟨rfl, nl2, by omega, by omega, Own.kind HO2.out 17, HF2.out.set 39 _⟩
set_option maxRecDepth 100000 in
set_option maxHeartbeats 4000000 in
theorem nx61 (g : Nat) (s : ByteArray) (nl : Int) (w : World) (h : Own w g 64 (lxC s nl 1 61 0 0 0)) (n0 : 0 ≤ nl) (n1 : nl ≤ 2) (hs1 : s.size = 1) (hT : Lib.Utf8Tabs 1 2 w) (hg : 3 ≤ g) (hw : 3 ≤ w.heap.size) :
    Calls Tryd.prog 51 #[.pointer (some ⟨g, 0, none⟩)] w (Nxt g s 0 18 w) := by
  have HO := Lib.hid h
  have HT := Lib.hid hT
  have hc := cells h
  clear h hT
  obtain ⟨c10, c33, c35, c36, c37, c38, c39, c40, fz⟩ := hc
  go_enter Tryd.func51, Tryd.ntmps51
  refine wp_block (wp_loop_once (wp_block ?_))
  go_wp2_with fail
  refine (end44 0 0 (by omega) (by omega) (by omega) (by omega) _).mono ?_
  rintro e w1 ⟨rfl, hb1⟩
  rw [Int.add_zero]
  have HO1 := Lib.hid (HO.out.below hb1 HO.out.lt)
  have HF1 : Hid (Fr g w w1) := Lib.hid ⟨hb1.os, hb1.tape, hb1.output, hb1.size, fun k hk _ => hb1.block k hk⟩
  have hc := cells HO1.out
  clear HO hb1 c10 c33 c35 c36 c37 c38 c39 c40 fz
  obtain ⟨c10, c33, c35, c36, c37, c38, c39, c40, fz⟩ := hc
  go_upto_region 1 with fail
  have hO := Own.tok HO1.out 0
  have hF := (((((HF1.out.set 36 (.int .i32 0)).set 37 (.int .i32 0)).set 38 (.int .u16 0)).set 39 (.int .u8 0)).set 40 (.int .u8 0))
  clear HO1 HF1 c10 c33 c35 c36 c37 c38 c39 c40 fz
  generalize World.setCell _ _ _ = W at hO hF ⊢
  have hc := cells hO
  obtain ⟨c10, c33, c35, c36, c37, c38, c39, c40, fz⟩ := hc
  have HO := Lib.hid hO
  have HF := Lib.hid hF
  have HTW := Lib.hid (tabs_fr HT.out hg hw hF)
  have hwW : 3 ≤ W.heap.size := Nat.le_trans hw hF.size
  clear hO hF HT
  go_wp2_with fail
  clear c10 c33 c35 c36 c37 c38 c39 c40 fz
  refine (stepC g s nl 1 _ _ _ _ W HO.out (by omega) HTW.out hwW (by omega) n0 (by omega) (by omega) (by omega)).mono ?_
  rintro e w2 ⟨rfl, nl2, m0, m1, hO2, hF2⟩
  rw [(cp_out (s := s) (q := 1) (by omega)).1, (cp_out (s := s) (q := 1) (by omega)).2] at hO2
  have HO2 : Hid (Own w2 g 64 (lxC s nl2 (s.size : Int) (-1) 0 ((s.size : Int) - 0) 0)) := Lib.hid (by rw [hs1]; exact hO2)
  have HF2 := Lib.hid (Fr.trans HF.out hF2)
  clear hO2 hF2 HO HF HTW hwW
  have hc := cells HO2.out
  obtain ⟨c10, c33, c35, c36, c37, c38, c39, c40, fz⟩ := hc
  go_wp2_with fail
  go_end0
  exact ⟨rfl, nl2, by omega, by omega, Own.kind HO2.out 18, HF2.out.set 39 _⟩
set_option maxRecDepth 100000 in
set_option maxHeartbeats 4000000 in
theorem nx33 (g : Nat) (s : ByteArray) (nl : Int) (w : World) (h : Own w g 64 (lxC s nl 1 33 0 0 0)) (n0 : 0 ≤ nl) (n1 : nl ≤ 2) (hs1 : s.size = 1) (hT : Lib.Utf8Tabs 1 2 w) (hg : 3 ≤ g) (hw : 3 ≤ w.heap.size) :
    Calls Tryd.prog 51 #[.pointer (some ⟨g, 0, none⟩)] w (Nxt g s 0 19 w) := by
  have HO := Lib.hid h
  have HT := Lib.hid hT
  have hc := cells h
  clear h hT
  obtain ⟨c10, c33, c35, c36, c37, c38, c39, c40, fz⟩ := hc
  go_enter Tryd.func51, Tryd.ntmps51
  refine wp_block (wp_loop_once (wp_block ?_))
  go_wp2_with fail
  refine (end44 0 0 (by omega) (by omega) (by omega) (by omega) _).mono ?_
  rintro e w1 ⟨rfl, hb1⟩
  rw [Int.add_zero]
  have HO1 := Lib.hid (HO.out.below hb1 HO.out.lt)
  have HF1 : Hid (Fr g w w1) := Lib.hid ⟨hb1.os, hb1.tape, hb1.output, hb1.size, fun k hk _ => hb1.block k hk⟩
  have hc := cells HO1.out
  clear HO hb1 c10 c33 c35 c36 c37 c38 c39 c40 fz
  obtain ⟨c10, c33, c35, c36, c37, c38, c39, c40, fz⟩ := hc
  go_upto_region 1 with fail
  have hO := Own.tok HO1.out 0
  have hF := (((((HF1.out.set 36 (.int .i32 0)).set 37 (.int .i32 0)).set 38 (.int .u16 0)).set 39 (.int .u8 0)).set 40 (.int .u8 0))
  clear HO1 HF1 c10 c33 c35 c36 c37 c38 c39 c40 fz
  generalize World.setCell _ _ _ = W at hO hF ⊢
  have hc := cells hO
  obtain ⟨c10, c33, c35, c36, c37, c38, c39, c40, fz⟩ := hc
  have HO := Lib.hid hO
  have HF := Lib.hid hF
  have HTW := Lib.hid (tabs_fr HT.out hg hw hF)
  have hwW : 3 ≤ W.heap.size := Nat.le_trans hw hF.size
  clear hO hF HT
  go_wp2_with fail
  clear c10 c33 c35 c36 c37 c38 c39 c40 fz
  refine (stepC g s nl 1 _ _ _ _ W HO.out (by omega) HTW.out hwW (by omega) n0 (by omega) (by omega) (by omega)).mono ?_
  rintro e w2 ⟨rfl, nl2, m0, m1, hO2, hF2⟩
  rw [(cp_out (s := s) (q := 1) (by omega)).1, (cp_out (s := s) (q := 1) (by omega)).2] at hO2
  have HO2 : Hid (Own w2 g 64 (lxC s nl2 (s.size : Int) (-1) 0 ((s.size : Int) - 0) 0)) := Lib.hid (by rw [hs1]; exact hO2)
  have HF2 := Lib.hid (Fr.trans HF.out hF2)
  clear hO2 hF2 HO HF HTW hwW
  have hc := cells HO2.out
  obtain ⟨c10, c33, c35, c36, c37, c38, c39, c40, fz⟩ := hc
  go_wp2_with fail
  go_end0
  exact ⟨rfl, nl2, by omega, by omega, Own.kind HO2.out 19, HF2.out.set 39 _⟩
set_option maxRecDepth 100000 in
set_option maxHeartbeats 4000000 in
theorem nx62 (g : Nat) (s : ByteArray) (nl : Int) (w : World) (h : Own w g 64 (lxC s nl 1 62 0 0 0)) (n0 : 0 ≤ nl) (n1 : nl ≤ 2) (hs1 : s.size = 1) (hT : Lib.Utf8Tabs 1 2 w) (hg : 3 ≤ g) (hw : 3 ≤ w.heap.size) :
    Calls Tryd.prog 51 #[.pointer (some ⟨g, 0, none⟩)] w (Nxt g s 0 20 w) := by
  have HO := Lib.hid h
  have HT := Lib.hid hT
  have hc := cells h
  clear h hT
  obtain ⟨c10, c33, c35, c36, c37, c38, c39, c40, fz⟩ := hc
  go_enter Tryd.func51, Tryd.ntmps51
  refine wp_block (wp_loop_once (wp_block ?_))
  go_wp2_with fail
  refine (end44 0 0 (by omega) (by omega) (by omega) (by omega) _).mono ?_
  rintro e w1 ⟨rfl, hb1⟩
  rw [Int.add_zero]
  have HO1 := Lib.hid (HO.out.below hb1 HO.out.lt)
  have HF1 : Hid (Fr g w w1) := Lib.hid ⟨hb1.os, hb1.tape, hb1.output, hb1.size, fun k hk _ => hb1.block k hk⟩
  have hc := cells HO1.out
  clear HO hb1 c10 c33 c35 c36 c37 c38 c39 c40 fz
  obtain ⟨c10, c33, c35, c36, c37, c38, c39, c40, fz⟩ := hc
  go_upto_region 1 with fail
  have hO := Own.tok HO1.out 0
  have hF := (((((HF1.out.set 36 (.int .i32 0)).set 37 (.int .i32 0)).set 38 (.int .u16 0)).set 39 (.int .u8 0)).set 40 (.int .u8 0))
  clear HO1 HF1 c10 c33 c35 c36 c37 c38 c39 c40 fz
  generalize World.setCell _ _ _ = W at hO hF ⊢
  have hc := cells hO
  obtain ⟨c10, c33, c35, c36, c37, c38, c39, c40, fz⟩ := hc
  have HO := Lib.hid hO
  have HF := Lib.hid hF
  have HTW := Lib.hid (tabs_fr HT.out hg hw hF)
  have hwW : 3 ≤ W.heap.size := Nat.le_trans hw hF.size
  clear hO hF HT
  go_wp2_with fail
  clear c10 c33 c35 c36 c37 c38 c39 c40 fz
  refine (stepC g s nl 1 _ _ _ _ W HO.out (by omega) HTW.out hwW (by omega) n0 (by omega) (by omega) (by omega)).mono ?_
  rintro e w2 ⟨rfl, nl2, m0, m1, hO2, hF2⟩
  rw [(cp_out (s := s) (q := 1) (by omega)).1, (cp_out (s := s) (q := 1) (by omega)).2] at hO2
  have HO2 : Hid (Own w2 g 64 (lxC s nl2 (s.size : Int) (-1) 0 ((s.size : Int) - 0) 0)) := Lib.hid (by rw [hs1]; exact hO2)
  have HF2 := Lib.hid (Fr.trans HF.out hF2)
  clear hO2 hF2 HO HF HTW hwW
  have hc := cells HO2.out
  obtain ⟨c10, c33, c35, c36, c37, c38, c39, c40, fz⟩ := hc
  go_wp2_with fail
  go_end0
  exact ⟨rfl, nl2, by omega, by omega, Own.kind HO2.out 20, HF2.out.set 39 _⟩
set_option maxRecDepth 100000 in
set_option maxHeartbeats 4000000 in
theorem nx43 (g : Nat) (s : ByteArray) (nl : Int) (w : World) (h : Own w g 64 (lxC s nl 1 43 0 0 0)) (n0 : 0 ≤ nl) (n1 : nl ≤ 2) (hs1 : s.size = 1) (hT : Lib.Utf8Tabs 1 2 w) (hg : 3 ≤ g) (hw : 3 ≤ w.heap.size) :
    Calls Tryd.prog 51 #[.pointer (some ⟨g, 0, none⟩)] w (Nxt g s 0 23 w) := by
  have HO := Lib.hid h
  have HT := Lib.hid hT
  have hc := cells h
  clear h hT
  obtain ⟨c10, c33, c35, c36, c37, c38, c39, c40, fz⟩ := hc
  go_enter Tryd.func51, Tryd.ntmps51
  refine wp_block (wp_loop_once (wp_block ?_))
  go_wp2_with fail
  refine (end44 0 0 (by omega) (by omega) (by omega) (by omega) _).mono ?_
  rintro e w1 ⟨rfl, hb1⟩
  rw [Int.add_zero]
  have HO1 := Lib.hid (HO.out.below hb1 HO.out.lt)
  have HF1 : Hid (Fr g w w1) := Lib.hid ⟨hb1.os, hb1.tape, hb1.output, hb1.size, fun k hk _ => hb1.block k hk⟩
  have hc := cells HO1.out
  clear HO hb1 c10 c33 c35 c36 c37 c38 c39 c40 fz
  obtain ⟨c10, c33, c35, c36, c37, c38, c39, c40, fz⟩ := hc
  go_upto_region 1 with fail
  have hO := Own.tok HO1.out 0
  have hF := (((((HF1.out.set 36 (.int .i32 0)).set 37 (.int .i32 0)).set 38 (.int .u16 0)).set 39 (.int .u8 0)).set 40 (.int .u8 0))
  clear HO1 HF1 c10 c33 c35 c36 c37 c38 c39 c40 fz
  generalize World.setCell _ _ _ = W at hO hF ⊢
  have hc := cells hO
  obtain ⟨c10, c33, c35, c36, c37, c38, c39, c40, fz⟩ := hc
  have HO := Lib.hid hO
  have HF := Lib.hid hF
  have HTW := Lib.hid (tabs_fr HT.out hg hw hF)
  have hwW : 3 ≤ W.heap.size := Nat.le_trans hw hF.size
  clear hO hF HT
  go_wp2_with fail
  refine (num70 43 g s W rfl hs1 c10 c33 c35).mono ?_
  rintro e w9 ⟨rfl, rfl⟩
  go_wp2_with fail
  clear c10 c33 c35 c36 c37 c38 c39 c40 fz
  refine (stepC g s nl 1 _ _ _ _ W HO.out (by omega) HTW.out hwW (by omega) n0 (by omega) (by omega) (by omega)).mono ?_
  rintro e w2 ⟨rfl, nl2, m0, m1, hO2, hF2⟩
  rw [(cp_out (s := s) (q := 1) (by omega)).1, (cp_out (s := s) (q := 1) (by omega)).2] at hO2
  have HO2 : Hid (Own w2 g 64 (lxC s nl2 (s.size : Int) (-1) 0 ((s.size : Int) - 0) 0)) := Lib.hid (by rw [hs1]; exact hO2)
  have HF2 := Lib.hid (Fr.trans HF.out hF2)
  clear hO2 hF2 HO HF HTW hwW
  have hc := cells HO2.out
  obtain ⟨c10, c33, c35, c36, c37, c38, c39, c40, fz⟩ := hc
  go_wp2_with fail
  go_end0
  exact ⟨rfl, nl2, by omega, by omega, Own.kind HO2.out 23, HF2.out.set 39 _⟩
set_option maxRecDepth 100000 in
set_option maxHeartbeats 4000000 in
theorem nx126 (g : Nat) (s : ByteArray) (nl : Int) (w : World) (h : Own w g 64 (lxC s nl 1 126 0 0 0)) (n0 : 0 ≤ nl) (n1 : nl ≤ 2) (hs1 : s.size = 1) (hT : Lib.Utf8Tabs 1 2 w) (hg : 3 ≤ g) (hw : 3 ≤ w.heap.size) :
    Calls Tryd.prog 51 #[.pointer (some ⟨g, 0, none⟩)] w (Nxt g s 0 25 w) := by
  have HO := Lib.hid h
  have HT := Lib.hid hT
  have hc := cells h
  clear h hT
  obtain ⟨c10, c33, c35, c36, c37, c38, c39, c40, fz⟩ := hc
  go_enter Tryd.func51, Tryd.ntmps51
  refine wp_block (wp_loop_once (wp_block ?_))
  go_wp2_with fail
  refine (end44 0 0 (by omega) (by omega) (by omega) (by omega) _).mono ?_
  rintro e w1 ⟨rfl, hb1⟩
  rw [Int.add_zero]
  have HO1 := Lib.hid (HO.out.below hb1 HO.out.lt)
  have HF1 : Hid (Fr g w w1) := Lib.hid ⟨hb1.os, hb1.tape, hb1.output, hb1.size, fun k hk _ => hb1.block k hk⟩
  have hc := cells HO1.out
  clear HO hb1 c10 c33 c35 c36 c37 c38 c39 c40 fz
  obtain ⟨c10, c33, c35, c36, c37, c38, c39, c40, fz⟩ := hc
  go_upto_region 1 with fail
  have hO := Own.tok HO1.out 0
  have hF := (((((HF1.out.set 36 (.int .i32 0)).set 37 (.int .i32 0)).set 38 (.int .u16 0)).set 39 (.int .u8 0)).set 40 (.int .u8 0))
  clear HO1 HF1 c10 c33 c35 c36 c37 c38 c39 c40 fz
  generalize World.setCell _ _ _ = W at hO hF ⊢
  have hc := cells hO
  obtain ⟨c10, c33, c35, c36, c37, c38, c39, c40, fz⟩ := hc
  have HO := Lib.hid hO
  have HF := Lib.hid hF
  have HTW := Lib.hid (tabs_fr HT.out hg hw hF)
  have hwW : 3 ≤ W.heap.size := Nat.le_trans hw hF.size
  clear hO hF HT
  go_wp2_with fail
  clear c10 c33 c35 c36 c37 c38 c39 c40 fz
  refine (stepC g s nl 1 _ _ _ _ W HO.out (by omega) HTW.out hwW (by omega) n0 (by omega) (by omega) (by omega)).mono ?_
  rintro e w2 ⟨rfl, nl2, m0, m1, hO2, hF2⟩
  rw [(cp_out (s := s) (q := 1) (by omega)).1, (cp_out (s := s) (q := 1) (by omega)).2] at hO2
  have HO2 : Hid (Own w2 g 64 (lxC s nl2 (s.size : Int) (-1) 0 ((s.size : Int) - 0) 0)) := Lib.hid (by rw [hs1]; exact hO2)
  have HF2 := Lib.hid (Fr.trans HF.out hF2)
  clear hO2 hF2 HO HF HTW hwW
  have hc := cells HO2.out
  obtain ⟨c10, c33, c35, c36, c37, c38, c39, c40, fz⟩ := hc
  go_wp2_with fail
  go_end0
  exact ⟨rfl, nl2, by omega, by omega, Own.kind HO2.out 25, HF2.out.set 39 _⟩
set_option maxRecDepth 100000 in
set_option maxHeartbeats 4000000 in
theorem nx123 (g : Nat) (s : ByteArray) (nl : Int) (w : World) (h : Own w g 64 (lxC s nl 1 123 0 0 0)) (n0 : 0 ≤ nl) (n1 : nl ≤ 2) (hs1 : s.size = 1) (hT : Lib.Utf8Tabs 1 2 w) (hg : 3 ≤ g) (hw : 3 ≤ w.heap.size) :
    Calls Tryd.prog 51 #[.pointer (some ⟨g, 0, none⟩)] w (Nxt g s 0 31 w) := by
  have HO := Lib.hid h
  have HT := Lib.hid hT
  have hc := cells h
  clear h hT
  obtain ⟨c10, c33, c35, c36, c37, c38, c39, c40, fz⟩ := hc
  go_enter Tryd.func51, Tryd.ntmps51
  refine wp_block (wp_loop_once (wp_block ?_))
  go_wp2_with fail
  refine (end44 0 0 (by omega) (by omega) (by omega) (by omega) _).mono ?_
  rintro e w1 ⟨rfl, hb1⟩
  rw [Int.add_zero]
  have HO1 := Lib.hid (HO.out.below hb1 HO.out.lt)
  have HF1 : Hid (Fr g w w1) := Lib.hid ⟨hb1.os, hb1.tape, hb1.output, hb1.size, fun k hk _ => hb1.block k hk⟩
  have hc := cells HO1.out
  clear HO hb1 c10 c33 c35 c36 c37 c38 c39 c40 fz
  obtain ⟨c10, c33, c35, c36, c37, c38, c39, c40, fz⟩ := hc
  go_upto_region 1 with fail
  have hO := Own.tok HO1.out 0
  have hF := (((((HF1.out.set 36 (.int .i32 0)).set 37 (.int .i32 0)).set 38 (.int .u16 0)).set 39 (.int .u8 0)).set 40 (.int .u8 0))
  clear HO1 HF1 c10 c33 c35 c36 c37 c38 c39 c40 fz
  generalize World.setCell _ _ _ = W at hO hF ⊢
  have hc := cells hO
  obtain ⟨c10, c33, c35, c36, c37, c38, c39, c40, fz⟩ := hc
  have HO := Lib.hid hO
  have HF := Lib.hid hF
  have HTW := Lib.hid (tabs_fr HT.out hg hw hF)
  have hwW : 3 ≤ W.heap.size := Nat.le_trans hw hF.size
  clear hO hF HT
  go_wp2_with fail
  clear c10 c33 c35 c36 c37 c38 c39 c40 fz
  refine (stepC g s nl 1 _ _ _ _ W HO.out (by omega) HTW.out hwW (by omega) n0 (by omega) (by omega) (by omega)).mono ?_
  rintro e w2 ⟨rfl, nl2, m0, m1, hO2, hF2⟩
  rw [(cp_out (s := s) (q := 1) (by omega)).1, (cp_out (s := s) (q := 1) (by omega)).2] at hO2
  have HO2 : Hid (Own w2 g 64 (lxC s nl2 (s.size : Int) (-1) 0 ((s.size : Int) - 0) 0)) := Lib.hid (by rw [hs1]; exact hO2)
  have HF2 := Lib.hid (Fr.trans HF.out hF2)
  clear hO2 hF2 HO HF HTW hwW
  have hc := cells HO2.out
  obtain ⟨c10, c33, c35, c36, c37, c38, c39, c40, fz⟩ := hc
  go_wp2_with fail
  go_end0
  exact ⟨rfl, nl2, by omega, by omega, Own.kind HO2.out 31, HF2.out.set 39 _⟩
set_option maxRecDepth 100000 in
set_option maxHeartbeats 4000000 in
theorem nx91 (g : Nat) (s : ByteArray) (nl : Int) (w : World) (h : Own w g 64 (lxC s nl 1 91 0 0 0)) (n0 : 0 ≤ nl) (n1 : nl ≤ 2) (hs1 : s.size = 1) (hT : Lib.Utf8Tabs 1 2 w) (hg : 3 ≤ g) (hw : 3 ≤ w.heap.size) :
    Calls Tryd.prog 51 #[.pointer (some ⟨g, 0, none⟩)] w (Nxt g s 0 32 w) := by
  have HO := Lib.hid h
  have HT := Lib.hid hT
  have hc := cells h
  clear h hT
  obtain ⟨c10, c33, c35, c36, c37, c38, c39, c40, fz⟩ := hc
  go_enter Tryd.func51, Tryd.ntmps51
  refine wp_block (wp_loop_once (wp_block ?_))
  go_wp2_with fail
  refine (end44 0 0 (by omega) (by omega) (by omega) (by omega) _).mono ?_
  rintro e w1 ⟨rfl, hb1⟩
  rw [Int.add_zero]
  have HO1 := Lib.hid (HO.out.below hb1 HO.out.lt)
  have HF1 : Hid (Fr g w w1) := Lib.hid ⟨hb1.os, hb1.tape, hb1.output, hb1.size, fun k hk _ => hb1.block k hk⟩
  have hc := cells HO1.out
  clear HO hb1 c10 c33 c35 c36 c37 c38 c39 c40 fz
  obtain ⟨c10, c33, c35, c36, c37, c38, c39, c40, fz⟩ := hc
  go_upto_region 1 with fail
  have hO := Own.tok HO1.out 0
  have hF := (((((HF1.out.set 36 (.int .i32 0)).set 37 (.int .i32 0)).set 38 (.int .u16 0)).set 39 (.int .u8 0)).set 40 (.int .u8 0))
  clear HO1 HF1 c10 c33 c35 c36 c37 c38 c39 c40 fz
  generalize World.setCell _ _ _ = W at hO hF ⊢
  have hc := cells hO
  obtain ⟨c10, c33, c35, c36, c37, c38, c39, c40, fz⟩ := hc
  have HO := Lib.hid hO
  have HF := Lib.hid hF
  have HTW := Lib.hid (tabs_fr HT.out hg hw hF)
  have hwW : 3 ≤ W.heap.size := Nat.le_trans hw hF.size
  clear hO hF HT
  go_wp2_with fail
  clear c10 c33 c35 c36 c37 c38 c39 c40 fz
  refine (stepC g s nl 1 _ _ _ _ W HO.out (by omega) HTW.out hwW (by omega) n0 (by omega) (by omega) (by omega)).mono ?_
  rintro e w2 ⟨rfl, nl2, m0, m1, hO2, hF2⟩
  rw [(cp_out (s := s) (q := 1) (by omega)).1, (cp_out (s := s) (q := 1) (by omega)).2] at hO2
  have HO2 : Hid (Own w2 g 64 (lxC s nl2 (s.size : Int) (-1) 0 ((s.size : Int) - 0) 0)) := Lib.hid (by rw [hs1]; exact hO2)
  have HF2 := Lib.hid (Fr.trans HF.out hF2)
  clear hO2 hF2 HO HF HTW hwW
  have hc := cells HO2.out
  obtain ⟨c10, c33, c35, c36, c37, c38, c39, c40, fz⟩ := hc
  go_wp2_with fail
  go_end0
  exact ⟨rfl, nl2, by omega, by omega, Own.kind HO2.out 32, HF2.out.set 39 _⟩
set_option maxRecDepth 100000 in
set_option maxHeartbeats 4000000 in
theorem nx40 (g : Nat) (s : ByteArray) (nl : Int) (w : World) (h : Own w g 64 (lxC s nl 1 40 0 0 0)) (n0 : 0 ≤ nl) (n1 : nl ≤ 2) (hs1 : s.size = 1) (hT : Lib.Utf8Tabs 1 2 w) (hg : 3 ≤ g) (hw : 3 ≤ w.heap.size) :
    Calls Tryd.prog 51 #[.pointer (some ⟨g, 0, none⟩)] w (Nxt g s 0 33 w) := by
  have HO := Lib.hid h
  have HT := Lib.hid hT
  have hc := cells h
  clear h hT
  obtain ⟨c10, c33, c35, c36, c37, c38, c39, c40, fz⟩ := hc
  go_enter Tryd.func51, Tryd.ntmps51
  refine wp_block (wp_loop_once (wp_block ?_))
  go_wp2_with fail
  refine (end44 0 0 (by omega) (by omega) (by omega) (by omega) _).mono ?_
  rintro e w1 ⟨rfl, hb1⟩
  rw [Int.add_zero]
  have HO1 := Lib.hid (HO.out.below hb1 HO.out.lt)
  have HF1 : Hid (Fr g w w1) := Lib.hid ⟨hb1.os, hb1.tape, hb1.output, hb1.size, fun k hk _ => hb1.block k hk⟩
  have hc := cells HO1.out
  clear HO hb1 c10 c33 c35 c36 c37 c38 c39 c40 fz
  obtain ⟨c10, c33, c35, c36, c37, c38, c39, c40, fz⟩ := hc
  go_upto_region 1 with fail
  have hO := Own.tok HO1.out 0
  have hF := (((((HF1.out.set 36 (.int .i32 0)).set 37 (.int .i32 0)).set 38 (.int .u16 0)).set 39 (.int .u8 0)).set 40 (.int .u8 0))
  clear HO1 HF1 c10 c33 c35 c36 c37 c38 c39 c40 fz
  generalize World.setCell _ _ _ = W at hO hF ⊢
  have hc := cells hO
  obtain ⟨c10, c33, c35, c36, c37, c38, c39, c40, fz⟩ := hc
  have HO := Lib.hid hO
  have HF := Lib.hid hF
  have HTW := Lib.hid (tabs_fr HT.out hg hw hF)
  have hwW : 3 ≤ W.heap.size := Nat.le_trans hw hF.size
  clear hO hF HT
  go_wp2_with fail
  clear c10 c33 c35 c36 c37 c38 c39 c40 fz
  refine (stepC g s nl 1 _ _ _ _ W HO.out (by omega) HTW.out hwW (by omega) n0 (by omega) (by omega) (by omega)).mono ?_
  rintro e w2 ⟨rfl, nl2, m0, m1, hO2, hF2⟩
  rw [(cp_out (s := s) (q := 1) (by omega)).1, (cp_out (s := s) (q := 1) (by omega)).2] at hO2
  have HO2 : Hid (Own w2 g 64 (lxC s nl2 (s.size : Int) (-1) 0 ((s.size : Int) - 0) 0)) := Lib.hid (by rw [hs1]; exact hO2)
  have HF2 := Lib.hid (Fr.trans HF.out hF2)
  clear hO2 hF2 HO HF HTW hwW
  have hc := cells HO2.out
  obtain ⟨c10, c33, c35, c36, c37, c38, c39, c40, fz⟩ := hc
  go_wp2_with fail
  go_end0
  exact ⟨rfl, nl2, by omega, by omega, Own.kind HO2.out 33, HF2.out.set 39 _⟩
set_option maxRecDepth 100000 in
set_option maxHeartbeats 4000000 in
theorem nx59 (g : Nat) (s : ByteArray) (nl : Int) (w : World) (h : Own w g 64 (lxC s nl 1 59 0 0 0)) (n0 : 0 ≤ nl) (n1 : nl ≤ 2) (hs1 : s.size = 1) (hT : Lib.Utf8Tabs 1 2 w) (hg : 3 ≤ g) (hw : 3 ≤ w.heap.size) :
    Calls Tryd.prog 51 #[.pointer (some ⟨g, 0, none⟩)] w (Nxt g s 0 35 w) := by
  have HO := Lib.hid h
  have HT := Lib.hid hT
  have hc := cells h
  clear h hT
  obtain ⟨c10, c33, c35, c36, c37, c38, c39, c40, fz⟩ := hc
  go_enter Tryd.func51, Tryd.ntmps51
  refine wp_block (wp_loop_once (wp_block ?_))
  go_wp2_with fail
  refine (end44 0 0 (by omega) (by omega) (by omega) (by omega) _).mono ?_
  rintro e w1 ⟨rfl, hb1⟩
  rw [Int.add_zero]
  have HO1 := Lib.hid (HO.out.below hb1 HO.out.lt)
  have HF1 : Hid (Fr g w w1) := Lib.hid ⟨hb1.os, hb1.tape, hb1.output, hb1.size, fun k hk _ => hb1.block k hk⟩
  have hc := cells HO1.out
  clear HO hb1 c10 c33 c35 c36 c37 c38 c39 c40 fz
  obtain ⟨c10, c33, c35, c36, c37, c38, c39, c40, fz⟩ := hc
  go_upto_region 1 with fail
  have hO := Own.tok HO1.out 0
  have hF := (((((HF1.out.set 36 (.int .i32 0)).set 37 (.int .i32 0)).set 38 (.int .u16 0)).set 39 (.int .u8 0)).set 40 (.int .u8 0))
  clear HO1 HF1 c10 c33 c35 c36 c37 c38 c39 c40 fz
  generalize World.setCell _ _ _ = W at hO hF ⊢
  have hc := cells hO
  obtain ⟨c10, c33, c35, c36, c37, c38, c39, c40, fz⟩ := hc
  have HO := Lib.hid hO
  have HF := Lib.hid hF
  have HTW := Lib.hid (tabs_fr HT.out hg hw hF)
  have hwW : 3 ≤ W.heap.size := Nat.le_trans hw hF.size
  clear hO hF HT
  go_wp2_with fail
  clear c10 c33 c35 c36 c37 c38 c39 c40 fz
  refine (stepC g s nl 1 _ _ _ _ W HO.out (by omega) HTW.out hwW (by omega) n0 (by omega) (by omega) (by omega)).mono ?_
  rintro e w2 ⟨rfl, nl2, m0, m1, hO2, hF2⟩
  rw [(cp_out (s := s) (q := 1) (by omega)).1, (cp_out (s := s) (q := 1) (by omega)).2] at hO2
  have HO2 : Hid (Own w2 g 64 (lxC s nl2 (s.size : Int) (-1) 0 ((s.size : Int) - 0) 0)) := Lib.hid (by rw [hs1]; exact hO2)
  have HF2 := Lib.hid (Fr.trans HF.out hF2)
  clear hO2 hF2 HO HF HTW hwW
  have hc := cells HO2.out
  obtain ⟨c10, c33, c35, c36, c37, c38, c39, c40, fz⟩ := hc
  go_wp2_with fail
  go_end0
  exact ⟨rfl, nl2, by omega, by omega, Own.kind HO2.out 35, HF2.out.set 39 _⟩
set_option maxRecDepth 100000 in
set_option maxHeartbeats 4000000 in
theorem nx47 (g : Nat) (s : ByteArray) (nl : Int) (w : World) (h : Own w g 64 (lxC s nl 1 47 0 0 0)) (n0 : 0 ≤ nl) (n1 : nl ≤ 2) (hs1 : s.size = 1) (hT : Lib.Utf8Tabs 1 2 w) (hg : 3 ≤ g) (hw : 3 ≤ w.heap.size) :
    Calls Tryd.prog 51 #[.pointer (some ⟨g, 0, none⟩)] w (Nxt g s 0 24 w) := by
  have HO := Lib.hid h
  have HT := Lib.hid hT
  have hc := cells h
  clear h hT
  obtain ⟨c10, c33, c35, c36, c37, c38, c39, c40, fz⟩ := hc
  go_enter Tryd.func51, Tryd.ntmps51
  refine wp_block (wp_loop_once (wp_block ?_))
  go_wp2_with fail
  refine (end44 0 0 (by omega) (by omega) (by omega) (by omega) _).mono ?_
  rintro e w1 ⟨rfl, hb1⟩
  rw [Int.add_zero]
  have HO1 := Lib.hid (HO.out.below hb1 HO.out.lt)
  have HF1 : Hid (Fr g w w1) := Lib.hid ⟨hb1.os, hb1.tape, hb1.output, hb1.size, fun k hk _ => hb1.block k hk⟩
  have hc := cells HO1.out
  clear HO hb1 c10 c33 c35 c36 c37 c38 c39 c40 fz
  obtain ⟨c10, c33, c35, c36, c37, c38, c39, c40, fz⟩ := hc
  go_upto_region 1 with fail
  have hO := Own.tok HO1.out 0
  have hF := (((((HF1.out.set 36 (.int .i32 0)).set 37 (.int .i32 0)).set 38 (.int .u16 0)).set 39 (.int .u8 0)).set 40 (.int .u8 0))
  clear HO1 HF1 c10 c33 c35 c36 c37 c38 c39 c40 fz
  generalize World.setCell _ _ _ = W at hO hF ⊢
  have hc := cells hO
  obtain ⟨c10, c33, c35, c36, c37, c38, c39, c40, fz⟩ := hc
  have HO := Lib.hid hO
  have HF := Lib.hid hF
  have HTW := Lib.hid (tabs_fr HT.out hg hw hF)
  have hwW : 3 ≤ W.heap.size := Nat.le_trans hw hF.size
  clear hO hF HT
  go_wp2_with fail
  clear c10 c33 c35 c36 c37 c38 c39 c40 fz
  refine (stepC g s nl 1 _ _ _ _ W HO.out (by omega) HTW.out hwW (by omega) n0 (by omega) (by omega) (by omega)).mono ?_
  rintro e w2 ⟨rfl, nl2, m0, m1, hO2, hF2⟩
  rw [(cp_out (s := s) (q := 1) (by omega)).1, (cp_out (s := s) (q := 1) (by omega)).2] at hO2
  have HO2 : Hid (Own w2 g 64 (lxC s nl2 (s.size : Int) (-1) 0 ((s.size : Int) - 0) 0)) := Lib.hid (by rw [hs1]; exact hO2)
  have HF2 := Lib.hid (Fr.trans HF.out hF2)
  clear hO2 hF2 HO HF HTW hwW
  have hc := cells HO2.out
  obtain ⟨c10, c33, c35, c36, c37, c38, c39, c40, fz⟩ := hc
  go_wp2_with fail
  go_end0
  exact ⟨rfl, nl2, by omega, by omega, Own.kind HO2.out 24, HF2.out.set 39 _⟩
set_option maxRecDepth 100000 in
set_option maxHeartbeats 4000000 in
theorem nx60 (g : Nat) (s : ByteArray) (nl : Int) (w : World) (h : Own w g 64 (lxC s nl 1 60 0 0 0)) (n0 : 0 ≤ nl) (n1 : nl ≤ 2) (hs1 : s.size = 1) (hT : Lib.Utf8Tabs 1 2 w) (hg : 3 ≤ g) (hw : 3 ≤ w.heap.size) :
    Calls Tryd.prog 51 #[.pointer (some ⟨g, 0, none⟩)] w (Nxt g s 0 21 w) := by
  have HO := Lib.hid h
  have HT := Lib.hid hT
  have hc := cells h
  clear h hT
  obtain ⟨c10, c33, c35, c36, c37, c38, c39, c40, fz⟩ := hc
  go_enter Tryd.func51, Tryd.ntmps51
  refine wp_block (wp_loop_once (wp_block ?_))
  go_wp2_with fail
  refine (end44 0 0 (by omega) (by omega) (by omega) (by omega) _).mono ?_
  rintro e w1 ⟨rfl, hb1⟩
  rw [Int.add_zero]
  have HO1 := Lib.hid (HO.out.below hb1 HO.out.lt)
  have HF1 : Hid (Fr g w w1) := Lib.hid ⟨hb1.os, hb1.tape, hb1.output, hb1.size, fun k hk _ => hb1.block k hk⟩
  have hc := cells HO1.out
  clear HO hb1 c10 c33 c35 c36 c37 c38 c39 c40 fz
  obtain ⟨c10, c33, c35, c36, c37, c38, c39, c40, fz⟩ := hc
  go_upto_region 1 with fail
  have hO := Own.tok HO1.out 0
  have hF := (((((HF1.out.set 36 (.int .i32 0)).set 37 (.int .i32 0)).set 38 (.int .u16 0)).set 39 (.int .u8 0)).set 40 (.int .u8 0))
  clear HO1 HF1 c10 c33 c35 c36 c37 c38 c39 c40 fz
  generalize World.setCell _ _ _ = W at hO hF ⊢
  have hc := cells hO
  obtain ⟨c10, c33, c35, c36, c37, c38, c39, c40, fz⟩ := hc
  have HO := Lib.hid hO
  have HF := Lib.hid hF
  have HTW := Lib.hid (tabs_fr HT.out hg hw hF)
  have hwW : 3 ≤ W.heap.size := Nat.le_trans hw hF.size
  clear hO hF HT
  go_wp2_with fail
  go_upto_region 100 with fail
  have t4 : decide (4 ≤ (s.size : Int)) = false := decide_eq_false (by omega)
  have t3 : decide (3 ≤ (s.size : Int)) = false := decide_eq_false (by omega)
  go_quiet (fail)
  have hO := HO.out.drewN nq
  have hF : Fr g w (W.drewN nq) := ⟨HF.out.os, HF.out.tape, HF.out.output, HF.out.size, HF.out.block⟩
  have hT : Lib.Utf8Tabs 1 2 (W.drewN nq) := tabs_fr HTW.out hg hwW (g := g) ⟨rfl, rfl, rfl, Nat.le_refl _, fun _ _ _ => rfl⟩
  have hw5 : 3 ≤ (W.drewN nq).heap.size := hwW
  clear HO HF HTW hwW c10 c33 c35 c36 c37 c38 c39 c40 fz
  generalize W.drewN nq = W at *
  have hc := cells hO
  obtain ⟨c10, c33, c35, c36, c37, c38, c39, c40, fz⟩ := hc
  have HO := Lib.hid hO
  have HF := Lib.hid hF
  have HTW := Lib.hid hT
  have hwW := hw5
  clear hO hF hT hw5
  go_wp2_with fail
  clear c10 c33 c35 c36 c37 c38 c39 c40 fz
  refine (stepC g s nl 1 _ _ _ _ W HO.out (by omega) HTW.out hwW (by omega) n0 (by omega) (by omega) (by omega)).mono ?_
  rintro e w2 ⟨rfl, nl2, m0, m1, hO2, hF2⟩
  rw [(cp_out (s := s) (q := 1) (by omega)).1, (cp_out (s := s) (q := 1) (by omega)).2] at hO2
  have HO2 : Hid (Own w2 g 64 (lxC s nl2 (s.size : Int) (-1) 0 ((s.size : Int) - 0) 0)) := Lib.hid (by rw [hs1]; exact hO2)
  have HF2 := Lib.hid (Fr.trans HF.out hF2)
  clear hO2 hF2 HO HF HTW hwW
  have hc := cells HO2.out
  obtain ⟨c10, c33, c35, c36, c37, c38, c39, c40, fz⟩ := hc
  go_wp2_with fail
  go_end0
  exact ⟨rfl, nl2, by omega, by omega, Own.kind HO2.out 21, HF2.out.set 39 _⟩
set_option maxRecDepth 100000 in
set_option maxHeartbeats 4000000 in
theorem nx45 (g : Nat) (s : ByteArray) (nl : Int) (w : World) (h : Own w g 64 (lxC s nl 1 45 0 0 0)) (n0 : 0 ≤ nl) (n1 : nl ≤ 2) (hs1 : s.size = 1) (hT : Lib.Utf8Tabs 1 2 w) (hg : 3 ≤ g) (hw : 3 ≤ w.heap.size) :
    Calls Tryd.prog 51 #[.pointer (some ⟨g, 0, none⟩)] w (Nxt g s 0 22 w) := by
  have HO := Lib.hid h
  have HT := Lib.hid hT
  have hc := cells h
  clear h hT
  obtain ⟨c10, c33, c35, c36, c37, c38, c39, c40, fz⟩ := hc
  go_enter Tryd.func51, Tryd.ntmps51
  refine wp_block (wp_loop_once (wp_block ?_))
  go_wp2_with fail
  refine (end44 0 0 (by omega) (by omega) (by omega) (by omega) _).mono ?_
  rintro e w1 ⟨rfl, hb1⟩
  rw [Int.add_zero]
  have HO1 := Lib.hid (HO.out.below hb1 HO.out.lt)
  have HF1 : Hid (Fr g w w1) := Lib.hid ⟨hb1.os, hb1.tape, hb1.output, hb1.size, fun k hk _ => hb1.block k hk⟩
  have hc := cells HO1.out
  clear HO hb1 c10 c33 c35 c36 c37 c38 c39 c40 fz
  obtain ⟨c10, c33, c35, c36, c37, c38, c39, c40, fz⟩ := hc
  go_upto_region 1 with fail
  have hO := Own.tok HO1.out 0
  have hF := (((((HF1.out.set 36 (.int .i32 0)).set 37 (.int .i32 0)).set 38 (.int .u16 0)).set 39 (.int .u8 0)).set 40 (.int .u8 0))
  clear HO1 HF1 c10 c33 c35 c36 c37 c38 c39 c40 fz
  generalize World.setCell _ _ _ = W at hO hF ⊢
  have hc := cells hO
  obtain ⟨c10, c33, c35, c36, c37, c38, c39, c40, fz⟩ := hc
  have HO := Lib.hid hO
  have HF := Lib.hid hF
  have HTW := Lib.hid (tabs_fr HT.out hg hw hF)
  have hwW : 3 ≤ W.heap.size := Nat.le_trans hw hF.size
  clear hO hF HT
  go_wp2_with fail
  refine (num70 45 g s W rfl hs1 c10 c33 c35).mono ?_
  rintro e w9 ⟨rfl, rfl⟩
  go_upto_region 90 with fail
  have t4 : decide (4 ≤ (s.size : Int)) = false := decide_eq_false (by omega)
  have t3 : decide (3 ≤ (s.size : Int)) = false := decide_eq_false (by omega)
  go_quiet (fail)
  have hO := HO.out.drewN nq
  have hF : Fr g w (W.drewN nq) := ⟨HF.out.os, HF.out.tape, HF.out.output, HF.out.size, HF.out.block⟩
  have hT : Lib.Utf8Tabs 1 2 (W.drewN nq) := tabs_fr HTW.out hg hwW (g := g) ⟨rfl, rfl, rfl, Nat.le_refl _, fun _ _ _ => rfl⟩
  have hw5 : 3 ≤ (W.drewN nq).heap.size := hwW
  clear HO HF HTW hwW c10 c33 c35 c36 c37 c38 c39 c40 fz
  generalize W.drewN nq = W at *
  have hc := cells hO
  obtain ⟨c10, c33, c35, c36, c37, c38, c39, c40, fz⟩ := hc
  have HO := Lib.hid hO
  have HF := Lib.hid hF
  have HTW := Lib.hid hT
  have hwW := hw5
  clear hO hF hT hw5
  go_wp2_with fail
  refine (idt68 g s W HO.out.lt hs1 c10 c33 c35 HTW.out hwW).mono ?_
  rintro e w9 ⟨rfl, hb9⟩
  have hO := HO.out.below hb9 HO.out.lt
  have hF : Fr g w w9 := Fr.trans HF.out ⟨hb9.os, hb9.tape, hb9.output, hb9.size, fun k hk _ => hb9.block k hk⟩
  have hT : Lib.Utf8Tabs 1 2 w9 := tabs_below HTW.out hwW hb9
  have hw5 : 3 ≤ w9.heap.size := Nat.le_trans hwW hb9.size
  clear HO HF HTW hwW c10 c33 c35 c36 c37 c38 c39 c40 fz hb9
  have HO := Lib.hid hO
  have HF := Lib.hid hF
  have HTW := Lib.hid hT
  have hwW := hw5
  have hc := cells hO
  obtain ⟨c10, c33, c35, c36, c37, c38, c39, c40, fz⟩ := hc
  clear hO hF hT hw5
  generalize w9 = W at *
  go_wp2_with fail
  clear c10 c33 c35 c36 c37 c38 c39 c40 fz
  refine (stepC g s nl 1 _ _ _ _ W HO.out (by omega) HTW.out hwW (by omega) n0 (by omega) (by omega) (by omega)).mono ?_
  rintro e w2 ⟨rfl, nl2, m0, m1, hO2, hF2⟩
  rw [(cp_out (s := s) (q := 1) (by omega)).1, (cp_out (s := s) (q := 1) (by omega)).2] at hO2
  have HO2 : Hid (Own w2 g 64 (lxC s nl2 (s.size : Int) (-1) 0 ((s.size : Int) - 0) 0)) := Lib.hid (by rw [hs1]; exact hO2)
  have HF2 := Lib.hid (Fr.trans HF.out hF2)
  clear hO2 hF2 HO HF HTW hwW
  have hc := cells HO2.out
  obtain ⟨c10, c33, c35, c36, c37, c38, c39, c40, fz⟩ := hc
  go_wp2_with fail
  go_end0
  exact ⟨rfl, nl2, by omega, by omega, Own.kind HO2.out 22, HF2.out.set 39 _⟩
end Go.Proofs.YtcljenkgbbbfpaaDoor.Nx
