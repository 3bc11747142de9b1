/-
  Proved: the tests whether an identifier and whether a number starts at a place, where no backslash comes. Conditions: those that each theorem names
  as its hypotheses, and no others.
-/
import Derived.Test.YtcljenkgbbbfpaaDoorZc
namespace Go.Proofs.YtcljenkgbbbfpaaDoor.Zd
open Go.RowKit Go.PlainAid Str Mem De Lu Dw Cu Rws Za Zb Zc
set_option linter.unusedVariables false
set_option linter.unusedSimpArgs false
/-- Would an identifier start at q? (no backslash about) -/
def wsi (s : ByteArray) (q : Nat) : Bool := nsB (cpOf s q) || (cpOf s q == 45 && !(rc s (q + wdOf s q) == 65533 && decide (rw' s (q + wdOf s q) ≤ 1)) && (nsB (rc s (q + wdOf s q)) || rc s (q + wdOf s q) == 45))
/-- Would a number start at q? -/
def wsn (s : ByteArray) (q : Nat) : Bool := dgB (cpOf s q) || (cpOf s q == 46 && decide (q + wdOf s q < s.size) && dgB (bt s (q + wdOf s q))) || ((cpOf s q == 43 || cpOf s q == 45) && decide (q + wdOf s q < s.size) && (dgB (bt s (q + wdOf s q)) || (bt s (q + wdOf s q) == 46 && decide (q + wdOf s q + 1 < s.size) && dgB (bt s (q + wdOf s q + 1)))))
def Said (v : Value) (w : World) (e : Ending) (w' : World) : Prop := e = .returned v ∧ Below w.heap.size w w'
set_option maxRecDepth 100000 in
set_option maxHeartbeats 8000000 in
theorem ident68 (g : Nat) (u : ByteArray) (r0 r1 : Int) (s : ByteArray) (q : Nat) (ts un kd fl : Int) (w : World) (h : At g u r0 r1 s q ts un kd fl w) (hq : q ≤ s.size) (hb : NoB s q) (hT : Lib.Utf8Tabs 1 2 w) (hw : 3 ≤ w.heap.size) (hs : s.size ≤ 1048580) :
    Calls Tryd.prog 68 #[.pointer (some ⟨g, 0, none⟩)] w (Said (.bool (wsi s q)) w) := by
  have hc := h.cl
  have c10 := hc.c10
  have c33 := hc.c33
  have c35 := hc.c35
  have hgl := h.lt
  have hp := (cp_rng s q hq).2.2
  have hn0 := cp_nob hb (Nat.le_refl q)
  have hn1 := rc_nob hb (show q ≤ q + wdOf s q by omega)
  clear h hc hb
  cases e1 : nsB (cpOf s q)
  rotate_left
  focus
    have ew : wsi s q = true := by unfold wsi; rw [e1]; rfl
    rw [ew]
    have E1 := Lib.hid e1
    clear e1 ew
    go_enter Tryd.func68, Tryd.ntmps68
    go_wp2_with fail
    refine (start74 _ _).mono ?_
    rintro e w9 ⟨rfl, rfl⟩
    rw [E1.out]
    go_wp2_with fail
    go_ret
    exact ⟨rfl, Below.refl _ _⟩
  cases e2 : (cpOf s q == 45)
  focus
    have ew : wsi s q = false := by unfold wsi; rw [e1, e2]; rfl
    rw [ew]
    have E1 := Lib.hid e1
    have N0 := Lib.hid hn0
    clear e1 ew hn0 hn1
    go_enter Tryd.func68, Tryd.ntmps68
    go_wp2_with fail
    refine (start74 _ _).mono ?_
    rintro e w9 ⟨rfl, rfl⟩
    rw [E1.out]
    go_wp2_with fail
    refine (esc61 g (cpOf s q) _ c35 N0.out).mono ?_
    rintro e w9 ⟨rfl, rfl⟩
    go_wp2_with fail
    go_ret
    exact ⟨rfl, Below.refl _ _⟩
  have HW := Lib.hid (show wsi s q = (!(rc s (q + wdOf s q) == 65533 && decide (rw' s (q + wdOf s q) ≤ 1)) && (nsB (rc s (q + wdOf s q)) || rc s (q + wdOf s q) == 45)) by unfold wsi; rw [e1, e2]; simp only [Bool.false_or, Bool.true_and])
  have E1 := Lib.hid e1
  have i0 : (0 : Int) ≤ ((q + wdOf s q : Nat) : Int) := by omega
  have i1 : ((q + wdOf s q : Nat) : Int) ≤ (s.size : Int) := by omega
  have HRC := Lib.hid (show ((Lib.decodeGo (s.extract (q + wdOf s q) s.size)).1 : Int) = rc s (q + wdOf s q) from rfl)
  have HRW := Lib.hid (show (Lib.decodeGo (s.extract (q + wdOf s q) s.size)).2 = rw' s (q + wdOf s q) from rfl)
  clear e1 hn0 hq
  generalize q + wdOf s q = p at *
  go_enter Tryd.func68, Tryd.ntmps68
  go_wp2_with fail
  refine (start74 _ _).mono ?_
  rintro e w9 ⟨rfl, rfl⟩
  rw [E1.out]
  go_wp2_with fail
  go_region_held3 (fun W => W.cell? ⟨g, 10, none⟩ = some (.string s) ∧ W.cell? ⟨g, 33, none⟩ = some (.int .i64 (p : Int)) ∧ Below w.heap.size w W)
    (first | with_reducible exact keepL hgl hb1 (by assumption) | exact ⟨c10, c33, below_drew (Below.refl _ _)⟩)
    (first | (go_at_call 52; refine (Tryd.utf8_DecodeRuneInString _ _ (tabs_below hT hw (And.right (And.right (by assumption))))).mono ?_; rintro e w1 ⟨rfl, hb1⟩))
  have HB := Lib.hid ((below_drew (Below.refl _ _)).trans (hb1.mono (Nat.le_refl _)) : Below w.heap.size w w1)
  rw [HRC.out, HRW.out]
  have hN1 := Lib.hid hn1
  clear hb1 HRC HRW i0 i1 c10 c33 hn1 e2 E1
  generalize rc s p = C at *
  generalize rw' s p = K at *
  generalize wsi s q = A at *
  have z92 : (C == 92) = false := beq_eq_false_iff_ne.2 hN1.out
  cases d1 : (C == 65533)
  · have hA : A = (nsB C || C == 45) := by rw [HW.out, d1]; simp
    cases d2 : nsB C
    · cases d3 : (C == 45)
      · have hA' : A = false := by rw [hA, d2, d3]; rfl
        subst hA'
        have D2 := Lib.hid d2
        clear hA HW hN1 d2
        go_wp2_with fail
        refine (start74 _ _).mono ?_
        rintro e w9 ⟨rfl, rfl⟩
        rw [D2.out]
        go_wp2_with fail
        go_ret
        exact ⟨rfl, HB.out⟩
      · have hA' : A = true := by rw [hA, d2, d3]; rfl
        subst hA'
        have D2 := Lib.hid d2
        clear hA HW hN1 d2
        go_wp2_with fail
        refine (start74 _ _).mono ?_
        rintro e w9 ⟨rfl, rfl⟩
        rw [D2.out]
        go_wp2_with fail
        go_ret
        exact ⟨rfl, HB.out⟩
    · have hA' : A = true := by rw [hA, d2]; rfl
      subst hA'
      have D2 := Lib.hid d2
      clear hA HW hN1 d2
      go_wp2_with fail
      refine (start74 _ _).mono ?_
      rintro e w9 ⟨rfl, rfl⟩
      rw [D2.out]
      go_wp2_with fail
      go_ret
      exact ⟨rfl, HB.out⟩
  · have hC : C = 65533 := beq_iff_eq.1 d1
    subst hC
    have D2 : Hid (nsB 65533 = true) := Lib.hid rfl
    by_cases hk : K ≤ 1
    · have hA' : A = false := by rw [HW.out]; simp [hk]
      subst hA'
      have d4 : decide ((K : Int) ≤ 1) = true := decide_eq_true (by omega)
      clear HW hN1 hk
      go_wp2_with fail
      go_ret
      exact ⟨rfl, HB.out⟩
    · have hA' : A = true := by rw [HW.out, D2.out]; simp [hk]
      subst hA'
      have d4 : decide ((K : Int) ≤ 1) = false := decide_eq_false (by omega)
      clear HW hN1 hk
      go_wp2_with fail
      refine (start74 _ _).mono ?_
      rintro e w9 ⟨rfl, rfl⟩
      rw [D2.out]
      go_wp2_with fail
      go_ret
      exact ⟨rfl, HB.out⟩
set_option maxRecDepth 100000 in
set_option maxHeartbeats 16000000 in
theorem num70 (g : Nat) (u : ByteArray) (r0 r1 : Int) (s : ByteArray) (q : Nat) (ts un kd fl : Int) (w : World) (h : At g u r0 r1 s q ts un kd fl w) (hq : q ≤ s.size) (hs : s.size ≤ 1048580) :
    Calls Tryd.prog 70 #[.pointer (some ⟨g, 0, none⟩)] w fun e w' => e = .returned (.bool (wsn s q)) ∧ w = w' := by
  have hc := h.cl
  have c10 := hc.c10
  have c33 := hc.c33
  have c35 := hc.c35
  have hgb := get_bt s
  have hp := (cp_rng s q hq).2.2
  have HW := Lib.hid (show wsn s q = (dgB (cpOf s q) || (cpOf s q == 46 && decide (q + wdOf s q < s.size) && dgB (bt s (q + wdOf s q))) || ((cpOf s q == 43 || cpOf s q == 45) && decide (q + wdOf s q < s.size) && (dgB (bt s (q + wdOf s q)) || (bt s (q + wdOf s q) == 46 && decide (q + wdOf s q + 1 < s.size) && dgB (bt s (q + wdOf s q + 1)))))) from rfl)
  clear h hc hq
  generalize cpOf s q = N at *
  generalize q + wdOf s q = p at *
  generalize hA : wsn s q = A at *
  clear hA
  have p0 : (0 : Int) ≤ (p : Int) := by omega
  by_cases d : 48 ≤ N ∧ N ≤ 57
  · have hA : A = true := by rw [HW.out, show dgB N = true from decide_eq_true d]; rfl
    subst hA
    have u0 : decide (48 ≤ N) = true := decide_eq_true d.1
    have u1 : decide (N ≤ 57) = true := decide_eq_true d.2
    clear HW d hp p0
    go_enter Tryd.func70, Tryd.ntmps70
    go_wp2
    go_ret
    exact ⟨rfl, rfl⟩
  have hd : dgB N = false := decide_eq_false d
  rw [hd, Bool.false_or] at HW
  by_cases d46 : N = 46
  · subst d46
    have hA0 : A = (decide (p < s.size) && dgB (bt s p)) := by rw [HW.out]; simp
    clear HW hd d
    by_cases l : p < s.size
    · have y1 : (p : Int) < (s.size : Int) := by omega
      have y2 : decide ((p : Int) < (s.size : Int)) = true := decide_eq_true y1
      have hA1 : A = dgB (bt s p) := by rw [hA0, decide_eq_true l]; rfl
      clear hA0 l
      have rng2 : bt s p < 48 ∨ (48 ≤ bt s p ∧ bt s p ≤ 57) ∨ 58 ≤ bt s p := by omega
      rcases rng2 with k | k | k
      · have hA3 : A = false := by rw [hA1]; exact decide_eq_false (by omega)
        subst hA3
        have w0 : decide (48 ≤ bt s p) = false := decide_eq_false (by omega)
        clear hA1 k 
        go_enter Tryd.func70, Tryd.ntmps70
        go_wp2
        go_ret
        exact ⟨rfl, rfl⟩
      · have hA3 : A = true := by rw [hA1]; exact decide_eq_true k
        subst hA3
        have w0 : decide (48 ≤ bt s p) = true := decide_eq_true k.1
        have w1 : decide (bt s p ≤ 57) = true := decide_eq_true k.2
        clear hA1 k 
        go_enter Tryd.func70, Tryd.ntmps70
        go_wp2
        go_ret
        exact ⟨rfl, rfl⟩
      · have hA3 : A = false := by rw [hA1]; exact decide_eq_false (by omega)
        subst hA3
        have w0 : decide (48 ≤ bt s p) = true := decide_eq_true (by omega)
        have w1 : decide (bt s p ≤ 57) = false := decide_eq_false (by omega)
        clear hA1 k 
        go_enter Tryd.func70, Tryd.ntmps70
        go_wp2
        go_ret
        exact ⟨rfl, rfl⟩
    · have y2 : decide ((p : Int) < (s.size : Int)) = false := decide_eq_false (by omega)
      have y1 : ¬ ((p : Int) < (s.size : Int)) := by omega
      have hA1 : A = false := by rw [hA0, decide_eq_false l]; rfl
      subst hA1
      clear hA0 l
      go_enter Tryd.func70, Tryd.ntmps70
      go_wp2
      go_ret
      exact ⟨rfl, rfl⟩
  have b46 : (N == 46) = false := beq_eq_false_iff_ne.2 d46
  have lo : decide (48 ≤ N) = false ∨ (decide (48 ≤ N) = true ∧ decide (N ≤ 57) = false) := by
    by_cases x : 48 ≤ N
    · exact Or.inr ⟨decide_eq_true x, decide_eq_false (by omega)⟩
    · exact Or.inl (decide_eq_false x)
  by_cases sg : N = 43 ∨ N = 45
  · have hA0 : A = (decide (p < s.size) && (dgB (bt s p) || (bt s p == 46 && decide (p + 1 < s.size) && dgB (bt s (p + 1))))) := by
      rcases sg with rfl | rfl <;> (rw [HW.out]; simp)
    clear HW hd d lo d46 b46
    by_cases l : p < s.size
    · have y1 : (p : Int) < (s.size : Int) := by omega
      have y2 : decide ((p : Int) < (s.size : Int)) = true := decide_eq_true y1
      have hA1 : A = (dgB (bt s p) || (bt s p == 46 && decide (p + 1 < s.size) && dgB (bt s (p + 1)))) := by rw [hA0, decide_eq_true l]; rfl
      clear hA0
      have rng : (bt s p < 46) ∨ bt s p = 46 ∨ bt s p = 47 ∨ (48 ≤ bt s p ∧ bt s p ≤ 57) ∨ 58 ≤ bt s p := by omega
      rcases rng with r | r | r | r | r
      · have hA2 : A = false := by rw [hA1, show dgB (bt s p) = false from decide_eq_false (by omega), show (bt s p == 46) = false from beq_eq_false_iff_ne.2 (by omega)]; rfl
        have v0 : decide (48 ≤ bt s p) = false := decide_eq_false (by omega)
        have v2 : (bt s p == 46) = false := beq_eq_false_iff_ne.2 (by omega)
        subst hA2
        clear hA1 l
        rcases sg with rfl | rfl
        all_goals
          go_enter Tryd.func70, Tryd.ntmps70
          go_wp2
          go_ret
          exact ⟨rfl, rfl⟩
      · have hb : bt s p = 46 := r
        have HB := Lib.hid hb
        have v0 : decide (48 ≤ bt s p) = false := decide_eq_false (by omega)
        have v2 : (bt s p == 46) = true := beq_iff_eq.2 hb
        by_cases l2 : p + 1 < s.size
        · have y3 : (p : Int) + 1 < (s.size : Int) := by omega
          have y4 : decide ((p : Int) + 1 < (s.size : Int)) = true := decide_eq_true y3
          have hA2 : A = dgB (bt s (p + 1)) := by rw [hA1, show dgB (bt s p) = false from decide_eq_false (by omega), v2, decide_eq_true l2]; rfl
          have hx : bt s ((p : Int) + 1).toNat = bt s (p + 1) := by congr 1
          have y5 : (0 : Int) ≤ (p : Int) + 1 := by omega
          clear hA1 r hb
          have rng2 : bt s (p + 1) < 48 ∨ (48 ≤ bt s (p + 1) ∧ bt s (p + 1) ≤ 57) ∨ 58 ≤ bt s (p + 1) := by omega
          rcases rng2 with k | k | k
          · have hA3 : A = false := by rw [hA2]; exact decide_eq_false (by omega)
            subst hA3
            have w0 : decide (48 ≤ bt s (p + 1)) = false := decide_eq_false (by omega)
            clear hA2 k l l2
            rcases sg with rfl | rfl
            all_goals
              go_enter Tryd.func70, Tryd.ntmps70
              go_wp2
              go_ret
              exact ⟨rfl, rfl⟩
          · have hA3 : A = true := by rw [hA2]; exact decide_eq_true k
            subst hA3
            have w0 : decide (48 ≤ bt s (p + 1)) = true := decide_eq_true k.1
            have w1 : decide (bt s (p + 1) ≤ 57) = true := decide_eq_true k.2
            clear hA2 k l l2
            rcases sg with rfl | rfl
            all_goals
              go_enter Tryd.func70, Tryd.ntmps70
              go_wp2
              go_ret
              exact ⟨rfl, rfl⟩
          · have hA3 : A = false := by rw [hA2]; exact decide_eq_false (by omega)
            subst hA3
            have w0 : decide (48 ≤ bt s (p + 1)) = true := decide_eq_true (by omega)
            have w1 : decide (bt s (p + 1) ≤ 57) = false := decide_eq_false (by omega)
            clear hA2 k l l2
            rcases sg with rfl | rfl
            all_goals
              go_enter Tryd.func70, Tryd.ntmps70
              go_wp2
              go_ret
              exact ⟨rfl, rfl⟩
        · have y4 : decide ((p : Int) + 1 < (s.size : Int)) = false := decide_eq_false (by omega)
          have y3 : ¬ ((p : Int) + 1 < (s.size : Int)) := by omega
          have hA2 : A = false := by rw [hA1, show dgB (bt s p) = false from decide_eq_false (by omega), decide_eq_false l2]; simp
          clear r hb
          subst hA2
          clear hA1 l l2
          rcases sg with rfl | rfl
          all_goals
            go_enter Tryd.func70, Tryd.ntmps70
            go_wp2
            go_ret
            exact ⟨rfl, rfl⟩
      · have hA2 : A = false := by rw [hA1, show dgB (bt s p) = false from decide_eq_false (by omega), show (bt s p == 46) = false from beq_eq_false_iff_ne.2 (by omega)]; rfl
        have v0 : decide (48 ≤ bt s p) = false := decide_eq_false (by omega)
        have v2 : (bt s p == 46) = false := beq_eq_false_iff_ne.2 (by omega)
        clear r
        subst hA2
        clear hA1 l
        rcases sg with rfl | rfl
        all_goals
          go_enter Tryd.func70, Tryd.ntmps70
          go_wp2
          go_ret
          exact ⟨rfl, rfl⟩
      · have hA2 : A = true := by rw [hA1, show dgB (bt s p) = true from decide_eq_true r]; rfl
        have v0 : decide (48 ≤ bt s p) = true := decide_eq_true r.1
        have v1 : decide (bt s p ≤ 57) = true := decide_eq_true r.2
        subst hA2
        clear hA1 l
        rcases sg with rfl | rfl
        all_goals
          go_enter Tryd.func70, Tryd.ntmps70
          go_wp2
          go_ret
          exact ⟨rfl, rfl⟩
      · have hA2 : A = false := by rw [hA1, show dgB (bt s p) = false from decide_eq_false (by omega), show (bt s p == 46) = false from beq_eq_false_iff_ne.2 (by omega)]; rfl
        have v0 : decide (48 ≤ bt s p) = true := decide_eq_true (by omega)
        have v1 : decide (bt s p ≤ 57) = false := decide_eq_false (by omega)
        have v2 : (bt s p == 46) = false := beq_eq_false_iff_ne.2 (by omega)
        subst hA2
        clear hA1 l
        rcases sg with rfl | rfl
        all_goals
          go_enter Tryd.func70, Tryd.ntmps70
          go_wp2
          go_ret
          exact ⟨rfl, rfl⟩
    · have y2 : decide ((p : Int) < (s.size : Int)) = false := decide_eq_false (by omega)
      have y1 : ¬ ((p : Int) < (s.size : Int)) := by omega
      have hA1 : A = false := by rw [hA0, decide_eq_false l]; rfl
      have hA2 := hA1
      subst hA2
      clear hA0 hA1 l
      rcases sg with rfl | rfl
      all_goals
        go_enter Tryd.func70, Tryd.ntmps70
        go_wp2
        go_ret
        exact ⟨rfl, rfl⟩
  · have hA : A = false := by
      rw [HW.out, b46, show (N == 43) = false from beq_eq_false_iff_ne.2 (by omega), show (N == 45) = false from beq_eq_false_iff_ne.2 (by omega)]; rfl
    subst hA
    have b43 : (N == 43) = false := beq_eq_false_iff_ne.2 (by omega)
    have b45 : (N == 45) = false := beq_eq_false_iff_ne.2 (by omega)
    clear HW hd d d46 sg hp p0
    rcases lo with u0 | ⟨u0, u1⟩
    all_goals
      go_enter Tryd.func70, Tryd.ntmps70
      go_wp2
      go_ret
      exact ⟨rfl, rfl⟩
end Go.Proofs.YtcljenkgbbbfpaaDoor.Zd
