/-
  Contracts for the law on WouldStartIdentifierWithoutEscapes: the function and its model give one answer. Conditions: sizes, and the two tables of unicode/utf8.
-/
import Derived.Test.YtojihophipgljaaDoorWn
import Derived.Test.YtojihophipgljaaDoorVr
import Derived.Lib.RuneCountTail
namespace Go.Proofs.YtojihophipgljaaDoor.Wi
open Go.RowKit Go.PlainAid Str Mem Rws Lx Wn Vr
set_option linter.unusedVariables false
/-- May a name start with code point c? -/
def ns (c : Int) : Bool := decide ((97 ≤ c ∧ c ≤ 122) ∨ (65 ≤ c ∧ c ≤ 90) ∨ c = 95 ∨ 128 ≤ c ∨ c = 0)
theorem ns_yes {c : Int} (h : (97 ≤ c ∧ c ≤ 122) ∨ (65 ≤ c ∧ c ≤ 90) ∨ c = 95 ∨ 128 ≤ c ∨ c = 0) : ns c = true := decide_eq_true h
theorem ns_no {c : Int} (h : ¬ ((97 ≤ c ∧ c ≤ 122) ∨ (65 ≤ c ∧ c ≤ 90) ∨ c = 95 ∨ 128 ≤ c ∨ c = 0)) : ns c = false := decide_eq_false h
set_option maxRecDepth 100000 in
set_option maxHeartbeats 4000000 in
theorem ns22 (c : Int) (w : World) : Calls Tryd.prog 22 #[.int .i32 c] w fun e w' => e = .returned (.bool (ns c)) ∧ w = w' := by
  generalize hB : ns c = B
  have HB := Lib.hid hB
  clear hB
  go_enter Tryd.func22, Tryd.ntmps22
  go_wp2
  all_goals
    go_ret
    refine ⟨congrArg (fun b => Ending.returned (.bool b)) ?_, rfl⟩
    rw [← HB.out]
    clear HB
    try simp only [beq_iff_eq, beq_eq_false_iff_ne, ne_eq] at *
    first
    | (rw [ns_yes (by omega)]; done)
    | (rw [ns_no (by omega)]; done)
    | (unfold ns; rw [Bool.eq_iff_iff]; simp; omega)
set_option maxRecDepth 100000 in
set_option maxHeartbeats 4000000 in
theorem ns24 (c : Int) (hc : c < 128) (w : World) : Calls Tryd.prog 24 #[.int .u8 c] w fun e w' => e = .returned (.bool (ns c)) ∧ w = w' := by
  generalize hB : ns c = B
  have HB := Lib.hid hB
  clear hB
  go_enter Tryd.func24, Tryd.ntmps24
  go_wp2
  all_goals
    go_ret
    refine ⟨congrArg (fun b => Ending.returned (.bool b)) ?_, rfl⟩
    rw [← HB.out]
    clear HB
    try simp only [beq_iff_eq, beq_eq_false_iff_ne, ne_eq] at *
    first
    | (rw [ns_yes (by omega)]; done)
    | (rw [ns_no (by omega)]; done)
    | (unfold ns; rw [Bool.eq_iff_iff]; simp; omega)
/-- The answer at the place i, where '-' may open it too. -/
def at2 (s : ByteArray) (i : Nat) : Bool := if i < s.size then (if 128 ≤ bt s i then okD s i else ns (bt s i) || bt s i == 45) else false
def wsi (s : ByteArray) : Bool := if 0 < s.size then (if 128 ≤ bt s 0 then okD s 0 else if ns (bt s 0) then true else if bt s 0 = 45 then at2 s 1 else false) else false
set_option maxRecDepth 100000 in
set_option maxHeartbeats 4000000 in
theorem model8 (s : ByteArray) (hs : s.size ≤ 1048576) (w : World) : Calls Tryd.prog 8 #[.string s] w fun e w' => e = .returned (.bool (wsi s)) ∧ w = w' := by
  have hb := get_bt s
  generalize hB : wsi s = B
  have l0 := bt_le s 0
  have l1 := bt_le s 1
  unfold wsi at hB
  by_cases h0 : 0 < s.size
  · have z0 : ((s.size : Int) == 0) = false := beq_eq_false_iff_ne.2 (by omega)
    rw [if_pos h0] at hB
    by_cases h1 : 128 ≤ bt s 0
    · have t1 : decide (128 ≤ bt s 0) = true := decide_eq_true h1
      rw [if_pos h1] at hB
      have HB := Lib.hid hB
      clear hB
      go_enter Tryd.func8, Tryd.ntmps8
      go_wp2_with (go_at_call 23; refine (len23 s 0 hs h0 h1 _).mono ?_; rintro e w1 ⟨n, rfl, hn, n0, n4, rfl⟩; have HN := Lib.hid hn; clear hn)
      go_ret
      exact ⟨by have := HN.out.trans HB.out; rw [← this]; rfl, rfl⟩
    · have t1 : decide (128 ≤ bt s 0) = false := decide_eq_false h1
      rw [if_neg h1] at hB
      by_cases h2 : ns (bt s 0) = true
      · rw [if_pos h2] at hB
        subst hB
        have H2 := Lib.hid h2
        clear h2
        go_enter Tryd.func8, Tryd.ntmps8
        go_wp2_with (go_at_call 24; refine (ns24 _ (by omega) _).mono ?_; rintro e w1 ⟨rfl, rfl⟩; rw [H2.out])
        go_ret
        exact ⟨rfl, rfl⟩
      · rw [if_neg h2] at hB
        have H2 := Lib.hid (eq_false_of_ne_true h2)
        clear h2
        by_cases h3 : bt s 0 = 45
        · rw [if_pos h3] at hB
          have t3 : (bt s 0 != 45) = false := by simp [h3]
          clear h3
          unfold at2 at hB
          by_cases h4 : 1 < s.size
          · rw [if_pos h4] at hB
            have z4 : decide ((s.size : Int) < 2) = false := decide_eq_false (by omega)
            have z5 : decide (s.size < 2) = false := decide_eq_false (by omega)
            by_cases h5 : 128 ≤ bt s 1
            · have t5 : decide (128 ≤ bt s 1) = true := decide_eq_true h5
              rw [if_pos h5] at hB
              have HB := Lib.hid hB
              clear hB
              go_enter Tryd.func8, Tryd.ntmps8
              go_wp2_with (first | (go_at_call 24; refine (ns24 _ (by omega) _).mono ?_; rintro e w1 ⟨rfl, rfl⟩; rw [H2.out]) | (go_at_call 23; refine (len23 s 1 hs h4 h5 _).mono ?_; rintro e w1 ⟨n, rfl, hn, n0, n4, rfl⟩; have HN := Lib.hid hn; clear hn))
              go_ret
              exact ⟨by have := HN.out.trans HB.out; rw [← this]; rfl, rfl⟩
            · have t5 : decide (128 ≤ bt s 1) = false := decide_eq_false h5
              rw [if_neg h5] at hB
              by_cases h6 : ns (bt s 1) = true
              · rw [h6, Bool.true_or] at hB
                subst hB
                have H6 := Lib.hid h6
                clear h6
                go_enter Tryd.func8, Tryd.ntmps8
                go_wp2_with fail
                refine (ns24 _ (by omega) _).mono ?_; rintro e w1 ⟨rfl, rfl⟩; rw [H2.out]
                go_wp2_with fail
                refine (ns24 _ (by omega) _).mono ?_; rintro e w1 ⟨rfl, rfl⟩; rw [H6.out]
                go_wp2_with fail
                go_ret
                exact ⟨rfl, rfl⟩
              · have h6' := eq_false_of_ne_true h6
                rw [h6', Bool.false_or] at hB
                subst hB
                have H6 := Lib.hid h6'
                clear h6 h6'
                go_enter Tryd.func8, Tryd.ntmps8
                go_wp2_with fail
                refine (ns24 _ (by omega) _).mono ?_; rintro e w1 ⟨rfl, rfl⟩; rw [H2.out]
                go_wp2_with fail
                refine (ns24 _ (by omega) _).mono ?_; rintro e w1 ⟨rfl, rfl⟩; rw [H6.out]
                go_wp2_with fail
                go_ret
                exact ⟨rfl, rfl⟩
          · rw [if_neg h4] at hB
            subst hB
            have z4 : decide ((s.size : Int) < 2) = true := decide_eq_true (by omega)
            have z5 : decide (s.size < 2) = true := decide_eq_true (by omega)
            go_enter Tryd.func8, Tryd.ntmps8
            go_wp2_with (go_at_call 24; refine (ns24 _ (by omega) _).mono ?_; rintro e w1 ⟨rfl, rfl⟩; rw [H2.out])
            go_ret
            exact ⟨rfl, rfl⟩
        · rw [if_neg h3] at hB
          subst hB
          have t3 : (bt s 0 != 45) = true := by simp [h3]
          clear h3
          go_enter Tryd.func8, Tryd.ntmps8
          go_wp2_with (go_at_call 24; refine (ns24 _ (by omega) _).mono ?_; rintro e w1 ⟨rfl, rfl⟩; rw [H2.out])
          go_ret
          exact ⟨rfl, rfl⟩
  · have z0 : ((s.size : Int) == 0) = true := beq_iff_eq.2 (by omega)
    rw [if_neg h0] at hB
    subst hB
    go_enter Tryd.func8, Tryd.ntmps8
    go_wp2
    go_ret
    exact ⟨rfl, rfl⟩
theorem dec_end {s : ByteArray} {i : Nat} (h : s.size ≤ i) : Lib.decodeGo (s.extract i s.size) = (65533, 0) := by
  unfold Lib.decodeGo; rw [if_pos (by rw [size_extract]; omega)]
theorem dec_at {s : ByteArray} {i : Nat} (h : i < s.size) : Lib.decodeGo (s.extract i s.size) = Utf8.decode s i := by
  unfold Lib.decodeGo; rw [if_neg (by rw [size_extract]; omega), Lib.tail_decode, Nat.add_zero]
theorem dec_asc {s : ByteArray} {i : Nat} (h : i < s.size) (ha : bt s i < 128) : Lib.decodeGo (s.extract i s.size) = ((bt s i).toNat, 1) := by
  have hb := bt_get s i h
  rw [dec_at h, decode_ascii s i h (by omega), hb]; rfl
theorem dec_bad {s : ByteArray} {i : Nat} (h : i < s.size) (hk : okD s i = false) : Lib.decodeGo (s.extract i s.size) = (65533, 1) := by
  rw [dec_at h]; unfold okD at hk; simpa using hk
theorem dec_good {s : ByteArray} {i : Nat} (h : i < s.size) (h1 : 128 ≤ bt s i) (hk : okD s i = true) : ∃ R K : Nat, Lib.decodeGo (s.extract i s.size) = (R, K) ∧ 128 ≤ R ∧ R ≤ 1114111 ∧ (R ≠ 65533 ∨ 2 ≤ K) ∧ K ≤ 1048576 + s.size := by
  have hb := bt_get s i h
  have d := decode_high s i h (by omega)
  have hv : Utf8.decode s i ≠ (65533, 1) := by unfold okD at hk; simpa using hk
  have hw := (dec_bounds (s.extract i s.size)).2
  rw [dec_at h, size_extract] at hw
  have hr : (Utf8.decode s i).1 ≤ 1114111 := by
    rw [Lib.decode_at]
    have := Lib.decodeN_valid (s.size - i) (s.get! i).toNat (s.get! (i + 1)).toNat (s.get! (i + 2)).toNat (s.get! (i + 3)).toNat (UInt8.toNat_lt _)
    omega
  refine ⟨(Utf8.decode s i).1, (Utf8.decode s i).2, dec_at h, d.1, hr, ?_, by omega⟩
  by_cases e : (Utf8.decode s i).1 = 65533
  · refine .inr ?_
    have : (Utf8.decode s i).2 ≠ 1 := fun e2 => hv (Prod.ext e e2)
    omega
  · exact .inl e
theorem at2_end {s : ByteArray} {i : Nat} (h : s.size ≤ i) : at2 s i = false := if_neg (by omega)
theorem at2_high {s : ByteArray} {i : Nat} (h : i < s.size) (h1 : 128 ≤ bt s i) : at2 s i = okD s i := by unfold at2; rw [if_pos h, if_pos h1]
theorem at2_asc {s : ByteArray} {i : Nat} (h : i < s.size) (h1 : bt s i < 128) : at2 s i = (ns (bt s i) || bt s i == 45) := by unfold at2; rw [if_pos h, if_neg (by omega)]
/-- From the test 'c == 45' on, in the frame of the call. -/
def Ans (B : Bool) (w : World) (e : Ending) (w' : World) : Prop := e = .returned (.bool B) ∧ Below w.heap.size w w'
set_option maxRecDepth 100000 in
set_option maxHeartbeats 4000000 in
theorem would7 (s : ByteArray) (hs : s.size ≤ 1048576) (w : World) (hT : Lib.Utf8Tabs 0 1 w) (hw2 : 2 ≤ w.heap.size) : Calls Tryd.prog 7 #[.string s] w (Ans (wsi s) w) := by
  have hD := Tryd.utf8_DecodeRuneInString s w hT
  have es : s.extract 0 s.size = s := extract_all s
  generalize hB : wsi s = B
  have l0 := bt_le s 0
  have g0 := bt_nonneg s 0
  unfold wsi at hB
  have HT := Lib.hid hT
  clear hT
  by_cases h0 : 0 < s.size
  · rw [if_pos h0] at hB
    by_cases h1 : 128 ≤ bt s 0
    · rw [if_pos h1] at hB
      cases hk : okD s 0
      · have e := dec_bad h0 hk
        rw [es] at e
        rw [e] at hD
        rw [hk] at hB
        subst hB
        clear hk e es
        go_enter Tryd.func7, Tryd.ntmps7
        go_wp2_with fail
        refine hD.mono ?_
        rintro e w1 ⟨rfl, hb1⟩
        clear hD
        go_wp2_with fail
        go_ret
        exact ⟨rfl, hb1⟩
      · obtain ⟨R, K, e, r0, r1, r2, r3⟩ := dec_good h0 h1 hk
        rw [es] at e
        rw [e] at hD
        rw [hk] at hB
        subst hB
        have HN := Lib.hid (ns_yes (c := (R : Int)) (by omega))
        clear hk e es
        by_cases hr : R = 65533
        · have t1 : ((R : Int) == 65533) = true := by simp [hr]
          have t2 : decide ((K : Int) ≤ 1) = false := decide_eq_false (by omega)
          have t3 : decide (K ≤ 1) = false := decide_eq_false (by omega)
          clear hr r2
          go_enter Tryd.func7, Tryd.ntmps7
          go_wp2_with fail
          refine hD.mono ?_
          rintro e w1 ⟨rfl, hb1⟩
          clear hD
          go_wp2_with (go_at_call 22; refine (ns22 _ _).mono ?_; rintro e w2 ⟨rfl, rfl⟩; rw [HN.out])
          go_ret
          exact ⟨rfl, hb1⟩
        · have t1 : ((R : Int) == 65533) = false := by simp; omega
          clear hr r2
          go_enter Tryd.func7, Tryd.ntmps7
          go_wp2_with fail
          refine hD.mono ?_
          rintro e w1 ⟨rfl, hb1⟩
          clear hD
          go_wp2_with (go_at_call 22; refine (ns22 _ _).mono ?_; rintro e w2 ⟨rfl, rfl⟩; rw [HN.out])
          go_ret
          exact ⟨rfl, hb1⟩
    · have e := dec_asc h0 (by omega)
      rw [es] at e
      rw [e] at hD
      have ee : (((bt s 0).toNat : Nat) : Int) = bt s 0 := Int.toNat_of_nonneg g0
      simp only [ee] at hD
      clear e ee es
      rw [if_neg h1] at hB
      have t0 : (bt s 0 == 65533) = false := by simp; omega
      by_cases h2 : ns (bt s 0) = true
      · rw [if_pos h2] at hB
        subst hB
        have H2 := Lib.hid h2
        clear h2
        go_enter Tryd.func7, Tryd.ntmps7
        go_wp2_with fail
        refine hD.mono ?_
        rintro e w1 ⟨rfl, hb1⟩
        clear hD
        go_wp2_with (go_at_call 22; refine (ns22 _ _).mono ?_; rintro e w2 ⟨rfl, rfl⟩; rw [H2.out])
        go_ret
        exact ⟨rfl, hb1⟩
      · rw [if_neg h2] at hB
        have H2 := Lib.hid (eq_false_of_ne_true h2)
        clear h2
        by_cases h3 : bt s 0 = 45
        · rw [if_pos h3] at hB
          have t3 : (bt s 0 == 45) = true := by simp [h3]
          clear h3
          have g1 := bt_nonneg s 1
          have z1 : (1 : Int) ≤ (s.size : Int) := by omega
          go_enter Tryd.func7, Tryd.ntmps7
          go_wp2_with fail
          refine hD.mono ?_
          rintro e w1 ⟨rfl, hb1⟩
          clear hD
          have hz1 := hb1.size
          go_wp2_with (go_at_call 22; refine (ns22 _ _).mono ?_; rintro e w2 ⟨rfl, rfl⟩; rw [H2.out])
          have hD := Tryd.utf8_DecodeRuneInString (s.extract 1 s.size) w1 (tabs_below HT.out hw2 hb1)
          by_cases h4 : 1 < s.size
          · by_cases h5 : 128 ≤ bt s 1
            · rw [at2_high h4 h5] at hB
              cases hk : okD s 1
              · rw [dec_bad h4 hk] at hD
                rw [hk] at hB
                subst hB
                clear hk
                refine hD.mono ?_
                rintro e w2 ⟨rfl, hb2⟩
                clear hD
                go_wp2_with fail
                go_ret
                exact ⟨rfl, hb1.trans (hb2.mono hz1)⟩
              · obtain ⟨R, K, e, r0, r1, r2, r3⟩ := dec_good h4 h5 hk
                rw [e] at hD
                rw [hk] at hB
                subst hB
                have HN := Lib.hid (ns_yes (c := (R : Int)) (by omega))
                clear hk e
                by_cases hr : R = 65533
                · have t1 : ((R : Int) == 65533) = true := by simp [hr]
                  have t2 : decide ((K : Int) ≤ 1) = false := decide_eq_false (by omega)
                  have t3 : decide (K ≤ 1) = false := decide_eq_false (by omega)
                  clear hr r2
                  refine hD.mono ?_
                  rintro e w2 ⟨rfl, hb2⟩
                  clear hD
                  go_wp2_with (go_at_call 22; refine (ns22 _ _).mono ?_; rintro e w2 ⟨rfl, rfl⟩; rw [HN.out])
                  go_ret
                  exact ⟨rfl, hb1.trans (hb2.mono hz1)⟩
                · have t1 : ((R : Int) == 65533) = false := by simp; omega
                  clear hr r2
                  refine hD.mono ?_
                  rintro e w2 ⟨rfl, hb2⟩
                  clear hD
                  go_wp2_with (go_at_call 22; refine (ns22 _ _).mono ?_; rintro e w2 ⟨rfl, rfl⟩; rw [HN.out])
                  go_ret
                  exact ⟨rfl, hb1.trans (hb2.mono hz1)⟩
            · rw [dec_asc h4 (by omega)] at hD
              have ee : (((bt s 1).toNat : Nat) : Int) = bt s 1 := Int.toNat_of_nonneg g1
              simp only [ee] at hD
              clear ee
              rw [at2_asc h4 (by omega)] at hB
              have t5 : (bt s 1 == 65533) = false := by simp; omega
              cases h6 : ns (bt s 1)
              · rw [h6, Bool.false_or] at hB
                subst hB
                have H6 := Lib.hid h6
                clear h6
                cases h7 : (bt s 1 == 45)
                all_goals
                  refine hD.mono ?_
                  rintro e w2 ⟨rfl, hb2⟩
                  clear hD
                  go_wp2_with (go_at_call 22; refine (ns22 _ _).mono ?_; rintro e w2 ⟨rfl, rfl⟩; rw [H6.out])
                  go_ret
                  exact ⟨by rw [h7]; rfl, hb1.trans (hb2.mono hz1)⟩
              · rw [h6, Bool.true_or] at hB
                subst hB
                have H6 := Lib.hid h6
                clear h6
                refine hD.mono ?_
                rintro e w2 ⟨rfl, hb2⟩
                clear hD
                go_wp2_with (go_at_call 22; refine (ns22 _ _).mono ?_; rintro e w2 ⟨rfl, rfl⟩; rw [H6.out])
                go_ret
                exact ⟨rfl, hb1.trans (hb2.mono hz1)⟩
          · rw [at2_end (by omega)] at hB
            subst hB
            rw [dec_end (by omega)] at hD
            refine hD.mono ?_
            rintro e w2 ⟨rfl, hb2⟩
            clear hD
            go_wp2_with fail
            go_ret
            exact ⟨rfl, hb1.trans (hb2.mono hz1)⟩
        · rw [if_neg h3] at hB
          subst hB
          have t3 : (bt s 0 == 45) = false := by simp [h3]
          clear h3
          go_enter Tryd.func7, Tryd.ntmps7
          go_wp2_with fail
          refine hD.mono ?_
          rintro e w1 ⟨rfl, hb1⟩
          clear hD
          go_wp2_with (go_at_call 22; refine (ns22 _ _).mono ?_; rintro e w2 ⟨rfl, rfl⟩; rw [H2.out])
          go_ret
          exact ⟨rfl, hb1⟩
  · rw [if_neg h0] at hB
    subst hB
    have e := dec_end (s := s) (i := 0) (by omega)
    rw [es] at e
    rw [e] at hD
    clear e es
    go_enter Tryd.func7, Tryd.ntmps7
    go_wp2_with fail
    refine hD.mono ?_
    rintro e w1 ⟨rfl, hb1⟩
    clear hD
    go_wp2_with fail
    go_ret
    exact ⟨rfl, hb1⟩
end Go.Proofs.YtojihophipgljaaDoor.Wi
