/-
  (Token).DecodedText over a wrapped text of escapes and raw runes gives the runes' encodings. Conditions: the runes are scalar values, not 0; the wrapping is one of the seven.
-/
import Derived.Test.YtcljenkgbbbfpaaDoorKu
import Derived.Test.YtcljenkgbbbfpaaDoorKp
namespace Go.Proofs.YtcljenkgbbbfpaaDoor.Kz
open Go.RowKit Go.PlainAid Str Mem De Df Dg Dw Dx Hp Kp Kd
set_option linter.unusedVariables false
theorem whole (p o b c q : ByteArray) : (p ++ o ++ b ++ c ++ q).extract p.size (p.size + (o.size + b.size + c.size)) = o ++ b ++ c := by
  apply list_inj
  rw [extract_list]
  simp only [append_list, ← len_list]
  rw [show p.data.toList.length + (o.data.toList.length + b.data.toList.length + c.data.toList.length) = (p.data.toList ++ (o.data.toList ++ b.data.toList ++ c.data.toList)).length by simp; omega]
  rw [show p.data.toList ++ o.data.toList ++ b.data.toList ++ c.data.toList ++ q.data.toList = (p.data.toList ++ (o.data.toList ++ b.data.toList ++ c.data.toList)) ++ q.data.toList by simp]
  rw [List.take_left', List.drop_left'] <;> simp
theorem mid (o b c : ByteArray) : (o ++ b ++ c).extract o.size (o.size + b.size) = b := by
  apply list_inj
  rw [extract_list]
  simp only [append_list, ← len_list]
  rw [show o.data.toList.length + b.data.toList.length = (o.data.toList ++ b.data.toList).length by simp, List.take_left', List.drop_left'] <;> simp
theorem none_of {b : ByteArray} (h : b.size = 0) : b = ByteArray.empty := by
  apply bt_ext (by simpa using h)
  intro i hi; omega
theorem app_none (a : ByteArray) {b : ByteArray} (h : b.size = 0) : a ++ b = a := by rw [none_of h]; apply list_inj; simp
theorem none_app (a : ByteArray) {b : ByteArray} (h : b.size = 0) : b ++ a = a := by rw [none_of h]; apply list_inj; simp
/-- The wrappings: kind, what stands before, what stands behind, what the decoded text has in front. -/
def Kind (k : Int) (o c : ByteArray) (p : List Int) : Prop :=
  (k = 29 ∧ o.size = 0 ∧ c.size = 0 ∧ p = []) ∨ ((k = 1 ∨ k = 28) ∧ o.size = 1 ∧ c.size = 0 ∧ p = []) ∨ (k = 27 ∧ o.size = 0 ∧ c.size = 1 ∧ p = []) ∨ (k = 36 ∧ o.size = 1 ∧ c.size = 1 ∧ p = []) ∨ (k = 37 ∧ o.size = 4 ∧ c.size = 1 ∧ bt c 0 = 41 ∧ p = []) ∨ (k = 26 ∧ o = ⟨#[49, 50]⟩ ∧ c.size = 0 ∧ p = [49, 50])
set_option maxRecDepth 100000 in
set_option maxHeartbeats 4000000 in
theorem twelve (w : World) : Calls Tryd.prog 43 #[.string ⟨#[49, 50]⟩] w fun e w' => e = .returned (.string ⟨#[49, 50]⟩) ∧ w = w' := by
  go_enter Tryd.func43, Tryd.ntmps43
  go_wp2_with fail
  refine wp_loop_rounds 3 ?_
  rw [rounds_succ]
  go_wp2_with fail
  rw [rounds_succ]
  go_wp2_with fail
  rw [rounds_succ]
  go_wp2_with fail
  go_ret
  exact ⟨rfl, rfl⟩
theorem L_range {up : Bool} {Z : Nat → Int} {m : Nat} (hZ : ∀ i, i < m → Vd (Z i)) : ∀ c ∈ E2 up Z m, 0 ≤ c ∧ c < 256 := fun c hc => (E2_range up Z m hZ c hc).1
theorem L_at {up : Bool} {Z : Nat → Int} {m : Nat} (hZ : ∀ i, i < m → Vd (Z i)) : At (strOfNums (E2 up Z m)) 0 (E2 up Z m) := by
  have := at_nums (l := E2 up Z m) (a := []) (b := E2 up Z m) (c := []) (L_range hZ) (by simp)
  simpa using this
theorem nl_of {l : List Int} (h : ∀ b ∈ l, (0 ≤ b ∧ b < 256) ∧ b ≠ 10 ∧ b ≠ 12 ∧ b ≠ 13) (i : Nat) (hi : i + 1 < (strOfNums l).size) : bt (strOfNums l) (i + 1) ≠ 10 ∧ bt (strOfNums l) (i + 1) ≠ 12 ∧ bt (strOfNums l) (i + 1) ≠ 13 := by
  rw [strOfNums_size] at hi
  rw [bt_nums (fun c hc => (h c hc).1) (i + 1) hi]
  exact (h _ (List.getElem_mem hi)).2
/-- The body alone. -/
theorem body {up : Bool} {Z : Nat → Int} {m : Nat} (hm : m ≤ 65536) (hZ : ∀ i, i < m → Vd (Z i)) (W : World) (hT : Lib.Utf8Tabs 1 2 W) (hw : 3 ≤ W.heap.size) :
    Calls Tryd.prog 43 #[.string (strOfNums (E2 up Z m))] W (Ret (V Z m) W) := by
  have hl := E2_len up Z m hZ
  have h := Dz.any (strOfNums (E2 up Z m)) (by rw [strOfNums_size]; omega) (fun hp => E2_head up Z m (by rw [strOfNums_size] at hp; omega) (L_at hZ)) (fun i hi _ => nl_of (E2_range up Z m hZ) i hi) W hT hw
  rw [decoded2 up Z m (L_at hZ) (by rw [strOfNums_size]; simp) hZ] at h
  exact h
theorem E3_range {up : Bool} {Z : Nat → Int} {m : Nat} (hZ : ∀ i, i < m + 1 → Vd (Z i)) : ∀ b ∈ E3 up Z m, (0 ≤ b ∧ b < 256) ∧ b ≠ 10 ∧ b ≠ 12 ∧ b ≠ 13 := by
  intro b hb
  unfold E3 at hb
  rcases List.mem_append.1 hb with h | h
  · exact E2_range up Z m (fun i hi => hZ i (by omega)) b h
  · refine piece_range up false true (Z m) b ?_
    unfold piece
    rcases List.mem_cons.1 h with h | h
    · simp [h]
    · simp [h]
theorem body3 {up : Bool} {Z : Nat → Int} {m : Nat} (hm : m + 1 ≤ 65536) (hZ : ∀ i, i < m + 1 → Vd (Z i)) (W : World) (hT : Lib.Utf8Tabs 1 2 W) (hw : 3 ≤ W.heap.size) :
    Calls Tryd.prog 43 #[.string (strOfNums (E3 up Z m))] W (Ret (V Z (m + 1)) W) := by
  have hl := E2_len up Z m (fun i hi => hZ i (by omega))
  have dl := digits_len up false (Z m) (hZ m (by omega)).1
  have h3 : (E3 up Z m).length = (E2 up Z m).length + 1 + (digits up false (Z m)).length := by unfold E3; simp; omega
  have hat : At (strOfNums (E3 up Z m)) 0 (E3 up Z m) := by
    have := at_nums (l := E3 up Z m) (a := []) (b := E3 up Z m) (c := []) (fun c hc => (E3_range hZ c hc).1) (by simp)
    simpa using this
  have h92 : bt (strOfNums (E3 up Z m)) 0 = 92 := by
    by_cases hm0 : m = 0
    · subst hm0
      have := hat
      unfold E3 at this
      rw [show E2 up Z 0 = [] from rfl, List.nil_append] at this
      unfold E3
      rw [show E2 up Z 0 = [] from rfl, List.nil_append]
      exact this.head.2
    · exact E2_head up Z m (by omega) (At.left (a := E2 up Z m) hat)
  have h := Dz.any (strOfNums (E3 up Z m)) (by rw [strOfNums_size]; omega) (fun _ => h92) (fun i hi _ => nl_of (E3_range hZ) i hi) W hT hw
  rw [decoded3 up Z m hat (by rw [strOfNums_size]; simp) hZ] at h
  exact h
/-- '12' and the body. -/
theorem dim {up : Bool} {Z : Nat → Int} {m : Nat} (hm : m ≤ 65536) (hZ : ∀ i, i < m → Vd (Z i)) (W : World) (hT : Lib.Utf8Tabs 1 2 W) (hw : 3 ≤ W.heap.size) :
    Calls Tryd.prog 43 #[.string (⟨#[49, 50]⟩ ++ strOfNums (E2 up Z m))] W (Ret ([49, 50] ++ V Z m) W) := by
  have hl := E2_len up Z m hZ
  by_cases hm0 : m = 0
  · subst hm0
    rw [app_none _ (by rw [strOfNums_size]; rfl)]
    refine (twelve W).mono ?_
    rintro e w' ⟨rfl, rfl⟩
    exact ⟨[49, 50], rfl, rfl, Below.refl _ _⟩
  have es : (⟨#[49, 50]⟩ ++ strOfNums (E2 up Z m) : ByteArray) = strOfNums ([49, 50] ++ E2 up Z m) := by
    apply list_inj
    rw [append_list]
    unfold strOfNums
    simp
  rw [es]
  have hr : ∀ b ∈ [49, 50] ++ E2 up Z m, (0 ≤ b ∧ b < 256) ∧ b ≠ 10 ∧ b ≠ 12 ∧ b ≠ 13 := by
    intro b hb
    rcases List.mem_append.1 hb with h | h
    · simp at h; omega
    · exact E2_range up Z m hZ b h
  have hat : At (strOfNums ([49, 50] ++ E2 up Z m)) 2 (E2 up Z m) := by
    have := at_nums (l := [49, 50] ++ E2 up Z m) (a := [49, 50]) (b := E2 up Z m) (c := []) (fun c hc => (hr c hc).1) (by simp)
    simpa using this
  have hsz : (strOfNums ([49, 50] ++ E2 up Z m)).size = 2 + (E2 up Z m).length := by rw [strOfNums_size, List.length_append]; simp
  have b0 : bt (strOfNums ([49, 50] ++ E2 up Z m)) 0 = 49 := by rw [bt_nums (fun c hc => (hr c hc).1) 0 (by simp)]; simp
  have b1 : bt (strOfNums ([49, 50] ++ E2 up Z m)) 1 = 50 := by rw [bt_nums (fun c hc => (hr c hc).1) 1 (by simp)]; simp
  have h := Dy.decodes (strOfNums ([49, 50] ++ E2 up Z m)) (by omega) 2 (by omega) (E2_head up Z m (by omega) hat) (fun j hj => by
    obtain rfl | rfl : j = 0 ∨ j = 1 := by omega
    · rw [b0]; decide
    · rw [b1]; decide) (fun i hi _ => nl_of hr i hi) W hT hw
  rw [decoded2 up Z m hat hsz hZ, show pre (strOfNums ([49, 50] ++ E2 up Z m)) 2 = [49, 50] by show [bt _ 0, bt _ 1] = _; rw [b0, b1]] at h
  exact h
theorem urlRaw {up : Bool} {Z : Nat → Int} {m : Nat} (hZ : ∀ i, i < m → Vd (Z i)) (o c : ByteArray) (ho : o.size = 4) (hc : c.size = 1) (h41 : bt c 0 = 41) :
    (m = 0 ∧ InnerU (o ++ strOfNums (E2 up Z m) ++ c) ByteArray.empty) ∨ (0 < m ∧ InnerU (o ++ strOfNums (E2 up Z m) ++ c) (strOfNums (E2 up Z m))) ∨ (∃ j, m = j + 1 ∧ InnerU (o ++ strOfNums (E2 up Z m) ++ c) (strOfNums (E3 up Z j))) := by
  have hl := E2_len up Z m hZ
  have hs : (strOfNums (E2 up Z m)).size = (E2 up Z m).length := strOfNums_size _
  have hsz : (o ++ strOfNums (E2 up Z m) ++ c).size = (4 + (E2 up Z m).length) + 1 := by rw [size_append, size_append]; omega
  have hlast : bt (o ++ strOfNums (E2 up Z m) ++ c) (4 + (E2 up Z m).length) = 41 := by
    rw [bt_append_right _ _ _ (by rw [size_append]; omega), size_append, show 4 + (E2 up Z m).length - (o.size + (strOfNums (E2 up Z m)).size) = 0 by omega]; exact h41
  have hin : ∀ i (h : i < (E2 up Z m).length), bt (o ++ strOfNums (E2 up Z m) ++ c) (4 + i) = (E2 up Z m)[i] := by
    intro i h
    rw [bt_append_left _ _ _ (by rw [size_append]; omega), bt_append_right _ _ _ (by omega), show 4 + i - o.size = i by omega, bt_nums (L_range hZ) i h]
  have hmid := mid o (strOfNums (E2 up Z m)) c
  by_cases hm0 : m = 0
  · subst hm0
    exact .inl ⟨rfl, _, hsz, hlast, .inl ⟨rfl, rfl⟩⟩
  obtain ⟨j, rfl⟩ : ∃ j, m = j + 1 := ⟨m - 1, by omega⟩
  have h4 : wsB (bt (o ++ strOfNums (E2 up Z (j + 1)) ++ c) 4) = false := by
    have h92 := E2_head up Z (j + 1) (by omega) (L_at hZ)
    rw [bt_nums (L_range hZ) 0 (by omega)] at h92
    have e4 : bt (o ++ strOfNums (E2 up Z (j + 1)) ++ c) 4 = _ := hin 0 (by omega)
    rw [e4, h92]; rfl
  cases hr : rawB j (Z j)
  · obtain ⟨e1, a, b, e2, hb⟩ := last_esc up Z j (hZ j (by omega)) hr
    refine .inr (.inr ⟨j, rfl, _, hsz, hlast, .inr (.inr ?_)⟩)
    have el : (E2 up Z (j + 1)).length = a.length + 1 + 1 := by rw [e1, e2]; simp
    have i1 := hin (a.length + 1) (by omega)
    have i0 := hin a.length (by omega)
    have g1 : (E2 up Z (j + 1))[a.length + 1]'(by omega) = 32 := by
      simp only [e1, e2]; simp
    have g0 : (E2 up Z (j + 1))[a.length]'(by omega) = b := by
      simp only [e1, e2]; simp
    have hal : 0 < a.length := by
      have := (digits_len up false (Z j) (hZ j (by omega)).1).1
      have h3 : (E3 up Z j).length = (E2 up Z j).length + 1 + (digits up false (Z j)).length := by unfold E3; simp; omega
      rw [e2] at h3; simp at h3; omega
    refine ⟨by omega, h4, ?_, ?_, ?_⟩
    · rw [show 4 + (E2 up Z (j + 1)).length - 1 = 4 + (a.length + 1) by omega, i1, g1]; rfl
    · rw [show 4 + (E2 up Z (j + 1)).length - 2 = 4 + a.length by omega, i0, g0]; exact hb
    · apply bt_ext
      · rw [strOfNums_size, size_extract, e2]; simp only [List.length_append, List.length_singleton]; omega
      · intro i hi
        rw [strOfNums_size] at hi
        have hi' : i < a.length + 1 := by rw [e2] at hi; simpa using hi
        rw [bt_extract _ _ _ _ (by omega), hin i (by omega), bt_nums (fun c hc => (E3_range hZ c hc).1) i hi]
        simp only [e1]
        rw [List.getElem_append_left]
  · obtain ⟨a, b, e2, hb⟩ := last_raw up Z j (hZ j (by omega)) hr
    refine .inr (.inl ⟨by omega, _, hsz, hlast, .inr (.inl ?_)⟩)
    have el : (E2 up Z (j + 1)).length = a.length + 1 := by rw [e2]; simp
    have i0 := hin a.length (by omega)
    have g0 : (E2 up Z (j + 1))[a.length]'(by omega) = b := by simp only [e2]; simp
    refine ⟨by omega, h4, ?_, ?_⟩
    · rw [show 4 + (E2 up Z (j + 1)).length - 1 = 4 + a.length by omega, i0, g0]; exact hb
    · rw [ho, hs] at hmid; exact hmid.symm
theorem got {up : Bool} {Z : Nat → Int} {m : Nat} (hm : m ≤ 65536) (hZ : ∀ i, i < m → Vd (Z i)) (p q o c : ByteArray) (k : Int) (x : List Int) (hk : Kind k o c x) (hp : p.size ≤ 1048576) (hq : q.size ≤ 1048576)
    (w : World) (hT : Lib.Utf8Tabs 1 2 w) (hw : 3 ≤ w.heap.size) :
    Calls Tryd.prog 24 #[tok p.size ((o.size + (strOfNums (E2 up Z m)).size + c.size : Nat) : Int) 0 k 0, .string (p ++ o ++ strOfNums (E2 up Z m) ++ c ++ q)] w (Ret (x ++ V Z m) w) := by
  have hl := E2_len up Z m hZ
  have hs : (strOfNums (E2 up Z m)).size = (E2 up Z m).length := strOfNums_size _
  have hC : (p ++ o ++ strOfNums (E2 up Z m) ++ c ++ q).size = p.size + (o.size + (strOfNums (E2 up Z m)).size + c.size) + q.size := by simp only [size_append]; omega
  have hw' := whole p o (strOfNums (E2 up Z m)) c q
  have hmid := mid o (strOfNums (E2 up Z m)) c
  have hraw : (o ++ strOfNums (E2 up Z m) ++ c).size = o.size + (strOfNums (E2 up Z m)).size + c.size := by simp only [size_append]
  rcases hk with ⟨rfl, h1, h2, rfl⟩ | ⟨h0, h1, h2, rfl⟩ | ⟨rfl, h1, h2, rfl⟩ | ⟨rfl, h1, h2, rfl⟩ | ⟨rfl, h1, h2, h3, rfl⟩ | ⟨rfl, rfl, h2, rfl⟩
  · exact text _ _ _ _ _ _ 0 29 0 (.inl ⟨.inl rfl, by rw [app_none _ h2, none_app _ h1]⟩) (by omega) (by omega) hw' w hT hw (body hm hZ)
  · refine text _ _ (strOfNums (E2 up Z m)) _ _ _ 0 k 0 (.inr (.inl ⟨h0, by omega, ?_⟩)) (by omega) (by omega) hw' w hT hw (body hm hZ)
    rw [h1] at hmid
    rw [hraw, h1, h2, Nat.add_zero]
    exact hmid.symm
  · refine text _ _ (strOfNums (E2 up Z m)) _ _ _ 0 27 0 (.inr (.inr (.inl ⟨rfl, (strOfNums (E2 up Z m)).size, by omega, ?_⟩))) (by omega) (by omega) hw' w hT hw (body hm hZ)
    rw [h1, Nat.zero_add] at hmid
    exact hmid.symm
  · refine text _ _ (strOfNums (E2 up Z m)) _ _ _ 0 36 0 (.inr (.inr (.inr ⟨rfl, (strOfNums (E2 up Z m)).size, by omega, ?_⟩))) (by omega) (by omega) hw' w hT hw (body hm hZ)
    rw [h1, Nat.add_comm] at hmid
    exact hmid.symm
  · rcases urlRaw hZ o c h1 h2 h3 with ⟨hm0, hi⟩ | ⟨_, hi⟩ | ⟨j, hj, hi⟩
    · refine url _ _ _ _ _ _ 0 0 hi (by omega) (by omega) hw' w hT hw (fun W _ _ => ?_)
      refine (Dz.empty ByteArray.empty rfl W).mono ?_
      rintro e w' ⟨rfl, rfl⟩
      subst hm0
      exact ⟨[], rfl, rfl, Below.refl _ _⟩
    · exact url _ _ _ _ _ _ 0 0 hi (by omega) (by omega) hw' w hT hw (body hm hZ)
    · refine url _ _ _ _ _ _ 0 0 hi (by omega) (by omega) hw' w hT hw ?_
      subst hj
      exact body3 hm hZ
  · have h2' : (⟨#[49, 50]⟩ : ByteArray).size = 2 := rfl
    refine text _ _ _ _ _ _ 0 26 0 (.inl ⟨.inr rfl, rfl⟩) (by omega) (by omega) hw' w hT hw ?_
    rw [app_none _ h2]
    exact dim hm hZ
end Go.Proofs.YtcljenkgbbbfpaaDoor.Kz
