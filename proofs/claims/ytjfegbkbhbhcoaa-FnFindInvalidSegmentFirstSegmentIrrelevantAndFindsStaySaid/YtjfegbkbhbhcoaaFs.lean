/-
  Contracts for the law on findInvalidSegment: the function itself, the law's own helpers. Conditions: sizes alone.
-/
import Derived.Test.YtjfegbkbhbhcoaaFz
import Derived.WalkKit
import Derived.WalkSpells
import Derived.Handy
import Derived.Lib.Hide
namespace Go.Proofs.Ytjfegbkbhbhcoaa.Fs
open Go.RowKit Go.PlainAid Str Fi Fz
set_option linter.unusedVariables false
def bl (s : ByteArray) : List UInt8 := s.data.toList
def ofL (l : List UInt8) : ByteArray := ⟨l.toArray⟩
theorem bl_ofL (l : List UInt8) : bl (ofL l) = l := rfl
theorem ofL_bl (s : ByteArray) : ofL (bl s) = s := rfl
theorem bl_toList (s : ByteArray) : s.toList = bl s := ByteArray.toList_eq s
theorem bl_len (s : ByteArray) : (bl s).length = s.size := len_list s
def ba1 : ByteArray := ⟨#[46]⟩
def badB (s : ByteArray) : Bool := bad (bl s)
theorem beq_ofL (s : ByteArray) (l : List UInt8) : (s.toList == l) = (bl s == l) := by rw [bl_toList]
/-- The three tests, in the walk's own words. -/
theorem bad_ways (s : ByteArray) : (badB s = true ∧ ((s.toList == [46]) = true ∨ ((s.toList == [46]) = false ∧ ((s.toList == [46, 46]) = true ∨ ((s.toList == [46, 46]) = false ∧ (s.toList == [110, 111, 100, 101, 95, 109, 111, 100, 117, 108, 101, 115]) = true))))) ∨
    (badB s = false ∧ (s.toList == [46]) = false ∧ (s.toList == [46, 46]) = false ∧ (s.toList == [110, 111, 100, 101, 95, 109, 111, 100, 117, 108, 101, 115]) = false) := by
  rw [beq_ofL, beq_ofL, beq_ofL]
  unfold badB bad nodeM
  cases h1 : (bl s == [46]) <;> cases h2 : (bl s == [46, 46]) <;> cases h3 : (bl s == [110, 111, 100, 101, 95, 109, 111, 100, 117, 108, 101, 115]) <;> simp
theorem emp_yes {s : ByteArray} (h : s.size = 0) : s.toList.isEmpty = true ∧ s.toList = [] := by
  have : s.toList.length = 0 := by rw [ByteArray.toList_eq]; simpa using h
  have e : s.toList = [] := List.length_eq_zero_iff.1 this
  exact ⟨by rw [e]; rfl, e⟩
theorem emp_no {s : ByteArray} (h : 0 < s.size) : s.toList.isEmpty = false := by
  have : s.toList.length = s.size := by rw [ByteArray.toList_eq]; simp
  cases h' : s.toList with
  | nil => rw [h'] at this; simp at this; omega
  | cons a b => rfl
theorem bl_take (s : ByteArray) (d : Nat) : bl (s.extract 0 d) = (bl s).take d := by
  unfold bl; rw [extract_list]; simp
theorem bl_drop (s : ByteArray) (d : Nat) : bl (s.extract d s.size) = (bl s).drop d := by
  unfold bl; rw [extract_list, ← len_list, List.take_length]
def emptyS : ByteArray := ⟨#[]⟩
set_option maxRecDepth 100000 in
set_option maxHeartbeats 4000000 in
theorem find22 (p : ByteArray) (hp : p.size ≤ 4000000) (w : World) :
    Calls Try.prog 22 #[.string p] w fun e w' => e = .returned (.string (ofL (fis (bl p)))) ∧ Below w.heap.size w w' := by
  go_enter Try.func22, Try.ntmps22
  go_wp2_with fail
  refine (any_sep p hp _).mono ?_
  rintro e w1 ⟨rfl, b1⟩
  rcases idx_ways p.data.toList with ⟨hi, hno⟩ | ⟨d, c, hd, hi, hc, he, hx⟩
  · rw [hi]
    have HF := Lib.hid (fis_none (bl p) hno)
    clear hi hno
    go_wp2_with fail
    go_ret
    exact ⟨by rw [HF.out]; rfl, b1⟩
  · rw [hi]
    have hd' : d < p.size := by rw [← len_list]; exact hd
    have HF : Hid (fis (bl p) = fb [] (bl (p.extract (d + 1) p.size))) := Lib.hid (by
      rw [bl_drop]
      have := fis_seg ((bl p).take d) hx c hc ((bl p).drop (d + 1))
      rw [← this]
      congr 1)
    clear hi hd he hx hc
    have td : ((d : Int) == -1) = false := by simp
    go_wp2_with fail
    clear td
    have hq : (p.extract (d + 1) p.size).size ≤ 4000000 := by rw [size_extract]; omega
    generalize p.extract (d + 1) p.size = q at *
    go_loopw [0] (fun x wr => ∃ y : ByteArray, x = .string y ∧ y.size ≤ 4000000 ∧ fb [] (bl y) = fb [] (bl q) ∧ Below w.heap.size w wr) (fun x _ => match x with | .string y => y.size | _ => 0)
    case atStart => exact ⟨q, rfl, hq, rfl, b1⟩
    case round =>
      clear b1
      obtain ⟨y, rfl, hy, hfb, hb⟩ := hrel
      have HFB := Lib.hid hfb
      have HB := Lib.hid hb
      have hbz := hb.size
      clear hfb hb
      by_cases h0 : y.size = 0
      · have e1 := (emp_yes h0).1
        have e2 := (emp_yes h0).2
        have HE : Hid (fb [] (bl y) = []) := Lib.hid (by rw [← bl_toList, e2]; rfl)
        clear h0
        go_wp2_with fail
        go_ret
        exact ⟨by rw [HF.out, ← HFB.out, HE.out]; rfl, HB.out⟩
      · have hpos : 0 < y.size := by omega
        have e1 := emp_no hpos
        clear h0
        go_wp2_with fail
        refine (any_sep y hy _).mono ?_
        rintro e w2 ⟨rfl, b2⟩
        have HB2 := Lib.hid (HB.out.trans (b2.mono hbz))
        clear b2
        rcases idx_ways y.data.toList with ⟨hi, hno⟩ | ⟨d', c, hd, hi, hc, he, hx⟩
        · rw [hi]
          have HL := Lib.hid (fb_last (bl y) hno [])
          clear hi hno
          rcases bad_ways y with ⟨hbad, ht⟩ | ⟨hbad, t1, t2, t3⟩
          · have HBAD := Lib.hid hbad
            clear hbad
            rcases ht with t1 | ⟨t1, t2 | ⟨t2, t3⟩⟩
            all_goals
              go_wp2_with fail
              go_ret
              refine ⟨?_, HB2.out⟩
              rw [HF.out, ← HFB.out, HL.out, List.nil_append, if_pos (show bad (bl y) = true from HBAD.out), ofL_bl]
              rfl
          · have HBAD := Lib.hid hbad
            clear hbad
            go_wp2_with fail
            refine ⟨⟨emptyS, rfl, by decide, ?_, HB2.out⟩, ?_⟩
            · rw [← HFB.out, HL.out, List.nil_append, if_neg (by have := HBAD.out; unfold badB at this; rw [this]; simp)]
              rfl
            · exact hpos
        · rw [hi]
          have hd' : d' < y.size := by rw [← len_list]; exact hd
          have HL : Hid (fb [] (bl y) = if badB (y.extract 0 d') then bl (y.extract 0 d') else fb [] (bl (y.extract (d' + 1) y.size))) := Lib.hid (by
            unfold badB
            rw [bl_drop, bl_take]
            have := fb_seg ((bl y).take d') hx [] c hc ((bl y).drop (d' + 1))
            rw [List.nil_append] at this
            rw [← this]
            congr 1)
          clear hi hd he hx hc
          have td : ((d' : Int) != -1) = true := by simp
          have hsz : (y.extract (d' + 1) y.size).size < y.size := by rw [size_extract]; omega
          generalize hseg : y.extract 0 d' = seg at *
          rcases bad_ways seg with ⟨hbad, ht⟩ | ⟨hbad, t1, t2, t3⟩
          · have HBAD := Lib.hid hbad
            clear hbad
            rcases ht with t1 | ⟨t1, t2 | ⟨t2, t3⟩⟩
            all_goals
              go_wp2_with fail
              go_ret
              refine ⟨?_, HB2.out⟩
              rw [HF.out, ← HFB.out, HL.out, if_pos HBAD.out, ofL_bl]
              rfl
          · have HBAD := Lib.hid hbad
            clear hbad
            go_wp2_with fail
            exact ⟨⟨_, rfl, by omega, by rw [← HFB.out, HL.out, HBAD.out]; rfl, HB2.out⟩, hsz⟩
theorem find8 (p : ByteArray) (hp : p.size ≤ 4000000) (w : World) :
    Calls Try.prog 8 #[.string p] w fun e w' => e = .returned (.string (ofL (fis (bl p)))) ∧ Below w.heap.size w w' := by
  go_enter Try.func8, Try.ntmps8
  go_wp2_with fail
  refine (find22 p hp _).mono ?_
  rintro e w1 ⟨rfl, b1⟩
  go_wp2_with fail
  go_ret
  exact ⟨rfl, b1⟩
theorem isSep21 (x : UInt8) (w : World) : Calls Try.prog 21 #[.int .u8 x.toNat] w fun e w' => e = .returned (.bool (isSep x)) ∧ w = w' := by
  have key : ∀ c : UInt8, ((x.toNat : Int) == (c.toNat : Int)) = (x == c) := fun c => by
    rw [Bool.eq_iff_iff, beq_iff_eq, beq_iff_eq]
    exact ⟨fun h => UInt8.toNat_inj.1 (by omega), fun h => by rw [h]⟩
  have k1 : ((x.toNat : Int) == 47) = (x == 47) := key 47
  have k2 : ((x.toNat : Int) == 92) = (x == 92) := key 92
  clear key
  cases h1 : (x == 47) with
  | true =>
    rw [h1] at k1
    have HH : Hid (isSep x = true) := Lib.hid (by unfold isSep; rw [h1]; rfl)
    clear h1 k2
    go_enter Try.func21, Try.ntmps21
    go_wp2
    go_ret
    exact ⟨by rw [HH.out]; rfl, rfl⟩
  | false =>
    rw [h1] at k1
    cases h2 : (x == 92) with
    | true =>
      rw [h2] at k2
      have HH : Hid (isSep x = true) := Lib.hid (by unfold isSep; rw [h1, h2]; rfl)
      clear h1 h2
      go_enter Try.func21, Try.ntmps21
      go_wp2
      go_ret
      exact ⟨by rw [HH.out]; rfl, rfl⟩
    | false =>
      rw [h2] at k2
      have HH : Hid (isSep x = false) := Lib.hid (by unfold isSep; rw [h1, h2]; rfl)
      clear h1 h2
      go_enter Try.func21, Try.ntmps21
      go_wp2
      go_ret
      exact ⟨by rw [HH.out]; rfl, rfl⟩
def HasSep (s : ByteArray) (e : Ending) : Prop := ((∀ c ∈ bl s, isSep c = false) ∧ e = .returned (.bool false)) ∨ e = .returned (.bool true)
set_option maxHeartbeats 2000000 in
theorem hasSep7 (s : ByteArray) (hs : s.size ≤ 4000000) (w : World) : Calls Try.prog 7 #[.string s] w fun e w' => HasSep s e ∧ w = w' := by
  go_enter Try.func7, Try.ntmps7
  go_wp2
  go_loop [3] (fun i => ∃ k : Nat, k ≤ s.size ∧ i = .int .i64 k ∧ ∀ j c, j < k → s.data.toList[j]? = some c → isSep c = false) (fun i => s.size - (intOf i).toNat)
  case atStart => exact ⟨0, by omega, rfl, fun j c h => absurd h (by omega)⟩
  case round =>
    obtain ⟨k, hk, rfl, hn⟩ := hrel
    have HN := Lib.hid hn
    clear hn
    by_cases hlt : k < s.size
    · have HG := Lib.hid (list_get s k hlt)
      obtain ⟨x, hx⟩ : ∃ x, s[k]'hlt = x := ⟨_, rfl⟩
      rw [hx] at HG
      cases hs : isSep x with
      | true =>
        have HH := Lib.hid hs
        clear hs
        go_wp2_with (first | (go_at_call 21; refine (isSep21 x _).mono ?_; rintro e w' ⟨rfl, rfl⟩; rw [HH.out]))
        go_ret
        exact ⟨.inr rfl, rfl⟩
      | false =>
        have HH := Lib.hid hs
        clear hs
        go_wp2_with (first | (go_at_call 21; refine (isSep21 x _).mono ?_; rintro e w' ⟨rfl, rfl⟩; rw [HH.out]))
        go_round
        case rel =>
          refine ⟨k + 1, by omega, by go_num, fun j c hj hc => ?_⟩
          rcases Nat.lt_or_ge j k with h | h
          · exact HN.out j c h hc
          · obtain rfl : j = k := by omega
            rw [HG.out] at hc
            obtain rfl : x = c := by simpa using hc
            exact HH.out
        case measure => simp [intOf]; omega
    · go_wp2
      go_ret
      refine ⟨.inl ⟨fun c hc => ?_, rfl⟩, rfl⟩
      obtain ⟨j, hj⟩ := List.getElem?_of_mem hc
      have hjl : j < (bl s).length := (List.getElem?_eq_some_iff.1 hj).1
      rw [bl_len] at hjl
      exact HN.out j c (by omega) hj
set_option maxHeartbeats 1000000 in
theorem bad9 (s : ByteArray) (w : World) : Calls Try.prog 9 #[.string s] w fun e w' => e = .returned (.bool (badB s)) ∧ w = w' := by
  rcases bad_ways s with ⟨hbad, ht⟩ | ⟨hbad, t1, t2, t3⟩
  · have HBAD := Lib.hid hbad
    clear hbad
    rcases ht with t1 | ⟨t1, t2 | ⟨t2, t3⟩⟩
    all_goals
      go_enter Try.func9, Try.ntmps9
      go_wp2
      go_ret
      exact ⟨by rw [HBAD.out]; rfl, rfl⟩
  · have HBAD := Lib.hid hbad
    clear hbad
    go_enter Try.func9, Try.ntmps9
    go_wp2
    go_ret
    exact ⟨by rw [HBAD.out]; rfl, rfl⟩
end Go.Proofs.Ytjfegbkbhbhcoaa.Fs
