/-
  Contracts for the law on findInvalidSegment: strings.IndexAny at the two separators, for every string. Conditions: sizes alone.
-/
import Derived.Test.YtjfegbkbhbhcoaaRows
import Derived.Test.YtjfegbkbhbhcoaaShelf
import Derived.Test.YtjfegbkbhbhcoaaFi
import Derived.Test.YtjfegbkbhbhcoaaStr
import Derived.WalkKit
import Derived.WalkSpells
import Derived.Handy
import Derived.Lib.Hide
import Derived.Lib.MapLaws
import Derived.Lib.OthersKept
import Derived.Laws.Runes
import Derived.Laws.RangeString
import Derived.Laws.RangeAny
import Derived.Deep.QuietTactic
import Derived.BigQuiet
namespace Go.Proofs.Ytjfegbkbhbhcoaa.Fz
open Go.RowKit Go.PlainAid Str Fi
set_option linter.unusedVariables false
def sepS : ByteArray := ⟨#[47, 92]⟩
theorem sepS_list : sepS.data.toList = Fi.chars := rfl
theorem get_at' (s : ByteArray) (k : Nat) (h : k < s.size) : (s.get! k) = s[k]'h := by
  have := get_at s k h
  rwa [Nat.add_zero] at this
/-- A rune read at a byte of 128 or more: its bytes are all such. -/
theorem high_bytes (s : ByteArray) (k : Nat) (h : k < s.size) (ha : 128 ≤ (s[k]'h).toNat) :
    128 ≤ (Utf8.decode s k).1 ∧ 1 ≤ (Utf8.decode s k).2 ∧ k + (Utf8.decode s k).2 ≤ s.size ∧ ∀ j (hj : j < s.size), k ≤ j → j < k + (Utf8.decode s k).2 → 128 ≤ (s[j]'hj).toNat := by
  have hb0 : (s.get! k).toNat = (s[k]'h).toNat := by rw [get_at' s k h]
  have key : ∀ j (hj : j < s.size), k ≤ j → 128 ≤ (s.get! j).toNat → 128 ≤ (s[j]'hj).toNat := fun j hj _ hg => by rw [← get_at' s j hj]; exact hg
  obtain ⟨hd1, hd2⟩ := decode_high s k h ha
  refine ⟨hd1, hd2, ?_⟩
  rw [Lib.decode_at]
  rcases Lib.decodeN_shape (s.size - k) (s.get! k).toNat (s.get! (k + 1)).toNat (s.get! (k + 2)).toNat (s.get! (k + 3)).toNat with ⟨h1, _⟩ | ⟨_, h1, h2, _, e⟩ | ⟨_, h1, h2, h3, _, _, e⟩ | ⟨_, h1, h2, h3, h4, _, _, e⟩ | e
  · omega
  · rw [e]
    refine ⟨by show k + 2 ≤ s.size; omega, fun j hj hk hlt => ?_⟩
    have : j = k ∨ j = k + 1 := by have : j < k + 2 := hlt; omega
    rcases this with rfl | rfl
    · exact ha
    · exact key _ hj (by omega) (by omega)
  · rw [e]
    refine ⟨by show k + 3 ≤ s.size; omega, fun j hj hk hlt => ?_⟩
    have : j = k ∨ j = k + 1 ∨ j = k + 2 := by have : j < k + 3 := hlt; omega
    rcases this with rfl | rfl | rfl
    · exact ha
    · exact key _ hj (by omega) (by omega)
    · exact key _ hj (by omega) (by omega)
  · rw [e]
    refine ⟨by show k + 4 ≤ s.size; omega, fun j hj hk hlt => ?_⟩
    have : j = k ∨ j = k + 1 ∨ j = k + 2 ∨ j = k + 3 := by have : j < k + 4 := hlt; omega
    rcases this with rfl | rfl | rfl | rfl
    · exact ha
    · exact key _ hj (by omega) (by omega)
    · exact key _ hj (by omega) (by omega)
    · exact key _ hj (by omega) (by omega)
  · rw [e]
    refine ⟨by show k + 1 ≤ s.size; omega, fun j hj hk hlt => ?_⟩
    obtain rfl : j = k := by have : j < k + 1 := hlt; omega
    exact ha
theorem valid_of (r : Int) (h : Lib.validRune r = true) : Utf8.valid r = true := by
  simp only [Lib.validRune, decide_eq_true_eq] at h
  simp [Utf8.valid]
  omega
theorem quiet_add_same {P : Program} {f : FuncId} {args : Array Value} {w : World} {a n : Nat} {v : Value}
    (h : Calls P f args (w.drewN (a + n)) fun e w' => e = .returned v ∧ w' = w.drewN (a + n)) :
    Calls P f args (w.drewN (a + n)) fun e w'' => e = .returned v ∧ ∃ m, w'' = w.drewN (a + m) :=
  h.mono fun _ _ ⟨he, hm⟩ => ⟨he, n, hm⟩
theorem below_drewN {B : Nat} {a w : World} (h : Below B a w) (n : Nat) : Below B a (w.drewN n) := ⟨h.os, h.tape, h.output, h.size, h.block⟩
theorem idx_empty (c : Int) (w : World) : Calls Try.prog 29 #[.string (sepS.extract 2 2), .int .u8 c] w fun e w' => e = .returned (.int .i64 (-1)) ∧ w' = w :=
  Try.strings_IndexByte (sepS.extract 2 2) c w
set_option maxRecDepth 100000 in
set_option maxHeartbeats 4000000 in
theorem rune_high (r : Int) (h0 : 128 ≤ r) (h1 : r ≤ 2147483647) (w : World) :
    Calls Try.prog 33 #[.string sepS, .int .i32 r] w fun e w' => e = .returned (.int .i64 (-1)) ∧ Below w.heap.size w w' := by
  have t0 : decide (0 ≤ r) = true := by simp; omega
  have t1 : decide (r < 128) = false := by simp; omega
  by_cases he : r = 65533
  · subst he
    go_enter Try.func33, Try.ntmps33
    go_wp2_with fail
    go_loopw [5, 6] (fun _ _ wr => ∃ k : Nat, k ≤ 2 ∧ wr = w.iter sepS k) (fun _ _ wr => 2 - wr.iterPos w.heap.size)
    case atStart => exact ⟨0, by omega, rfl⟩
    case round =>
      obtain ⟨k, hk, rfl⟩ := hrel
      by_cases hlt : k < 2
      · obtain ⟨hb1, hb2⟩ : (sepS[k]'hlt).toNat < 128 ∧ (((sepS[k]'hlt).toNat : Int) == 65533) = false := by
          have : k = 0 ∨ k = 1 := by omega
          rcases this with rfl | rfl
          · exact ⟨show 47 < 128 by omega, rfl⟩
          · exact ⟨show 92 < 128 by omega, rfl⟩
        have hnx := run_next_ascii (P := Try.prog) w sepS k 0 hlt hb1
        go_wp2_with fail
        exact ⟨⟨k + 1, by omega, rfl⟩, by simp only [World.iterPos_iter]; omega⟩
      · have hnx := run_next_end (P := Try.prog) w sepS k 0 hlt
        go_wp2_with fail
        go_ret
        exact ⟨rfl, (Below.refl _ _).alloc (Nat.le_refl _) _⟩
  · have t2 : (r == 65533) = false := by simpa using he
    clear he
    go_enter Try.func33, Try.ntmps33
    go_wp2_with fail
    refine (Try.utf8_ValidRune r _).mono ?_
    rintro e w' ⟨rfl, rfl⟩
    cases hv : Lib.validRune r with
    | false =>
      go_wp2_with fail
      go_ret
      exact ⟨rfl, Below.refl _ _⟩
    | true =>
      obtain ⟨e0, e1, e2⟩ := encode_facts r (valid_of r hv) h0
      have hgb := get_bt (Utf8.encode r)
      have hgs := get_bt sepS
      have hbl : 128 ≤ bt (Utf8.encode r) ((Utf8.encode r).size - 1) := by rw [bt_get _ _ (by omega)]; have := e2 (by omega); omega
      have hs1 : bt sepS 1 = 92 := rfl
      have HS1 := Lib.hid hs1
      clear e2 hv hs1
      by_cases h2 : (Utf8.encode r).size = 2
      · have h2a : (Utf8.encode r).size ≤ 2 := by omega
        have hbl1 : 128 ≤ bt (Utf8.encode r) 1 := by rw [h2] at hbl; exact hbl
        have hne : (bt sepS 1 != bt (Utf8.encode r) 1) = true := by
          rw [HS1.out]; simp; omega
        clear hbl e1 h2a e0
        have hss : sepS.size = 2 := rfl
        go_wp2_with fail
        go_step3
        go_wp2_with fail
        refine wp_loop_rounds 1 ?_
        rw [rounds_succ]
        go_wp2_with fail
        go_step3
        go_wp2_with fail
        go_quiet (fail)
        go_wp2_with fail
        go_quiet ((go_at_call 29; exact quiet_add_same (idx_empty _ _)))
        go_wp2_with fail
        rw [Exit.noGoto_ret]
        go_wp2_with fail
        rw [Exit.noGoto_ret]
        go_ret
        exact ⟨rfl, below_drewN (Below.refl _ _) _⟩
      · have h2a : 3 ≤ (Utf8.encode r).size := by omega
        clear h2 hgb hgs
        have hss : sepS.size = 2 := rfl
        go_wp2_with fail
        go_step3
        go_wp2_with fail
        refine wp_loop_rounds 1 ?_
        rw [rounds_succ]
        go_wp2_with fail
        rw [Exit.noGoto_ret]
        go_ret
        exact ⟨rfl, Below.refl _ _⟩
theorem list_get (s : ByteArray) (k : Nat) (h : k < s.size) : s.data.toList[k]? = some (s[k]'h) := Lib.data_getElem? s k h
theorem high_not (c : UInt8) (h : 128 ≤ c.toNat) : Fi.chars.contains c = false := by
  rw [chars_sep]
  unfold isSep
  have h1 : c ≠ 47 := fun e => by subst e; exact absurd h (by decide)
  have h2 : c ≠ 92 := fun e => by subst e; exact absurd h (by decide)
  simp [h1, h2]
theorem h116 : (Try.prog.info? 70).map (fun i => (i.zero, i.size)) = some (some (.agg (Array.replicate 256 (.bool false))), 256) := by kernel_rfl
theorem idx_sep (c : UInt8) : (Fi.chars.contains c = true → 0 ≤ Lib.indexByte sepS.data.toList c) ∧ (Fi.chars.contains c = false → Lib.indexByte sepS.data.toList c < 0) := by
  rw [sepS_list, Lib.contains_iff_indexByte]
  exact ⟨fun h => by simpa using h, fun h => by simpa using h⟩
set_option maxRecDepth 100000 in
set_option maxHeartbeats 4000000 in
theorem any_short (s : ByteArray) (h8 : s.size ≤ 8) (w : World) :
    Calls Try.prog 25 #[.string s, .string sepS] w fun e w' => e = .returned (.int .i64 (Lib.indexAny s.data.toList Fi.chars)) ∧ Below w.heap.size w w' := by
  have h8z : decide ((8 : Int) < (s.size : Int)) = false := by simp; omega
  have hemp : sepS.toList.isEmpty = false := by rw [Lib.toList_data]; rfl
  have hn1 : ((sepS.size : Int) == 1) = false := rfl
  go_enter Try.func25, Try.ntmps25
  go_wp2_with (first | (go_at_call 34; refine (Try.strings_shouldUseASCIISet _ _).mono ?_; rintro e w' ⟨rfl, hw⟩; rw [hw, h8z]))
  clear h8z hemp hn1
  go_loopw [9, 10] (fun _ _ wr => ∃ k : Nat, k ≤ s.size ∧ wr.heap[w.heap.size]? = some (.stringIter s k) ∧ Lib.NoAny s.data.toList Fi.chars k ∧ Below w.heap.size w wr) (fun _ _ wr => s.size - wr.iterPos w.heap.size)
  case atStart => exact ⟨0, by omega, World.iter_heap w s 0, Lib.NoAny.zero _ _, (Below.refl _ _).alloc (Nat.le_refl _) _⟩
  case round =>
    obtain ⟨k, hk, hit, hno, hb⟩ := hrel
    have hpos : wr.iterPos w.heap.size = k := by simp [World.iterPos, hit]
    have HN := Lib.hid hno
    have HIT := Lib.hid hit
    have HPOS := Lib.hid hpos
    have hsz : w.heap.size < wr.heap.size := (Array.getElem?_eq_some_iff.1 hit).1
    clear hno hpos
    by_cases hlt : k < s.size
    · by_cases ha : (s[k]'hlt).toNat < 128
      · have hnx := Lib.run_next_ascii_at (P := Try.prog) wr w.heap.size s k 0 hit hlt ha
        have hit' := Lib.iterAt_heap wr w.heap.size s k (k + 1) hit
        have hb' := Lib.below_iterAt hb (Nat.le_refl _) s (k + 1)
        have hz' := Lib.iterAt_size wr w.heap.size s (k + 1)
        obtain ⟨x, hx⟩ : ∃ x, s[k]'hlt = x := ⟨_, rfl⟩
        rw [hx] at hnx ha
        have HX : Hid (s.data.toList[k]? = some x) := Lib.hid (by rw [list_get s k hlt, hx])
        have HI := Lib.hid (idx_sep x)
        have HB := Lib.hid hb'
        have HIT' := Lib.hid hit'
        have HZ := Lib.hid hz'
        clear hx hit hb hit' hb' hz'
        generalize wr.iterAt w.heap.size s (k + 1) = wi at *
        cases hin : Fi.chars.contains x with
        | true =>
          have tg := HI.out.1 hin
          have HIN := Lib.hid hin
          clear hin
          go_wp2_with (first | (go_at_call 33; refine (Try.strings_IndexRune_ascii _ _ _ (by omega) (by omega)).mono ?_; rintro e w' ⟨rfl, hw⟩; subst hw))
          go_ret
          exact ⟨by rw [Lib.indexAny_hit HN.out HX.out HIN.out]; rfl, HB.out⟩
        | false =>
          have tg := HI.out.2 hin
          have HIN := Lib.hid hin
          clear hin
          go_wp2_with (first | (go_at_call 33; refine (Try.strings_IndexRune_ascii _ _ _ (by omega) (by omega)).mono ?_; rintro e w' ⟨rfl, hw⟩; subst hw))
          refine ⟨⟨k + 1, by omega, HIT'.out, HN.out.succ HX.out HIN.out, HB.out⟩, ?_⟩
          have e2 : w'.iterPos w.heap.size = k + 1 := by simp [World.iterPos, HIT'.out]
          rw [e2, HPOS.out]
          omega
      · have hh := high_bytes s k hlt (by omega)
        have hle := decode_le s k
        have hnx := Lib.run_next_any_at (P := Try.prog) wr w.heap.size s k 0 hit hlt
        have hno' : Lib.NoAny s.data.toList Fi.chars (k + (Utf8.decode s k).2) := fun j b hj hb => by
          rcases Nat.lt_or_ge j k with h | h
          · exact HN.out j b h hb
          · have hjs : j < s.size := by omega
            rw [list_get s j hjs] at hb
            have e : s[j]'hjs = b := by simpa using hb
            exact high_not b (by rw [← e]; exact hh.2.2.2 j hjs h hj)
        have hit' := Lib.iterAt_heap wr w.heap.size s k (k + (Utf8.decode s k).2) hit
        have hb' := Lib.below_iterAt hb (Nat.le_refl _) s (k + (Utf8.decode s k).2)
        have hz' := Lib.iterAt_size wr w.heap.size s (k + (Utf8.decode s k).2)
        obtain ⟨hr, hw1, hw2, _⟩ := hh
        generalize (Utf8.decode s k).2 = wd at *
        generalize (Utf8.decode s k).1 = r at *
        have HN' := Lib.hid hno'
        have HB := Lib.hid hb'
        have HIT' := Lib.hid hit'
        have HZ := Lib.hid hz'
        clear hit hb hit' hb' hz' hno' ha
        generalize wr.iterAt w.heap.size s (k + wd) = wi at *
        have hzi : w.heap.size < wi.heap.size := by rw [HZ.out]; exact hsz
        go_wp2_with (first | (go_at_call 33; refine (rune_high _ (by omega) (by omega) _).mono ?_; rintro e w4 ⟨rfl, hb4⟩))
        have hit4 : w4.heap[w.heap.size]? = some (.stringIter s (k + wd)) := (hb4.block _ hzi).trans HIT'.out
        refine ⟨⟨k + wd, by omega, hit4, HN'.out, HB.out.trans (hb4.mono (by omega))⟩, ?_⟩
        have e2 : w4.iterPos w.heap.size = k + wd := by simp [World.iterPos, hit4]
        rw [e2, HPOS.out]
        omega
    · have hnx := Lib.run_next_end_at (P := Try.prog) wr w.heap.size s k 0 hit hlt
      have HB := Lib.hid hb
      obtain rfl : k = s.size := by omega
      clear hit hb
      go_wp2_with fail
      go_ret
      exact ⟨by rw [Lib.indexAny_none (by rw [← Lib.size_eq]; exact HN.out)]; rfl, HB.out⟩
theorem any_sep (s : ByteArray) (hs : s.size ≤ 4000000) (w : World) :
    Calls Try.prog 25 #[.string s, .string sepS] w fun e w' => e = .returned (.int .i64 (Lib.indexAny s.data.toList Fi.chars)) ∧ Below w.heap.size w w' := by
  by_cases h8 : s.size ≤ 8
  · exact any_short s h8 w
  · refine (Try.strings_IndexAny_long (zero_of_info h116).1 s sepS w (by decide) (by omega) (by omega) (by decide) ?_).mono fun e w' ⟨h1, h2⟩ => ⟨h1, ?_⟩
    · intro j b hj
      rw [sepS_list] at hj
      have hm : b ∈ Fi.chars := List.mem_of_getElem? hj
      simp [Fi.chars] at hm
      rcases hm with rfl | rfl <;> decide
    · rw [h2]
      exact ((Below.refl _ _).alloc (Nat.le_refl _) _).alloc (by simp) _
end Go.Proofs.Ytjfegbkbhbhcoaa.Fz
