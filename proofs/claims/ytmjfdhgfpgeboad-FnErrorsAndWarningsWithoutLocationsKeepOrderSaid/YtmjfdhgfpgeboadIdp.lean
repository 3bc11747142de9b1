/-
  Proved: the table of names and numbers, the greatest number of a name is one number only, and StringToMaximumMsgID finds it if StringToMsgIDs sets
  the numbers of the name. Conditions: those that each theorem names as its hypotheses, and no others.
-/
import Derived.Test.YtmjfdhgfpgeboadProg
import Derived.WalkKit
import Derived.WalkSpells
import Derived.Handy
import Derived.Lib.Hide
import Derived.Below
import Derived.Carry
import Derived.Deep.QuietTactic
import Derived.Maps.Own
import Derived.Maps.OwnSet
import Derived.Maps.Views
import Derived.Maps.RangeWalk
namespace Go.Proofs.Ytmjfdhgfpgeboad.Idp
open Go.RowKit Go.Maps Go.WideMaps
set_option linter.unusedVariables false
set_option linter.unusedSimpArgs false
/-- m is the greatest of the numbers K, or 0 where there is none. -/
structure IsMax (K : Int → Prop) (m : Int) : Prop where
  top : ∀ c, K c → c ≤ m
  own : m = 0 ∨ K m
  low : 0 ≤ m
theorem IsMax.one {K : Int → Prop} (h0 : ∀ c, K c → 0 ≤ c) {m m' : Int} (h : IsMax K m) (h' : IsMax K m') : m = m' := by
  rcases h.own with e | e <;> rcases h'.own with e' | e'
  · omega
  · have := h.top _ e'; have := h'.low; omega
  · have := h'.top _ e; have := h.low; omega
  · have := h.top _ e'; have := h'.top _ e; omega
def arms : List (List UInt8 × Int × Int) := [
  ([97, 115, 115, 101, 114, 116, 45, 116, 111, 45, 119, 105, 116, 104], 1, 1),
  ([97, 115, 115, 101, 114, 116, 45, 116, 121, 112, 101, 45, 106, 115, 111, 110], 2, 2),
  ([97, 115, 115, 105, 103, 110, 45, 116, 111, 45, 99, 111, 110, 115, 116, 97, 110, 116], 3, 3),
  ([97, 115, 115, 105, 103, 110, 45, 116, 111, 45, 100, 101, 102, 105, 110, 101], 4, 4),
  ([97, 115, 115, 105, 103, 110, 45, 116, 111, 45, 105, 109, 112, 111, 114, 116], 5, 5),
  ([98, 105, 103, 105, 110, 116], 6, 6),
  ([99, 97, 108, 108, 45, 105, 109, 112, 111, 114, 116, 45, 110, 97, 109, 101, 115, 112, 97, 99, 101], 7, 7),
  ([99, 108, 97, 115, 115, 45, 110, 97, 109, 101, 45, 119, 105, 108, 108, 45, 116, 104, 114, 111, 119], 8, 8),
  ([99, 111, 109, 109, 111, 110, 106, 115, 45, 118, 97, 114, 105, 97, 98, 108, 101, 45, 105, 110, 45, 101, 115, 109], 9, 9),
  ([99, 111, 110, 102, 117, 115, 105, 110, 103, 45, 116, 121, 112, 101, 115, 99, 114, 105, 112, 116, 45, 99, 97, 115, 116], 10, 10),
  ([100, 101, 108, 101, 116, 101, 45, 115, 117, 112, 101, 114, 45, 112, 114, 111, 112, 101, 114, 116, 121], 11, 11),
  ([100, 105, 114, 101, 99, 116, 45, 101, 118, 97, 108], 12, 12),
  ([100, 117, 112, 108, 105, 99, 97, 116, 101, 45, 99, 97, 115, 101], 13, 13),
  ([100, 117, 112, 108, 105, 99, 97, 116, 101, 45, 99, 108, 97, 115, 115, 45, 109, 101, 109, 98, 101, 114], 14, 14),
  ([100, 117, 112, 108, 105, 99, 97, 116, 101, 45, 111, 98, 106, 101, 99, 116, 45, 107, 101, 121], 15, 15),
  ([101, 109, 112, 116, 121, 45, 105, 109, 112, 111, 114, 116, 45, 109, 101, 116, 97], 16, 16),
  ([101, 113, 117, 97, 108, 115, 45, 110, 97, 110], 17, 17),
  ([101, 113, 117, 97, 108, 115, 45, 110, 101, 103, 97, 116, 105, 118, 101, 45, 122, 101, 114, 111], 18, 18),
  ([101, 113, 117, 97, 108, 115, 45, 110, 101, 119, 45, 111, 98, 106, 101, 99, 116], 19, 19),
  ([104, 116, 109, 108, 45, 99, 111, 109, 109, 101, 110, 116, 45, 105, 110, 45, 106, 115], 20, 20),
  ([105, 109, 112, 111, 115, 115, 105, 98, 108, 101, 45, 116, 121, 112, 101, 111, 102], 21, 21),
  ([105, 110, 100, 105, 114, 101, 99, 116, 45, 114, 101, 113, 117, 105, 114, 101], 22, 22),
  ([112, 114, 105, 118, 97, 116, 101, 45, 110, 97, 109, 101, 45, 119, 105, 108, 108, 45, 116, 104, 114, 111, 119], 23, 23),
  ([115, 101, 109, 105, 99, 111, 108, 111, 110, 45, 97, 102, 116, 101, 114, 45, 114, 101, 116, 117, 114, 110], 24, 24),
  ([115, 117, 115, 112, 105, 99, 105, 111, 117, 115, 45, 98, 111, 111, 108, 101, 97, 110, 45, 110, 111, 116], 25, 25),
  ([115, 117, 115, 112, 105, 99, 105, 111, 117, 115, 45, 100, 101, 102, 105, 110, 101], 26, 26),
  ([115, 117, 115, 112, 105, 99, 105, 111, 117, 115, 45, 108, 111, 103, 105, 99, 97, 108, 45, 111, 112, 101, 114, 97, 116, 111, 114], 27, 27),
  ([115, 117, 115, 112, 105, 99, 105, 111, 117, 115, 45, 110, 117, 108, 108, 105, 115, 104, 45, 99, 111, 97, 108, 101, 115, 99, 105, 110, 103], 28, 28),
  ([116, 104, 105, 115, 45, 105, 115, 45, 117, 110, 100, 101, 102, 105, 110, 101, 100, 45, 105, 110, 45, 101, 115, 109], 29, 29),
  ([117, 110, 115, 117, 112, 112, 111, 114, 116, 101, 100, 45, 100, 121, 110, 97, 109, 105, 99, 45, 105, 109, 112, 111, 114, 116], 30, 30),
  ([117, 110, 115, 117, 112, 112, 111, 114, 116, 101, 100, 45, 106, 115, 120, 45, 99, 111, 109, 109, 101, 110, 116], 31, 31),
  ([117, 110, 115, 117, 112, 112, 111, 114, 116, 101, 100, 45, 114, 101, 103, 101, 120, 112], 32, 32),
  ([117, 110, 115, 117, 112, 112, 111, 114, 116, 101, 100, 45, 114, 101, 113, 117, 105, 114, 101, 45, 99, 97, 108, 108], 33, 33),
  ([99, 115, 115, 45, 115, 121, 110, 116, 97, 120, 45, 101, 114, 114, 111, 114], 34, 34),
  ([105, 110, 118, 97, 108, 105, 100, 45, 64, 99, 104, 97, 114, 115, 101, 116], 35, 35),
  ([105, 110, 118, 97, 108, 105, 100, 45, 64, 105, 109, 112, 111, 114, 116], 36, 36),
  ([105, 110, 118, 97, 108, 105, 100, 45, 64, 108, 97, 121, 101, 114], 37, 37),
  ([105, 110, 118, 97, 108, 105, 100, 45, 99, 97, 108, 99], 38, 38),
  ([106, 115, 45, 99, 111, 109, 109, 101, 110, 116, 45, 105, 110, 45, 99, 115, 115], 39, 39),
  ([117, 110, 100, 101, 102, 105, 110, 101, 100, 45, 99, 111, 109, 112, 111, 115, 101, 115, 45, 102, 114, 111, 109], 40, 40),
  ([117, 110, 115, 117, 112, 112, 111, 114, 116, 101, 100, 45, 64, 99, 104, 97, 114, 115, 101, 116], 41, 41),
  ([117, 110, 115, 117, 112, 112, 111, 114, 116, 101, 100, 45, 64, 110, 97, 109, 101, 115, 112, 97, 99, 101], 42, 42),
  ([117, 110, 115, 117, 112, 112, 111, 114, 116, 101, 100, 45, 99, 115, 115, 45, 112, 114, 111, 112, 101, 114, 116, 121], 43, 43),
  ([117, 110, 115, 117, 112, 112, 111, 114, 116, 101, 100, 45, 99, 115, 115, 45, 110, 101, 115, 116, 105, 110, 103], 44, 44),
  ([97, 109, 98, 105, 103, 117, 111, 117, 115, 45, 114, 101, 101, 120, 112, 111, 114, 116], 45, 45),
  ([100, 105, 102, 102, 101, 114, 101, 110, 116, 45, 112, 97, 116, 104, 45, 99, 97, 115, 101], 46, 46),
  ([101, 109, 112, 116, 121, 45, 103, 108, 111, 98], 47, 47),
  ([105, 103, 110, 111, 114, 101, 100, 45, 98, 97, 114, 101, 45, 105, 109, 112, 111, 114, 116], 48, 48),
  ([105, 103, 110, 111, 114, 101, 100, 45, 100, 121, 110, 97, 109, 105, 99, 45, 105, 109, 112, 111, 114, 116], 49, 49),
  ([105, 109, 112, 111, 114, 116, 45, 105, 115, 45, 117, 110, 100, 101, 102, 105, 110, 101, 100], 50, 50),
  ([114, 101, 113, 117, 105, 114, 101, 45, 114, 101, 115, 111, 108, 118, 101, 45, 110, 111, 116, 45, 101, 120, 116, 101, 114, 110, 97, 108], 51, 51),
  ([105, 110, 118, 97, 108, 105, 100, 45, 115, 111, 117, 114, 99, 101, 45, 109, 97, 112, 112, 105, 110, 103, 115], 52, 52),
  ([109, 105, 115, 115, 105, 110, 103, 45, 115, 111, 117, 114, 99, 101, 45, 109, 97, 112], 53, 53),
  ([117, 110, 115, 117, 112, 112, 111, 114, 116, 101, 100, 45, 115, 111, 117, 114, 99, 101, 45, 109, 97, 112, 45, 99, 111, 109, 109, 101, 110, 116], 54, 54),
  ([112, 97, 99, 107, 97, 103, 101, 46, 106, 115, 111, 110], 55, 61),
  ([116, 115, 99, 111, 110, 102, 105, 103, 46, 106, 115, 111, 110], 62, 70)]
/-- The numbers that StringToMsgIDs sets. -/
def Ks (s : ByteArray) (c : Int) : Prop := ∃ a ∈ arms, s.toList = a.1 ∧ a.2.1 ≤ c ∧ c ≤ a.2.2
theorem Ks_nonneg {s : ByteArray} {c : Int} (h : Ks s c) : 0 ≤ c := by
  obtain ⟨a, ha, _, h1, _⟩ := h
  have : ∀ a ∈ arms, 0 ≤ a.2.1 := by decide
  have := this a ha
  omega
theorem Ks_one {s : ByteArray} {m m' : Int} (h : IsMax (Ks s) m) (h' : IsMax (Ks s) m') : m = m' := h.one (fun _ => Ks_nonneg) h'
theorem Ks_arm {s : ByteArray} {L : List UInt8} {lo hi : Int} (hs : s.toList = L) (hm : (L, lo, hi) ∈ arms) (hu : ∀ a ∈ arms, a.1 = L → a = (L, lo, hi)) (c : Int) : Ks s c ↔ lo ≤ c ∧ c ≤ hi := by
  constructor
  · rintro ⟨a, ha, e, h1, h2⟩
    rw [hu a ha (e.symm.trans hs)] at h1 h2
    exact ⟨h1, h2⟩
  · rintro ⟨h1, h2⟩
    exact ⟨_, hm, hs, h1, h2⟩
theorem Ks_none {s : ByteArray} (h : ∀ a ∈ arms, s.toList ≠ a.1) (c : Int) : ¬ Ks s c := fun ⟨a, ha, e, _⟩ => h a ha e
theorem lawM : Keyed Try.prog 5 := int_keyed Try.underlying5
noncomputable abbrev RE : Value → Option (DataW Value × List MemPlace) := plainElem Try.prog 72
abbrev Om (w : World) (b n : Nat) (D : DataW Value) : Prop := w.ownsMap Try.prog 5 RE b n D
/-- What StringToMsgIDs does to an empty map. -/
def Ids (s : ByteArray) (b : Nat) (w : World) (e : Ending) (w' : World) : Prop :=
  e = .returned (.tuple #[]) ∧ ∃ n D, n ≤ 1000 ∧ Om w' b n D ∧ (∀ c, has D (.int .u8 c) = true ↔ Ks s c) ∧ w.grownBy w' (some b)
def Mxd (s : ByteArray) (w : World) (e : Ending) (w' : World) : Prop := ∃ m, IsMax (Ks s) m ∧ e = .returned (.int .u8 m) ∧ Below w.heap.size w w'
set_option maxRecDepth 100000 in
set_option maxHeartbeats 4000000 in
theorem max_any (hids : ∀ (s : ByteArray) (b : Nat) (w : World), Om w b 0 (.map []) → Calls Try.prog 20 #[.string s, .int .i8 3, .map (some b)] w (Ids s b w)) (s : ByteArray) (w : World) : Calls Try.prog 18 #[.string s] w (Mxd s w) := by
  have hmk := run_makeMap (P := Try.prog) 69
  go_enter Try.func18, Try.ntmps18
  go_wp2_with fail
  refine (hids s w.heap.size (w.alloc (.map #[] 0)) (World.ownsMap_made w Try.prog 5 RE)).mono ?_
  rintro e w1 ⟨rfl, n, D, hn, ho, hD, hg⟩
  have hb1 : Below w.heap.size w w1 := ((Below.refl _ _).alloc (Nat.le_refl _) _).grown hg (by simp) (fun j hj => by cases hj; exact Nat.le_refl _)
  have HD := Lib.hid hD
  have hlt0 := ho.lt
  clear hD hg
  go_wp2_with (first
    | (at_range; refine wpList_range_own _ rfl _ 69 rfl 5 72 lawM Try.underlying69 _ w.heap.size n D rfl ho ?_; intro w0 hrg0 hg0 hs0)
    | fail)
  go_frame
  have HB := Lib.hid (hb1.grown hg0 hb1.size (fun j hj => by cases hj))
  go_loopw [4] (fun m wr => ∃ (left : Lit → Bool) (cnt : Nat) (x : Int), m = .int .u8 x ∧ 0 ≤ x ∧ Hid (x = 0 ∨ Ks s x) ∧ Hid (∀ c, Ks s c → left (.int .u8 c) = false → c ≤ x) ∧ Hid (wr.ranges Try.prog 5 RE w.heap.size w1.heap.size n D left cnt) ∧ Hid (Below w.heap.size w wr))
    (fun _ wr => wr.rangeLeft w.heap.size w1.heap.size)
  case atStart => exact ⟨_, _, 0, rfl, by omega, Lib.hid (Or.inl rfl), Lib.hid (fun c hc hl => by rw [(HD.out c).2 hc] at hl; cases hl), Lib.hid hrg0, HB⟩
  case round =>
    obtain ⟨left, cnt, x, rfl, hx0, HX, HT, HR, HBr⟩ := hrel
    go_wp2_with (first
      | (at_next; refine wpList_next_ranges_ii _ rfl _ rfl 5 72 .u8 .i8 lawM Try.underlying5 Try.underlying72 w.heap.size w1.heap.size n _ _ _ rfl HR.out ?_ ?_)
      | fail)
    · intro hc0 hl0
      go_wp2_with fail
      go_ret
      exact ⟨x, ⟨fun c hc => HT.out c hc (hl0 _), HX.out, hx0⟩, rfl, HBr.out⟩
    · intro y c w2 cnt1 hwy hwc hly hat hrg1 hlt hg1 hs1 hen
      have hky : Ks s y := (HD.out y).1 (Maps.has_true_of_atKey hat)
      have hy0 : 0 ≤ y := Ks_nonneg hky
      have hm0 := HR.out.left_eq
      have hm1 := hrg1.left_eq
      have hB2 := Lib.hid (HBr.out.grown hg1 HBr.out.size (fun j hj => by cases hj; exact Nat.le_of_lt hlt0))
      have hT2 : ∀ z, x ≤ z → y ≤ z → Hid (∀ c, Ks s c → (fun z : Lit => left z && !z.sameKey (.int .u8 y)) (.int .u8 c) = false → c ≤ z) := fun z h1 h2 => Lib.hid fun c hc hl => by
        cases hlc : left (.int .u8 c) with
        | false => exact Int.le_trans (HT.out c hc hlc) h1
        | true =>
          simp only [hlc, Bool.true_and, Bool.not_eq_false'] at hl
          have := WideAt.sameKey_eq hl
          cases this
          exact h2
      have HK := Lib.hid hky
      have HR1 := Lib.hid hrg1
      clear hat hly hrg1 hg1 hs1 hwc hwy hky
      by_cases hxy : x < y
      · go_wp2_with fail
        go_roundw
        case rel => exact ⟨_, _, y, rfl, hy0, Lib.hid (Or.inr HK.out), hT2 y (by omega) (Int.le_refl _), HR1, hB2⟩
        case measure => rw [hm0, hm1]; exact hlt
      · go_wp2_with fail
        go_roundw
        case rel => exact ⟨_, _, x, rfl, hx0, HX, hT2 x (Int.le_refl _) (by omega), HR1, hB2⟩
        case measure => rw [hm0, hm1]; exact hlt
end Go.Proofs.Ytmjfdhgfpgeboad.Idp
