/-
  Proved: symMerge and sort.Stable leave messages without places as they are. Conditions: those that each theorem names as its hypotheses, and no
  others.
-/
import Derived.Test.YtmjfdhgfpgeboadPg
namespace Go.Proofs.Ytmjfdhgfpgeboad.Sm
open Go.RowKit Go.PlainAid Mem Ho Pg
set_option linter.unusedVariables false
set_option linter.unusedSimpArgs false
def Sym (A : Option Addr) (n c a m b : Nat) (w : World) : Prop := Calls Try.prog 22 #[.iface 55 (.slice A n c), .int .i64 a, .int .i64 m, .int .i64 b] w (Giv (.tuple #[]) w)
set_option maxRecDepth 100000 in
set_option maxHeartbeats 4000000 in
theorem symA (A : Option Addr) (lo n c a b : Nat) (xs : List Value) (w : World) (hr : w.ownsRow lo 43 8 (.slice A n c) n xs) (hx : NoL xs n) (hmb : a + 1 < b) (hb : b ≤ n) (hn : n ≤ 1048576) : Sym A n c a (a + 1) b w := by
  unfold Sym
  have HR := Lib.hid hr
  have HX := Lib.hid hx
  clear hr hx
  obtain ⟨m, hm⟩ : ∃ m, m = a + 1 := ⟨_, rfl⟩
  rw [← hm]
  have e0 : (((m : Int) - (a : Int)) == 1) = true := by rw [beq_iff_eq]; omega
  have hm1 : m ≤ 1048576 := by omega
  have ha1 : a ≤ 1048576 := by omega
  have hb1 : b ≤ 1048576 := by omega
  have hamb : a < m := by omega
  have hmb1 : m < b := by omega
  have HM := Lib.hid hm
  clear hm hmb
  go_enter Try.func22, Try.ntmps22
  go_wp2_with fail
  go_loopw [8, 9] (fun x y W => ∃ j : Nat, m ≤ j ∧ j ≤ b ∧ x = .int .i64 m ∧ y = .int .i64 j ∧ Hid (Below w.heap.size w W)) (fun _ y _ => (intOf y).toNat)
  case atStart => exact ⟨b, by omega, Nat.le_refl _, rfl, rfl, Lib.hid (Below.refl _ _)⟩
  case round =>
    obtain ⟨j, hj1, hj2, rfl, rfl, HB⟩ := hrel
    obtain ⟨wo, rfl⟩ : ∃ wo : World, wo = wr := ⟨_, rfl⟩
    by_cases hlt : m < j
    · go_wp2_with fail
      obtain ⟨h, hh, hl1, hl2⟩ : ∃ h : Nat, ((m : Int) + (j : Int)) / 2 = (h : Int) ∧ m ≤ h ∧ h < j := ⟨(m + j) / 2, by omega, by omega, by omega⟩
      rw [hh]
      have HH := Lib.hid hh
      clear hh
      refine (less45 A lo n c h a xs wo (row_below (B := 0) HR.out HB.out) HX.out (by omega) (by omega) hn).mono ?_
      rintro e w1 ⟨rfl, hb1'⟩
      have HB1 := Lib.hid (HB.out.trans (hb1'.mono HB.out.size))
      clear hb1'
      go_wp2_with fail
      go_roundw
      case rel => exact ⟨h, by omega, by omega, rfl, rfl, HB1⟩
      case measure => simp [intOf]; omega
    · obtain rfl : m = j := by omega
      have z0 : decide ((m : Int) < m) = false := decide_eq_false (by omega)
      have z1 : decide ((a : Int) < (m : Int) - 1) = false := decide_eq_false (by have := HM.out; omega)
      go_wp2
      refine wp_loop_rounds 1 ?_
      rw [rounds_succ]
      go_wp2
      go_end0
      exact ⟨rfl, HB.out⟩
set_option maxRecDepth 100000 in
set_option maxHeartbeats 4000000 in
theorem symB (A : Option Addr) (lo n c a m : Nat) (xs : List Value) (w : World) (hr : w.ownsRow lo 43 8 (.slice A n c) n xs) (hx : NoL xs n) (ham : a + 1 < m) (hb : m + 1 ≤ n) (hn : n ≤ 1048576) : Sym A n c a m (m + 1) w := by
  unfold Sym
  have HR := Lib.hid hr
  have HX := Lib.hid hx
  clear hr hx
  obtain ⟨b, hm⟩ : ∃ b, b = m + 1 := ⟨_, rfl⟩
  rw [← hm]
  have e0 : (((m : Int) - (a : Int)) == 1) = false := by rw [beq_eq_false_iff_ne]; omega
  have e1 : (((b : Int) - (m : Int)) == 1) = true := by rw [beq_iff_eq]; omega
  have hm1 : m ≤ 1048576 := by omega
  have ha1 : a ≤ 1048576 := by omega
  have hb1 : b ≤ 1048576 := by omega
  have hamb : a < m := by omega
  have hmb1 : m < b := by omega
  have hbn : b ≤ n := by omega
  clear hm
  go_enter Try.func22, Try.ntmps22
  go_wp2_with fail
  go_loopw [12, 13] (fun x y W => ∃ i : Nat, a ≤ i ∧ i ≤ m ∧ x = .int .i64 i ∧ y = .int .i64 m ∧ Hid (Below w.heap.size w W)) (fun x _ _ => m - (intOf x).toNat)
  case atStart => exact ⟨a, Nat.le_refl _, by omega, rfl, rfl, Lib.hid (Below.refl _ _)⟩
  case round =>
    obtain ⟨i, hi1, hi2, rfl, rfl, HB⟩ := hrel
    obtain ⟨wo, rfl⟩ : ∃ wo : World, wo = wr := ⟨_, rfl⟩
    by_cases hlt : i < m
    · go_wp2_with fail
      obtain ⟨h, hh, hl1, hl2⟩ : ∃ h : Nat, ((i : Int) + (m : Int)) / 2 = (h : Int) ∧ i ≤ h ∧ h < m := ⟨(i + m) / 2, by omega, by omega, by omega⟩
      rw [hh]
      have HH := Lib.hid hh
      clear hh
      refine (less45 A lo n c m h xs wo (row_below (B := 0) HR.out HB.out) HX.out (by omega) (by omega) hn).mono ?_
      rintro e w1 ⟨rfl, hb1'⟩
      have HB1 := Lib.hid (HB.out.trans (hb1'.mono HB.out.size))
      clear hb1'
      go_wp2_with fail
      go_roundw
      case rel => exact ⟨h + 1, by omega, by omega, by go_num, rfl, HB1⟩
      case measure => simp [intOf]; omega
    · obtain rfl : m = i := by omega
      have z0 : decide ((m : Int) < m) = false := decide_eq_false (by omega)
      go_wp2
      refine wp_loop_rounds 1 ?_
      rw [rounds_succ]
      go_wp2
      go_end0
      exact ⟨rfl, HB.out⟩
set_option maxRecDepth 100000 in
set_option maxHeartbeats 4000000 in
theorem symC (A : Option Addr) (lo n c a m b : Nat) (xs : List Value) (w : World) (hr : w.ownsRow lo 43 8 (.slice A n c) n xs) (hx : NoL xs n) (ham : a + 1 < m) (hmb : m + 1 < b) (hb : b ≤ n) (hn : n ≤ 1048576)
    (ih : ∀ a' m' b', b' - a' < b - a → a' < m' → m' < b' → b' ≤ n → ∀ w', w'.ownsRow lo 43 8 (.slice A n c) n xs → Sym A n c a' m' b' w') : Sym A n c a m b w := by
  unfold Sym at ih ⊢
  have HR := Lib.hid hr
  have HX := Lib.hid hx
  have HI := Lib.hid ih
  clear hr hx ih
  have e0 : (((m : Int) - (a : Int)) == 1) = false := by rw [beq_eq_false_iff_ne]; omega
  have e1 : (((b : Int) - (m : Int)) == 1) = false := by rw [beq_eq_false_iff_ne]; omega
  have hm1 : m ≤ 1048576 := by omega
  have ha1 : a ≤ 1048576 := by omega
  have hb1 : b ≤ 1048576 := by omega
  obtain ⟨d, hd, hd1, hd2, hd3⟩ : ∃ d : Nat, ((a : Int) + (b : Int)) / 2 = (d : Int) ∧ a < d ∧ d < b ∧ (a + b) / 2 = d := ⟨(a + b) / 2, by omega, by omega, by omega, rfl⟩
  have HD := Lib.hid hd
  have HD3 := Lib.hid hd3
  clear hd hd3
  go_enter Try.func22, Try.ntmps22
  go_upto_region 25 with fail
  rw [HD.out]
  by_cases hmd : d < m
  · have z0 : decide ((d : Int) < m) = true := decide_eq_true (by omega)
    obtain ⟨s0, hs0, hs1, hs2⟩ : ∃ s0 : Nat, (d : Int) + (m : Int) - (b : Int) = (s0 : Int) ∧ s0 < d ∧ d + m - b = s0 := ⟨d + m - b, by have := HD3.out; omega, by omega, rfl⟩
    have HS0 := Lib.hid hs0
    have HS2 := Lib.hid hs2
    clear hs0 hs2
    go_upto_region 32 with fail
    rw [HS0.out]
    go_wp2_with fail
    go_loopw [18, 19] (fun x y W => ∃ i : Nat, s0 ≤ i ∧ i ≤ d ∧ x = .int .i64 i ∧ y = .int .i64 d ∧ Hid (Below w.heap.size w W)) (fun x _ _ => d - (intOf x).toNat)
    case atStart => exact ⟨s0, Nat.le_refl _, by omega, rfl, rfl, Lib.hid (Below.refl _ _)⟩
    case round =>
      obtain ⟨i, hi1, hi2, rfl, rfl, HB⟩ := hrel
      obtain ⟨wo, rfl⟩ : ∃ wo : World, wo = wr := ⟨_, rfl⟩
      by_cases hlt : i < d
      · go_upto_region 35 with fail
        obtain ⟨h, hh, hl1, hl2⟩ : ∃ h : Nat, ((i : Int) + (d : Int)) / 2 = (h : Int) ∧ i ≤ h ∧ h < d := ⟨(i + d) / 2, by omega, by omega, by omega⟩
        rw [hh]
        have HH := Lib.hid hh
        clear hh
        obtain ⟨k, hk, hk1⟩ : ∃ k : Nat, (d : Int) + (m : Int) - 1 - (h : Int) = (k : Int) ∧ k < n := ⟨d + m - 1 - h, by omega, by have := HS2.out; omega⟩
        have HK := Lib.hid hk
        clear hk
        go_wp2_with fail
        rw [HK.out]
        refine (less45 A lo n c k h xs wo (row_below (B := 0) HR.out HB.out) HX.out hk1 (by omega) hn).mono ?_
        rintro e w1 ⟨rfl, hb1'⟩
        have HB1 := Lib.hid (HB.out.trans (hb1'.mono HB.out.size))
        clear hb1'
        go_wp2_with fail
        go_roundw
        case rel => exact ⟨h + 1, by omega, by omega, by go_num, rfl, HB1⟩
        case measure => simp [intOf]; omega
      · obtain rfl : d = i := by omega
        have z2 : decide ((d : Int) < d) = false := decide_eq_false (by omega)
        have z3 : decide ((m : Int) < m) = false := decide_eq_false (by omega)
        go_upto_region 39 with fail
        rw [show (d : Int) + (m : Int) - (d : Int) = (m : Int) from by omega]
        have z4 : decide ((m : Int) < b) = true := decide_eq_true (by omega)
        have z5 : decide ((a : Int) < d) = true := decide_eq_true (by omega)
        go_wp2_with fail
        refine (HI.out d m b (by omega) (by omega) (by omega) hb wo (row_below (B := 0) HR.out HB.out)).mono ?_
        rintro e w1 ⟨rfl, hb1'⟩
        have HB1 := Lib.hid (HB.out.trans (hb1'.mono HB.out.size))
        clear hb1'
        go_wp2
        go_end0
        exact ⟨rfl, HB1.out⟩
  · have z0 : decide ((d : Int) < m) = false := decide_eq_false (by omega)
    go_wp2_with fail
    go_loopw [18, 19] (fun x y W => ∃ i : Nat, a ≤ i ∧ i ≤ m ∧ x = .int .i64 i ∧ y = .int .i64 m ∧ Hid (Below w.heap.size w W)) (fun x _ _ => m - (intOf x).toNat)
    case atStart => exact ⟨a, Nat.le_refl _, by omega, rfl, rfl, Lib.hid (Below.refl _ _)⟩
    case round =>
      obtain ⟨i, hi1, hi2, rfl, rfl, HB⟩ := hrel
      obtain ⟨wo, rfl⟩ : ∃ wo : World, wo = wr := ⟨_, rfl⟩
      by_cases hlt : i < m
      · go_upto_region 35 with fail
        obtain ⟨h, hh, hl1, hl2⟩ : ∃ h : Nat, ((i : Int) + (m : Int)) / 2 = (h : Int) ∧ i ≤ h ∧ h < m := ⟨(i + m) / 2, by omega, by omega, by omega⟩
        rw [hh]
        have HH := Lib.hid hh
        clear hh
        obtain ⟨k, hk, hk1⟩ : ∃ k : Nat, (d : Int) + (m : Int) - 1 - (h : Int) = (k : Int) ∧ k < n := ⟨d + m - 1 - h, by omega, by have := HD3.out; omega⟩
        have HK := Lib.hid hk
        clear hk
        go_wp2_with fail
        rw [HK.out]
        refine (less45 A lo n c k h xs wo (row_below (B := 0) HR.out HB.out) HX.out hk1 (by omega) hn).mono ?_
        rintro e w1 ⟨rfl, hb1'⟩
        have HB1 := Lib.hid (HB.out.trans (hb1'.mono HB.out.size))
        clear hb1'
        go_wp2_with fail
        go_roundw
        case rel => exact ⟨h + 1, by omega, by omega, by go_num, rfl, HB1⟩
        case measure => simp [intOf]; omega
      · obtain rfl : m = i := by omega
        have z2 : decide ((m : Int) < m) = false := decide_eq_false (by omega)
        go_upto_region 39 with fail
        have z3 : decide ((d : Int) < d) = false := decide_eq_false (by omega)
        have z5 : decide ((a : Int) < m) = true := decide_eq_true (by omega)
        by_cases hmd2 : m < d
        · have z4 : decide ((m : Int) < d) = true := decide_eq_true (by omega)
          go_wp2_with fail
          refine (HI.out a m d (by omega) (by omega) (by omega) (by omega) wo (row_below (B := 0) HR.out HB.out)).mono ?_
          rintro e w1 ⟨rfl, hb1'⟩
          have HB1 := Lib.hid (HB.out.trans (hb1'.mono HB.out.size))
          clear hb1'
          go_wp2
          go_end0
          exact ⟨rfl, HB1.out⟩
        · have z4 : decide ((m : Int) < d) = false := decide_eq_false (by omega)
          go_wp2
          go_end0
          exact ⟨rfl, HB.out⟩
theorem sym22 (A : Option Addr) (lo n c : Nat) (xs : List Value) (hx : NoL xs n) (hn : n ≤ 1048576) : ∀ (N a m b : Nat), b - a ≤ N → a < m → m < b → b ≤ n → ∀ w, w.ownsRow lo 43 8 (.slice A n c) n xs → Sym A n c a m b w
  | 0, a, m, b, h, ha, hm, hb, w, hr => by omega
  | N + 1, a, m, b, h, ha, hm, hb, w, hr => by
    by_cases h1 : m = a + 1
    · subst h1; exact symA A lo n c a b xs w hr hx (by omega) hb hn
    by_cases h2 : b = m + 1
    · subst h2; exact symB A lo n c a m xs w hr hx (by omega) hb hn
    exact symC A lo n c a m b xs w hr hx (by omega) (by omega) hb hn fun a' m' b' h' ha' hm' hb' w' hr' => sym22 A lo n c xs hx hn N a' m' b' (by omega) ha' hm' hb' w' hr'
set_option maxRecDepth 100000 in
set_option maxHeartbeats 4000000 in
theorem stab19 (A : Option Addr) (lo n c : Nat) (xs : List Value) (w : World) (hr : w.ownsRow lo 43 8 (.slice A n c) n xs) (hx : NoL xs n) (hn : n ≤ 1048576) :
    Calls Try.prog 19 #[.iface 55 (.slice A n c), .int .i64 n] w (Giv (.tuple #[]) w) := by
  have HI := Lib.hid fun (a b : Nat) (W : World) (hW : W.ownsRow lo 43 8 (.slice A n c) n xs) (ha : a ≤ 1048576) (hb : b ≤ n) => ins21 A lo n c a b xs W hW hx hb hn ha
  have HS := Lib.hid fun (a m b : Nat) (W : World) (hW : W.ownsRow lo 43 8 (.slice A n c) n xs) (h1 : a < m) (h2 : m < b) (h3 : b ≤ n) => sym22 A lo n c xs hx hn (b - a) a m b (Nat.le_refl _) h1 h2 h3 W hW
  have HR := Lib.hid hr
  unfold Sym at HS
  clear hr hx
  go_enter Try.func19, Try.ntmps19
  go_wp2
  go_loopw [5, 6] (fun x y W => ∃ a : Nat, a ≤ n ∧ x = .int .i64 a ∧ y = .int .i64 ((a + 20 : Nat) : Int) ∧ Hid (Below w.heap.size w W)) (fun x _ _ => n - (intOf x).toNat)
  case atStart => exact ⟨0, Nat.zero_le _, rfl, rfl, Lib.hid (Below.refl _ _)⟩
  case round =>
    obtain ⟨a, ha, rfl, rfl, HB⟩ := hrel
    obtain ⟨wo, rfl⟩ : ∃ wo : World, wo = wr := ⟨_, rfl⟩
    obtain ⟨b, hb⟩ : ∃ b, b = a + 20 := ⟨_, rfl⟩
    rw [← hb]
    have HBb := Lib.hid hb
    have hb1 : b ≤ 1048600 := by omega
    have hab : a < b := by omega
    clear hb
    by_cases hlt : b ≤ n
    · have z0 : decide ((b : Int) ≤ n) = true := decide_eq_true (by omega)
      go_wp2_with fail
      refine (HI.out a b wo (row_below (B := 0) HR.out HB.out) (by omega) hlt).mono ?_
      rintro e w1 ⟨rfl, hb1'⟩
      have HB1 := Lib.hid (HB.out.trans (hb1'.mono HB.out.size))
      clear hb1'
      go_wp2_with fail
      go_roundw
      case rel => exact ⟨b, hlt, rfl, by go_num, HB1⟩
      case measure => simp [intOf]; omega
    · have z0 : decide ((b : Int) ≤ n) = false := decide_eq_false (by omega)
      go_wp2_with fail
      refine (HI.out a n wo (row_below (B := 0) HR.out HB.out) (by omega) (Nat.le_refl _)).mono ?_
      rintro e w1 ⟨rfl, hb1'⟩
      have HB1 := Lib.hid (HB.out.trans (hb1'.mono HB.out.size))
      clear hb1' z0
      go_wp2_with fail
      go_loopw [4] (fun x W => ∃ s : Nat, 20 ≤ s ∧ s ≤ 20 + 2 * n ∧ x = .int .i64 s ∧ Hid (Below w.heap.size w W)) (fun x _ => n - (intOf x).toNat)
      case atStart => exact ⟨20, by omega, by omega, rfl, HB1⟩
      case round =>
        obtain ⟨s, hs1, hs2, rfl, HB2⟩ := hrel
        obtain ⟨w2, rfl⟩ : ∃ w2 : World, w2 = wr := ⟨_, rfl⟩
        by_cases hsn : s < n
        · have z1 : decide ((s : Int) < n) = true := decide_eq_true (by omega)
          go_wp2_with fail
          go_loopw [5, 6] (fun x y W => ∃ a : Nat, a ≤ n ∧ x = .int .i64 a ∧ y = .int .i64 ((a + 2 * s : Nat) : Int) ∧ Hid (Below w.heap.size w W)) (fun x _ _ => n - (intOf x).toNat)
          case atStart => exact ⟨0, Nat.zero_le _, rfl, by go_num, HB2⟩
          case round =>
            obtain ⟨a', ha', rfl, rfl, HB3⟩ := hrel
            obtain ⟨w3, rfl⟩ : ∃ w3 : World, w3 = wr := ⟨_, rfl⟩
            obtain ⟨b', hb'⟩ : ∃ b', b' = a' + 2 * s := ⟨_, rfl⟩
            rw [← hb']
            obtain ⟨m', hm'⟩ : ∃ m', (a' : Int) + (s : Int) = ((m' : Nat) : Int) := ⟨a' + s, by omega⟩
            have hb1 : b' ≤ 10485760 := by omega
            have hm1 : a' < m' := by omega
            have hm2 : m' < b' := by omega
            have HBb := Lib.hid hb'
            have HM := Lib.hid hm'
            clear hb' hm'
            by_cases hlt' : b' ≤ n
            · have z0 : decide ((b' : Int) ≤ n) = true := decide_eq_true (by omega)
              go_wp2_with fail
              rw [HM.out]
              refine (HS.out a' m' b' w3 (row_below (B := 0) HR.out HB3.out) hm1 hm2 hlt').mono ?_
              rintro e w4 ⟨rfl, hb4⟩
              have HB4 := Lib.hid (HB3.out.trans (hb4.mono HB3.out.size))
              clear hb4
              go_wp2_with fail
              go_roundw
              case rel => exact ⟨b', hlt', rfl, by go_num, HB4⟩
              case measure => simp [intOf]; omega
            · have z0 : decide ((b' : Int) ≤ n) = false := decide_eq_false (by omega)
              go_upto_region 14 with fail
              rw [HM.out]
              by_cases hmn : m' < n
              · have z2 : decide ((m' : Int) < n) = true := decide_eq_true (by omega)
                go_wp2_with fail
                refine (HS.out a' m' n w3 (row_below (B := 0) HR.out HB3.out) hm1 hmn (Nat.le_refl _)).mono ?_
                rintro e w4 ⟨rfl, hb4⟩
                have HB4 := Lib.hid (HB3.out.trans (hb4.mono HB3.out.size))
                clear hb4
                go_wp2_with fail
                go_roundw
                case rel => exact ⟨s * 2, by omega, by omega, by go_num, HB4⟩
                case measure => simp [intOf]; omega
              · have z2 : decide ((m' : Int) < n) = false := decide_eq_false (by omega)
                go_wp2_with fail
                go_roundw
                case rel => exact ⟨s * 2, by omega, by omega, by go_num, HB3⟩
                case measure => simp [intOf]; omega
        · have z1 : decide ((s : Int) < n) = false := decide_eq_false (by omega)
          go_wp2
          go_end0
          exact ⟨rfl, HB2.out⟩
theorem stable16 (A : Option Addr) (lo n c : Nat) (xs : List Value) (w : World) (hr : w.ownsRow lo 43 8 (.slice A n c) n xs) (hx : NoL xs n) (hn : n ≤ 1048576) :
    Calls Try.prog 16 #[.iface 55 (.slice A n c)] w (Giv (.tuple #[]) w) := by
  have HI := Lib.hid (stab19 A lo n c xs w hr hx hn)
  clear hr hx
  go_enter Try.func16, Try.ntmps16
  go_wp2_with fail
  refine (len44 A n c w).mono ?_
  rintro e w' ⟨rfl, rfl⟩
  go_wp2_with fail
  refine HI.out.mono ?_
  rintro e w' ⟨rfl, hb⟩
  go_wp2
  go_end0
  exact ⟨rfl, hb⟩
end Go.Proofs.Ytmjfdhgfpgeboad.Sm
