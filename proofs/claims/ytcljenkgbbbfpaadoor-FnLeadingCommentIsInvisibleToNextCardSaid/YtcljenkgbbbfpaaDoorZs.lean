/-
  Proved: what the guards of the law answer: a text contains another, a legal body, the domain of the tail, a url with a parenthesis, the count of a
  byte. Conditions: those that each theorem names as its hypotheses, and no others.
-/
import Derived.Test.YtcljenkgbbbfpaaDoorZh
import Derived.Handy
namespace Go.Proofs.YtcljenkgbbbfpaaDoor.Zs
open Go.RowKit Go.PlainAid Str Mem De Lu Dw Cu Rws Za Zb Zc Zd Ze Zf Zg Zh
set_option linter.unusedVariables false
set_option linter.unusedSimpArgs false
/-- p occurs nowhere in s. -/
def Free (s p : ByteArray) : Prop := ∀ i, i + p.size ≤ s.size → ∃ j, j < p.size ∧ bt s (i + j) ≠ bt p j
theorem wrap_ij (x : Int) (h0 : 0 ≤ x) (h1 : x ≤ 4000002) : IntKind.i64.wrap x = x := by
  simp [IntKind.wrap, IntKind.bits, IntKind.signed]
  omega
def Told (Q : Bool → Prop) (w : World) (e : Ending) (w' : World) : Prop := ∃ b, e = .returned (.bool b) ∧ Q b ∧ Below w.heap.size w w'
set_option maxRecDepth 100000 in
set_option maxHeartbeats 8000000 in
theorem con32 (s p : ByteArray) (w : World) (hs : s.size ≤ 2000000) (hp : p.size ≤ 2000000) :
    Calls Tryd.prog 32 #[.string s, .string p] w (Told (fun b => b = false → Free s p) w) := by
  have hgs := get_bt s
  have hgp := get_bt p
  go_enter Tryd.func32, Tryd.ntmps32
  go_wp2_with fail
  go_loopw [5, 4, 6] (fun v5 v4 v6 wr => ∃ i : Nat, v5 = .int .i64 (i : Int) ∧ Hid (i ≤ s.size + 1 ∧ (∀ i', i' < i → i' + p.size ≤ s.size → ∃ j, j < p.size ∧ bt s (i' + j) ≠ bt p j)) ∧ Below w.heap.size w wr) (fun v5 v4 v6 _ => s.size + 2 - (intOf v5).toNat)
  case atStart => exact ⟨0, rfl, Lib.hid ⟨Nat.zero_le _, fun _ h => absurd h (Nat.not_lt_zero _)⟩, Below.refl _ _⟩
  case round =>
    obtain ⟨i, rfl, HI, hb⟩ := hrel
    have HB := Lib.hid hb
    clear hb
    have y0 : (0 : Int) ≤ (i : Int) := by omega
    have y9 : (i : Int) ≤ 2000001 := by have := HI.out.1; omega
    by_cases hl : i + p.size ≤ s.size
    · have t1 : decide ((i : Int) + (p.size : Int) ≤ (s.size : Int)) = true := decide_eq_true (by omega)
      have HL := Lib.hid hl
      clear hl
      go_wp2_with fail
      go_loopw [6] (fun v6 wq => ∃ j : Nat, v6 = .int .i64 (j : Int) ∧ Hid (j ≤ p.size ∧ (∀ j', j' < j → bt s (i + j') = bt p j')) ∧ Below w.heap.size w wq) (fun v6 _ => p.size + 1 - (intOf v6).toNat)
      case atStart => exact ⟨0, rfl, Lib.hid ⟨Nat.zero_le _, fun _ h => absurd h (Nat.not_lt_zero _)⟩, HB.out⟩
      case round =>
        clear HB
        obtain ⟨j, rfl, HJ, hb⟩ := hrel
        have HB := Lib.hid hb
        clear hb
        have z0 : (0 : Int) ≤ (j : Int) := by omega
        have z9 : (j : Int) ≤ 2000001 := by have := HJ.out.1; omega
        by_cases hj : j < p.size
        · have t2 : decide ((j : Int) < (p.size : Int)) = true := decide_eq_true (by omega)
          have z1 : (j : Int) < (p.size : Int) := by omega
          have z2 : (0 : Int) ≤ (i : Int) + (j : Int) := by omega
          have z3 : (i : Int) + (j : Int) < (s.size : Int) := by have := HL.out; omega
          have z4 : ((i : Int) + (j : Int)).toNat = i + j := by omega
          have HJL := Lib.hid hj
          have t2' : decide (j < p.size) = true := decide_eq_true hj
          have t6 : IntKind.i64.wrap ((i : Int) + (j : Int)) = (i : Int) + (j : Int) := by have := HL.out; exact wrap_ij _ (by omega) (by omega)
          clear hj
          by_cases he : bt s (i + j) = bt p j
          · have t3 : (bt s (i + j) == bt p j) = true := beq_iff_eq.2 he
            have HE := Lib.hid he
            clear he
            go_wp2_with fail
            go_region
            go_wp2_with fail
            go_roundw
            case rel => exact ⟨j + 1, by go_num, Lib.hid ⟨HJL.out, fun j' h => by
                have h8 := HJ.out.2 j'
                have h9 := HE.out
                by_cases e : j' = j
                · subst e; exact h9
                · exact h8 (by omega)⟩, below_drew HB.out⟩
            case measure => have := HJL.out; simp [intOf]; omega
          · have t3 : (bt s (i + j) == bt p j) = false := beq_eq_false_iff_ne.2 he
            have HE := Lib.hid he
            have t4 : ((j : Int) == (p.size : Int)) = false := beq_eq_false_iff_ne.2 (by omega)
            clear he
            go_wp2_with fail
            go_region
            go_wp2_with fail
            go_roundw
            case rel => exact ⟨i + 1, by go_num, Lib.hid ⟨by have := HL.out; omega, fun i' h hh => by
                have h8 := HI.out.2 i'
                by_cases e : i' = i
                · subst e; exact ⟨j, HJL.out, HE.out⟩
                · exact h8 (by omega) hh⟩, below_drew HB.out⟩
            case measure => have := HI.out.1; have := HL.out; simp [intOf]; omega
        · have t2 : decide ((j : Int) < (p.size : Int)) = false := decide_eq_false (by omega)
          have z1 : ¬ ((j : Int) < (p.size : Int)) := by omega
          have t2' : decide (j < p.size) = false := decide_eq_false hj
          have t4 : ((j : Int) == (p.size : Int)) = true := beq_iff_eq.2 (by have := HJ.out.1; omega)
          clear hj
          go_wp2_with fail
          go_region
          go_wp2_with fail
          go_ret
          exact ⟨true, rfl, (fun h => nomatch h), below_drew HB.out⟩
    · have t1 : decide ((i : Int) + (p.size : Int) ≤ (s.size : Int)) = false := decide_eq_false (by omega)
      have HL := Lib.hid hl
      clear hl
      go_wp2_with fail
      go_ret
      exact ⟨false, rfl, fun _ i' hh => HI.out.2 i' (by have := HL.out; omega) hh, HB.out⟩
def PRE1 : ByteArray := ⟨#[64, 112, 114, 101, 115, 101, 114, 118, 101]⟩
def LIC1 : ByteArray := ⟨#[64, 108, 105, 99, 101, 110, 115, 101]⟩
def Fair (s : ByteArray) : Prop := (0 < s.size → bt s 0 ≠ 33) ∧ Free s PRE1 ∧ Free s LIC1
set_option maxRecDepth 100000 in
set_option maxHeartbeats 8000000 in
theorem leg33 (s : ByteArray) (w : World) (hs : s.size ≤ 2000000) :
    Calls Tryd.prog 33 #[.string s] w (Told (fun b => b = false → Fair s) w) := by
  have hgs := get_bt s
  have tri : s.size = 0 ∨ (0 < s.size ∧ bt s 0 = 33) ∨ (0 < s.size ∧ bt s 0 ≠ 33) := by omega
  have key : ∀ (hf : 0 < s.size → bt s 0 ≠ 33), Hid (0 < s.size → bt s 0 ≠ 33) := fun h => Lib.hid h
  rcases tri with a | ⟨a, b⟩ | ⟨a, b⟩
  · have t1 : decide (0 < (s.size : Int)) = false := decide_eq_false (by omega)
    have y1 : ¬ (0 < (s.size : Int)) := by omega
    have HK := key (fun h => by omega)
    clear key a
    go_enter Tryd.func33, Tryd.ntmps33
    go_wp2_with fail
    refine (con32 s PRE1 _ hs (by decide)).mono ?_
    rintro e w1 ⟨b1, rfl, h1, hb1⟩
    cases b1
    · have H1 := Lib.hid (h1 rfl)
      have HB1 := Lib.hid hb1
      clear h1 hb1
      go_wp2_with fail
      refine (con32 s LIC1 _ hs (by decide)).mono ?_
      rintro e w2 ⟨b2, rfl, h2, hb2⟩
      have H2 := Lib.hid h2
      have HB2 := Lib.hid (HB1.out.trans (hb2.mono HB1.out.size))
      clear h2 hb2
      go_wp2_with fail
      go_ret
      exact ⟨b2, rfl, fun h => ⟨HK.out, H1.out, H2.out h⟩, HB2.out⟩
    · have HB1 := Lib.hid hb1
      clear h1 hb1
      go_wp2_with fail
      go_ret
      exact ⟨true, rfl, (fun h => nomatch h), HB1.out⟩
  · have t1 : decide (0 < (s.size : Int)) = true := decide_eq_true (by omega)
    have y1 : (0 < (s.size : Int)) := by omega
    have t2 : (bt s 0 == 33) = true := beq_iff_eq.2 b
    clear key a b
    go_enter Tryd.func33, Tryd.ntmps33
    go_wp2_with fail
    go_ret
    exact ⟨true, rfl, (fun h => nomatch h), Below.refl _ _⟩
  · have t1 : decide (0 < (s.size : Int)) = true := decide_eq_true (by omega)
    have y1 : (0 < (s.size : Int)) := by omega
    have t2 : (bt s 0 == 33) = false := beq_eq_false_iff_ne.2 b
    have HK := key (fun h => b)
    clear key a b
    go_enter Tryd.func33, Tryd.ntmps33
    go_wp2_with fail
    refine (con32 s PRE1 _ hs (by decide)).mono ?_
    rintro e w1 ⟨b1, rfl, h1, hb1⟩
    cases b1
    · have H1 := Lib.hid (h1 rfl)
      have HB1 := Lib.hid hb1
      clear h1 hb1
      go_wp2_with fail
      refine (con32 s LIC1 _ hs (by decide)).mono ?_
      rintro e w2 ⟨b2, rfl, h2, hb2⟩
      have H2 := Lib.hid h2
      have HB2 := Lib.hid (HB1.out.trans (hb2.mono HB1.out.size))
      clear h2 hb2
      go_wp2_with fail
      go_ret
      exact ⟨b2, rfl, fun h => ⟨HK.out, H1.out, H2.out h⟩, HB2.out⟩
    · have HB1 := Lib.hid hb1
      clear h1 hb1
      go_wp2_with fail
      go_ret
      exact ⟨true, rfl, (fun h => nomatch h), HB1.out⟩
def U4 (s : ByteArray) (i : Nat) : Prop := (bt s i = 117 ∨ bt s i = 85) ∧ (bt s (i + 1) = 114 ∨ bt s (i + 1) = 82) ∧ (bt s (i + 2) = 108 ∨ bt s (i + 2) = 76) ∧ bt s (i + 3) = 40
theorem or32 (c : Int) : (c = 117 ∨ c = 85 → bits .or .u8 c 32 = 117) ∧ (c = 114 ∨ c = 82 → bits .or .u8 c 32 = 114) ∧ (c = 108 ∨ c = 76 → bits .or .u8 c 32 = 108) := by
  refine ⟨?_, ?_, ?_⟩
  all_goals (rintro (rfl | rfl) <;> decide)
set_option maxRecDepth 100000 in
set_option maxHeartbeats 8000000 in
theorem url50 (s : ByteArray) (w : World) (hs : s.size ≤ 2000000) :
    Calls Tryd.prog 50 #[.string s] w (Told (fun b => b = false → ∀ i, i + 3 < s.size → ¬ U4 s i) w) := by
  have hgs := get_bt s
  go_enter Tryd.func50, Tryd.ntmps50
  go_wp2_with fail
  go_loop [3] (fun v3 => ∃ i : Nat, v3 = .int .i64 (i : Int) ∧ Hid (i ≤ s.size ∧ ∀ i', i' < i → i' + 3 < s.size → ¬ U4 s i')) (fun v3 => s.size + 1 - (intOf v3).toNat)
  case atStart => exact ⟨0, rfl, Lib.hid ⟨Nat.zero_le _, fun _ h => absurd h (Nat.not_lt_zero _)⟩⟩
  case round =>
    obtain ⟨i, rfl, HI⟩ := hrel
    have y0 : (0 : Int) ≤ (i : Int) := by omega
    have y9 : (i : Int) ≤ 2000001 := by have := HI.out.1; omega
    by_cases hl : i + 3 < s.size
    · have t1 : decide ((i : Int) + 3 < (s.size : Int)) = true := decide_eq_true (by omega)
      have y1 : (i : Int) + 3 < (s.size : Int) := by omega
      have y2 : (i : Int) < (s.size : Int) := by omega
      have y3 : (i : Int) + 1 < (s.size : Int) := by omega
      have y4 : (i : Int) + 2 < (s.size : Int) := by omega
      have x1 : ((i : Int) + 1).toNat = i + 1 := by omega
      have x2 : ((i : Int) + 2).toNat = i + 2 := by omega
      have x3 : ((i : Int) + 3).toNat = i + 3 := by omega
      have v1 : (0 : Int) ≤ (i : Int) + 1 := by omega
      have v2 : (0 : Int) ≤ (i : Int) + 2 := by omega
      have v3 : (0 : Int) ≤ (i : Int) + 3 := by omega
      have HL := Lib.hid hl
      have HNX : ∀ (h : ¬ U4 s i), Hid (∀ i', i' < i + 1 → i' + 3 < s.size → ¬ U4 s i') := fun h => Lib.hid fun i' h1 h2 => by
        by_cases e : i' = i
        · subst e; exact h
        · exact HI.out.2 i' (by omega) h2
      clear hl
      cases t2 : (bits .or .u8 (bt s i) 32 == 117)
      · have HN := HNX (fun u => by have := (or32 _).1 u.1; rw [this] at t2; cases t2)
        clear HNX
        go_wp2_with fail
        go_round
        case rel => exact ⟨i + 1, by go_num, Lib.hid ⟨by have := HL.out; omega, HN.out⟩⟩
        case measure => have := HL.out; simp [intOf]; omega
      · cases t3 : (bits .or .u8 (bt s (i + 1)) 32 == 114)
        · have HN := HNX (fun u => by have := (or32 _).2.1 u.2.1; rw [this] at t3; cases t3)
          clear HNX
          go_wp2_with fail
          go_round
          case rel => exact ⟨i + 1, by go_num, Lib.hid ⟨by have := HL.out; omega, HN.out⟩⟩
          case measure => have := HL.out; simp [intOf]; omega
        · cases t4 : (bits .or .u8 (bt s (i + 2)) 32 == 108)
          · have HN := HNX (fun u => by have := (or32 _).2.2 u.2.2.1; rw [this] at t4; cases t4)
            clear HNX
            go_wp2_with fail
            go_round
            case rel => exact ⟨i + 1, by go_num, Lib.hid ⟨by have := HL.out; omega, HN.out⟩⟩
            case measure => have := HL.out; simp [intOf]; omega
          · cases t5 : (bt s (i + 3) == 40)
            · have HN := HNX (fun u => by have := u.2.2.2; rw [this] at t5; cases t5)
              clear HNX
              go_wp2_with fail
              go_round
              case rel => exact ⟨i + 1, by go_num, Lib.hid ⟨by have := HL.out; omega, HN.out⟩⟩
              case measure => have := HL.out; simp [intOf]; omega
            · clear HNX
              go_wp2_with fail
              go_ret
              exact ⟨true, rfl, (fun h => nomatch h), Below.refl _ _⟩
    · have t1 : decide ((i : Int) + 3 < (s.size : Int)) = false := decide_eq_false (by omega)
      have HL := Lib.hid hl
      clear hl
      go_wp2_with fail
      go_ret
      exact ⟨false, rfl, fun _ i' hh => HI.out.2 i' (by have := HL.out; omega) hh, Below.refl _ _⟩
def Dom (s : ByteArray) : Prop := (∀ i, i < s.size → bt s i ≠ 47 ∧ bt s i ≠ 92 ∧ bt s i ≠ 34 ∧ bt s i ≠ 39) ∧ ∀ i, i + 3 < s.size → ¬ U4 s i
set_option maxRecDepth 100000 in
set_option maxHeartbeats 8000000 in
theorem dom34 (s : ByteArray) (w : World) (hs : s.size ≤ 2000000) :
    Calls Tryd.prog 34 #[.string s] w (Told (fun b => b = true → Dom s) w) := by
  have hgs := get_bt s
  go_enter Tryd.func34, Tryd.ntmps34
  go_wp2_with fail
  go_loop [3, 2, 4] (fun v3 v2 v4 => ∃ i : Nat, v3 = .int .i64 (i : Int) ∧ Hid (i ≤ s.size ∧ ∀ i', i' < i → bt s i' ≠ 47 ∧ bt s i' ≠ 92 ∧ bt s i' ≠ 34 ∧ bt s i' ≠ 39)) (fun v3 v2 v4 => s.size + 1 - (intOf v3).toNat)
  case atStart => exact ⟨0, rfl, Lib.hid ⟨Nat.zero_le _, fun _ h => absurd h (Nat.not_lt_zero _)⟩⟩
  case round =>
    obtain ⟨i, rfl, HI⟩ := hrel
    have y0 : (0 : Int) ≤ (i : Int) := by omega
    have y9 : (i : Int) ≤ 2000001 := by have := HI.out.1; omega
    by_cases hl : i < s.size
    · have t1 : decide ((i : Int) < (s.size : Int)) = true := decide_eq_true (by omega)
      have y1 : (i : Int) < (s.size : Int) := by omega
      have HL := Lib.hid hl
      clear hl
      cases t2 : (bt s i == 47)
      rotate_left
      focus
        go_wp2_with fail
        go_ret
        exact ⟨false, rfl, (fun h => nomatch h), Below.refl _ _⟩
      cases t3 : (bt s i == 92)
      rotate_left
      focus
        go_wp2_with fail
        go_ret
        exact ⟨false, rfl, (fun h => nomatch h), Below.refl _ _⟩
      cases t4 : (bt s i == 34)
      rotate_left
      focus
        go_wp2_with fail
        go_ret
        exact ⟨false, rfl, (fun h => nomatch h), Below.refl _ _⟩
      cases t5 : (bt s i == 39)
      rotate_left
      focus
        go_wp2_with fail
        go_ret
        exact ⟨false, rfl, (fun h => nomatch h), Below.refl _ _⟩
      have HT := Lib.hid (And.intro t2 (And.intro t3 (And.intro t4 t5)))
      go_wp2_with fail
      go_round
      case rel => exact ⟨i + 1, by go_num, Lib.hid ⟨HL.out, fun i' h => by
            by_cases e : i' = i
            · subst e; exact ⟨beq_eq_false_iff_ne.1 HT.out.1, beq_eq_false_iff_ne.1 HT.out.2.1, beq_eq_false_iff_ne.1 HT.out.2.2.1, beq_eq_false_iff_ne.1 HT.out.2.2.2⟩
            · exact HI.out.2 i' (by omega)⟩⟩
      case measure => have := HL.out; simp [intOf]; omega
    · have t1 : decide ((i : Int) < (s.size : Int)) = false := decide_eq_false (by omega)
      have HL := Lib.hid hl
      clear hl
      go_wp2_with fail
      refine (url50 s _ hs).mono ?_
      rintro e w1 ⟨b1, rfl, h1, hb1⟩
      have H1 := Lib.hid h1
      have HB1 := Lib.hid hb1
      clear h1 hb1
      cases b1
      all_goals
        go_wp2_with fail
        go_ret
      · exact ⟨true, rfl, fun _ => ⟨fun i' hh => HI.out.2 i' (by have := HL.out; omega), H1.out trivial⟩, HB1.out⟩
      · exact ⟨false, rfl, (fun h => nomatch h), HB1.out⟩
set_option maxRecDepth 100000 in
set_option maxHeartbeats 8000000 in
theorem cnt40 (s : ByteArray) (w : World) (hs : s.size ≤ 2000000) :
    Calls Tryd.prog 40 #[.string s, .int .u8 10] w fun e w' => e = .returned (.int .i64 (cnt s s.size : Nat)) ∧ w = w' := by
  have hgs := get_bt s
  go_enter Tryd.func40, Tryd.ntmps40
  go_wp2_with fail
  go_loop [6, 5] (fun v6 v5 => ∃ i : Nat, v6 = .int .i64 (i : Int) ∧ i ≤ s.size ∧ v5 = .int .i64 (cnt s i : Nat)) (fun v6 v5 => s.size + 1 - (intOf v6).toNat)
  case atStart => exact ⟨0, rfl, Nat.zero_le _, rfl⟩
  case round =>
    obtain ⟨i, rfl, hi, rfl⟩ := hrel
    have y0 : (0 : Int) ≤ (i : Int) := by omega
    have y9 : (i : Int) ≤ 2000001 := by omega
    have hc := cnt_le s i
    have hs1 := cnt_succ s i
    have HS1 := Lib.hid hs1
    have c0 : (0 : Int) ≤ ((cnt s i : Nat) : Int) := by omega
    have c9 : ((cnt s i : Nat) : Int) ≤ 2000001 := by omega
    clear hc hs1
    generalize hC : cnt s i = C at *
    have HC := Lib.hid hC
    clear hC
    by_cases hl : i < s.size
    · have t1 : decide ((i : Int) < (s.size : Int)) = true := decide_eq_true (by omega)
      have y1 : (i : Int) < (s.size : Int) := by omega
      have HL := Lib.hid hl
      clear hl hi
      by_cases e10 : bt s i = 10
      · have t2 : (bt s i == 10) = true := beq_iff_eq.2 e10
        have HE := Lib.hid (HS1.out.trans (by rw [if_pos e10]))
        clear e10 HS1
        go_wp2_with fail
        go_round
        case rel => exact ⟨i + 1, by go_num, HL.out, by rw [HE.out]; go_num⟩
        case measure => have := HL.out; simp [intOf]; omega
      · have t2 : (bt s i == 10) = false := beq_eq_false_iff_ne.2 e10
        have HE := Lib.hid (HS1.out.trans (by rw [if_neg e10]))
        clear e10 HS1
        go_wp2_with fail
        go_round
        case rel => exact ⟨i + 1, by go_num, HL.out, by rw [HE.out]; rfl⟩
        case measure => have := HL.out; simp [intOf]; omega
    · have t1 : decide ((i : Int) < (s.size : Int)) = false := decide_eq_false (by omega)
      have hk : i = s.size := by omega
      have y1 : ¬ ((i : Int) < (s.size : Int)) := by omega
      have HK := Lib.hid hk
      clear hl hi hk
      go_wp2_with fail
      go_ret
      exact ⟨by rw [← HC.out, HK.out]; rfl, rfl⟩
end Go.Proofs.YtcljenkgbbbfpaaDoor.Zs
