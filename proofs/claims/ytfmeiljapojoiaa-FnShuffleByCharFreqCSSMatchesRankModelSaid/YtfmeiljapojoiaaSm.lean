/-
  Proved: the model check of the law answers true where the rank law holds. Conditions: those that each theorem names as its hypotheses, and no
  others.
-/
import Derived.Test.YtfmeiljapojoiaaSa
import Derived.Test.YtfmeiljapojoiaaStr
import Derived.PlainAid
import Derived.WalkLawsBesides
import Derived.Deep.CutBlock
import Derived.Deep.DeepCutAuto
namespace Go.Proofs.Ytfmeiljapojoiaa.Sm
open Go.RowKit Go.PlainAid Mem Rws Sa
set_option linter.unusedVariables false
set_option linter.unusedSimpArgs false
def gb (z : Nat → Int) (i j : Nat) : Bool := decide (z i < z j) || (z j == z i && decide (j < i))
/-- How many of the first n entries come before the entry i. -/
def rk (z : Nat → Int) (i : Nat) : Nat → Nat
  | 0 => 0
  | n + 1 => rk z i n + if gb z i n = true then 1 else 0
theorem rk_le (z : Nat → Int) (i : Nat) : ∀ n, rk z i n ≤ n
  | 0 => Nat.le_refl _
  | n + 1 => by have := rk_le z i n; unfold rk; split <;> omega
def dig (c : Int) : Bool := decide (48 ≤ c) && decide (c ≤ 57)
/-- How many of the first n bytes are no digits. -/
def hc (s : ByteArray) : Nat → Nat
  | 0 => 0
  | n + 1 => hc s n + if dig (bt s n) = true then 0 else 1
theorem hc_le (s : ByteArray) : ∀ n, hc s n ≤ n
  | 0 => Nat.le_refl _
  | n + 1 => by have := hc_le s n; unfold hc; split <;> omega
theorem dig10 (c : Int) (w : World) : Calls Try.prog 10 #[.int .u8 c] w fun e w' => e = .returned (.bool (dig c)) ∧ w = w' := by
  unfold dig
  cases t1 : decide (48 ≤ c)
  · go_enter Try.func10, Try.ntmps10
    go_wp2
    go_ret
    exact ⟨rfl, rfl⟩
  · cases t2 : decide (c ≤ 57)
    · go_enter Try.func10, Try.ntmps10
      go_wp2
      go_ret
      exact ⟨rfl, rfl⟩
    · go_enter Try.func10, Try.ntmps10
      go_wp2
      go_ret
      exact ⟨rfl, rfl⟩
/-- What the model asks. -/
structure Mo (z : Nat → Int) (TL GH GT : ByteArray) : Prop where
  tl : TL.size = 63
  gt : GT.size = 63
  gh : GH.size ≤ 63
  rank : ∀ i, i < 63 → rk z i 63 < 63 ∧ bt GT (rk z i 63) = bt TL i
  head : ∀ k, k < 63 → dig (bt GT k) = false → hc GT k < GH.size ∧ bt GH (hc GT k) = bt GT k
  fin : hc GT 63 = GH.size
set_option maxRecDepth 100000 in
set_option maxHeartbeats 16000000 in
theorem model6 (TL GH GT : ByteArray) (zc : Array Value) (z : Nat → Int) (w : World) (hz : zc.size = 64) (hzc : ∀ j, j < 64 → zc[j]? = some (.int .i32 (z j))) (hM : Mo z TL GH GT) :
    Calls Try.prog 6 #[.string TL, .agg zc, .string GH, .string GT] w (Giv (.bool true) w) := by
  have HZC := Lib.hid hzc
  have HM := Lib.hid hM
  have s1 : (TL.size : Int) = 63 := by have := hM.tl; omega
  have s2 : (GT.size : Int) = 63 := by have := hM.gt; omega
  have S1 := Lib.hid s1
  have S2 := Lib.hid s2
  have t0 : ((GT.size : Int) != (TL.size : Int)) = false := by rw [s1, s2]; rfl
  have g0 := get_bt GT
  have g1 := get_bt TL
  have g2 := get_bt GH
  have G0 := Lib.hid g0
  have G1 := Lib.hid g1
  have G2 := Lib.hid g2
  clear hzc hz hM s1 s2 g0 g1 g2
  go_enter Try.func6, Try.ntmps6
  go_upto_region 1 with fail
  generalize hW : World.alloc _ _ = w1
  obtain ⟨b, eb⟩ : ∃ b, b = w.heap.size := ⟨_, rfl⟩
  rw [← eb]
  have hO : Own w1 b 22 zc := by rw [← hW, eb]; exact Own.new _ _ _
  have hBe : Below w.heap.size w w1 := by rw [← hW]; exact (Below.refl _ _).alloc (Nat.le_refl _) _
  have HO := Lib.hid (And.intro hO hBe)
  clear hW hO hBe eb
  go_upto_region 3 with fail
  rw [S1.out]
  go_loopw [10, 11, 12] (fun v10 v11 v12 wr => ∃ i : Nat, v10 = .int .i64 (i : Int) ∧ Hid (i ≤ 63 ∧ Own wr b 22 zc ∧ Below w.heap.size w wr)) (fun v10 _ _ _ => 70 - (intOf v10).toNat)
  case atStart => exact ⟨0, rfl, Lib.hid ⟨by decide, HO.out⟩⟩
  case round =>
    clear HO
    obtain ⟨i, rfl, HI⟩ := hrel
    obtain ⟨wo, rfl⟩ : ∃ x : World, x = wr := ⟨_, rfl⟩
    have hi9 := HI.out.1
    have y0 : (0 : Int) ≤ (i : Int) := by omega
    have y1 : (i : Int) ≤ 63 := by omega
    by_cases hlt : i < 63
    · have t1 : decide ((i : Int) < 63) = true := decide_eq_true (by omega)
      have t1' : decide (i < 63) = true := decide_eq_true hlt
      have y2 : (i : Int) < 64 := by omega
      have HLI := Lib.hid hlt
      clear hlt
      go_wp2_with fail
      go_loopw [11, 12] (fun v11 v12 wr => ∃ j : Nat, v12 = .int .i64 (j : Int) ∧ v11 = .int .i64 ((rk z i j : Nat) : Int) ∧ Hid (j ≤ 63 ∧ Own wr b 22 zc ∧ Below w.heap.size w wr)) (fun _ v12 _ => 70 - (intOf v12).toNat)
      case atStart => exact ⟨0, rfl, rfl, Lib.hid ⟨by decide, HI.out.2⟩⟩
      case round =>
        clear HI
        obtain ⟨j, rfl, rfl, HJ⟩ := hrel
        obtain ⟨wp, rfl⟩ : ∃ x : World, x = wr := ⟨_, rfl⟩
        have hj9 := HJ.out.1
        have hrk := rk_le z i j
        have HRS := Lib.hid (show rk z i (j + 1) = rk z i j + if gb z i j = true then 1 else 0 from rfl)
        have HRK := Lib.hid (show j = 63 → rk z i j < 63 ∧ bt GT (rk z i j) = bt TL i from fun e => by subst e; exact HM.out.rank i HLI.out)
        generalize hR : rk z i j = R at *
        have HR := Lib.hid hR
        have x0 : (0 : Int) ≤ (j : Int) := by omega
        have x1 : (j : Int) ≤ 63 := by omega
        have x2 : (0 : Int) ≤ (R : Int) := by omega
        have x3 : (R : Int) ≤ 63 := by omega
        clear hR hrk
        by_cases hlt : j < 63
        · have t2 : decide ((j : Int) < 63) = true := decide_eq_true (by omega)
          have t2' : decide (j < 63) = true := decide_eq_true hlt
          have x4 : (j : Int) < 64 := by omega
          have HLT := Lib.hid hlt
          clear hlt hj9
          have cI : wp.cell? ⟨b, i, none⟩ = some (.int .i32 (z i)) := (HJ.out.2.1.cell i).trans (HZC.out i (by have := HLI.out; omega))
          have cJ : wp.cell? ⟨b, j, none⟩ = some (.int .i32 (z j)) := (HJ.out.2.1.cell j).trans (HZC.out j (by have := HLT.out; omega))
          cases s1 : decide (z i < z j)
          · cases s2 : (z j == z i)
            · have HV := Lib.hid (show gb z i j = false by unfold gb; rw [s1, s2]; rfl)
              go_wp2_with fail
              go_region
              go_wp2_with fail
              go_roundw
              case rel => exact ⟨j + 1, by go_num, by rw [HRS.out, HV.out, if_neg (by decide), Nat.add_zero], Lib.hid ⟨HLT.out, HJ.out.2.1, below_drew HJ.out.2.2⟩⟩
              case measure => simp [intOf] <;> omega
            · by_cases hji : j < i
              · have s3 : decide (j < i) = true := decide_eq_true hji
                have s3' : decide ((j : Int) < (i : Int)) = true := decide_eq_true (by omega)
                have HV := Lib.hid (show gb z i j = true by unfold gb; rw [s1, s2, s3]; rfl)
                go_wp2_with fail
                go_region
                go_wp2_with fail
                go_roundw
                case rel => exact ⟨j + 1, by go_num, by rw [HRS.out, HV.out, if_pos rfl]; go_num, Lib.hid ⟨HLT.out, HJ.out.2.1, below_drew HJ.out.2.2⟩⟩
                case measure => simp [intOf] <;> omega
              · have s3 : decide (j < i) = false := decide_eq_false hji
                have s3' : decide ((j : Int) < (i : Int)) = false := decide_eq_false (by omega)
                have HV := Lib.hid (show gb z i j = false by unfold gb; rw [s1, s2, s3]; rfl)
                go_wp2_with fail
                go_region
                go_wp2_with fail
                go_roundw
                case rel => exact ⟨j + 1, by go_num, by rw [HRS.out, HV.out, if_neg (by decide), Nat.add_zero], Lib.hid ⟨HLT.out, HJ.out.2.1, below_drew HJ.out.2.2⟩⟩
                case measure => simp [intOf] <;> omega
          · have HV := Lib.hid (show gb z i j = true by unfold gb; rw [s1]; rfl)
            go_wp2_with fail
            go_region
            go_wp2_with fail
            go_roundw
            case rel => exact ⟨j + 1, by go_num, by rw [HRS.out, HV.out, if_pos rfl]; go_num, Lib.hid ⟨HLT.out, HJ.out.2.1, below_drew HJ.out.2.2⟩⟩
            case measure => simp [intOf] <;> omega
        · have hj : j = 63 := by omega
          have HRQ := Lib.hid (HRK.out hj)
          subst hj
          have p0 : (R : Int) < (GT.size : Int) := by have := S2.out; have := HRQ.out.1; omega
          have p1 : (i : Int) < (TL.size : Int) := by have := S1.out; have := HLI.out; omega
          have q0 := G0.out
          have q1 := G1.out
          have t5 : (bt GT R != bt TL i) = false := by rw [HRQ.out.2]; simp
          have HLJ := Lib.hid HJ.out.2
          clear hlt hj9
          go_wp2_with fail
          go_region
          go_wp2_with fail
          go_roundw
          case rel => exact ⟨i + 1, by go_num, Lib.hid ⟨HLI.out, HLJ.out.1, below_drew HLJ.out.2⟩⟩
          case measure => simp [intOf] <;> omega
    · have t1 : decide ((i : Int) < 63) = false := decide_eq_false (by omega)
      have t1' : decide (i < 63) = false := decide_eq_false hlt
      have t1n : ¬ ((i : Int) < 63) := by omega
      clear hlt hi9
      go_wp2_with fail
      go_loopw [13, 14, 15] (fun v13 v14 v15 wr => ∃ k : Nat, v14 = .int .i64 (k : Int) ∧ v13 = .int .i64 ((hc GT k : Nat) : Int) ∧ Hid (k ≤ 63 ∧ Below w.heap.size w wr)) (fun _ v14 _ _ => 70 - (intOf v14).toNat)
      case atStart => exact ⟨0, rfl, rfl, Lib.hid ⟨by decide, HI.out.2.2⟩⟩
      case round =>
        clear HI
        obtain ⟨k, rfl, rfl, HJ⟩ := hrel
        obtain ⟨wp, rfl⟩ : ∃ x : World, x = wr := ⟨_, rfl⟩
        have hj9 := HJ.out.1
        have hle := hc_le GT k
        have HS := Lib.hid (show hc GT (k + 1) = hc GT k + if dig (bt GT k) = true then 0 else 1 from rfl)
        have HF := Lib.hid (show k = 63 → hc GT k = GH.size from fun e => by subst e; exact HM.out.fin)
        have HH := Lib.hid (show k < 63 → dig (bt GT k) = false → hc GT k < GH.size ∧ bt GH (hc GT k) = bt GT k from HM.out.head k)
        generalize hR : hc GT k = R at *
        have x0 : (0 : Int) ≤ (k : Int) := by omega
        have x1 : (k : Int) ≤ 63 := by omega
        have x2 : (0 : Int) ≤ (R : Int) := by omega
        have x3 : (R : Int) ≤ 63 := by omega
        clear hR hle
        have q0 := G0.out
        have q2 := G2.out
        by_cases hlt : k < 63
        · have t2 : decide ((k : Int) < 63) = true := decide_eq_true (by omega)
          have t2' : decide (k < 63) = true := decide_eq_true hlt
          have p0 : (k : Int) < (GT.size : Int) := by have := S2.out; omega
          have HLT := Lib.hid hlt
          clear hlt hj9
          cases hd : dig (bt GT k)
          · have HQ := Lib.hid (HH.out HLT.out hd)
            have HDG := Lib.hid hd
            have p1 : (R : Int) < (GH.size : Int) := by have := HQ.out.1; omega
            have t6 : decide ((GH.size : Int) ≤ (R : Int)) = false := decide_eq_false (by omega)
            have t6' : decide (GH.size ≤ R) = false := decide_eq_false (by omega)
            have t7 : (bt GH R != bt GT k) = false := by rw [HQ.out.2]; simp
            clear hd
            go_wp2_with fail
            refine (dig10 (bt GT k) _).mono ?_
            rintro e w' ⟨rfl, rfl⟩
            rw [HDG.out]
            go_wp2_with fail
            go_roundw
            case rel => exact ⟨k + 1, by go_num, by rw [HS.out, HDG.out, if_neg (by decide)]; go_num, Lib.hid ⟨HLT.out, HJ.out.2⟩⟩
            case measure => simp [intOf] <;> omega
          · have HDG := Lib.hid hd
            clear hd
            go_wp2_with fail
            refine (dig10 (bt GT k) _).mono ?_
            rintro e w' ⟨rfl, rfl⟩
            rw [HDG.out]
            go_wp2_with fail
            go_roundw
            case rel => exact ⟨k + 1, by go_num, by rw [HS.out, HDG.out, if_pos rfl, Nat.add_zero], Lib.hid ⟨HLT.out, HJ.out.2⟩⟩
            case measure => simp [intOf] <;> omega
        · have hk : k = 63 := by omega
          have hf := HF.out hk
          have t8 : ((R : Int) == (GH.size : Int)) = true := beq_iff_eq.2 (by omega)
          subst hk
          clear hlt hj9 hf HF HH HS
          go_wp2_with fail
          go_ret
          exact ⟨rfl, HJ.out.2⟩
end Go.Proofs.Ytfmeiljapojoiaa.Sm
