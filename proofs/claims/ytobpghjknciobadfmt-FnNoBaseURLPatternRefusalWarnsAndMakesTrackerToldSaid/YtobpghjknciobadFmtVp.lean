/-
  Proved: isValidTSConfigPathNoBaseURLPattern logs nothing and makes no tracker where it accepts, else one warning and the tracker; fmt.Sprintf is
  told. Conditions: those that each theorem names as its hypotheses, and no others.
-/
import Derived.Test.YtobpghjknciobadFmtLg
import Derived.PlainAid
import Derived.Stop.CallBack
import Derived.Stop.IfaceNil
import GoSem.ClaimData
import Derived.Deep.DeepCutAuto
namespace Go.Proofs.YtobpghjknciobadFmt.Vp
open Go.RowKit Go.PlainAid Mem Ho Go.MuLone Locks Lg Go.Extern.Stop Go.Stop Go.Extern
set_option linter.unusedVariables false
set_option linter.unusedSimpArgs false
theorem call19 (args : Array Value) (w : World) : (callFunc 19 args).run Tryf.prog w = ((FmtStop.sprintf #[9, 132] #[9] args).run Tryf.prog w).andThen fun v w' => .ok (.value v) w' :=
  run_callFunc_extern Tryf.func19 (by kernel_rfl) (by kernel_rfl) (by kernel_rfl) (by kernel_rfl) args w
theorem guardF (name : String) (w : World) : (FmtStop.guard name).run Tryf.prog w = .ok () w := by kernel_rfl
theorem fmt0 : FmtStop.printed? ⟨#[78, 111, 110, 45, 114, 101, 108, 97, 116, 105, 118, 101, 32, 112, 97, 116, 104, 32, 37, 113, 32, 105, 115, 32, 110, 111, 116, 32, 97, 108, 108, 111, 119, 101, 100, 32, 119, 104, 101, 110, 32, 34, 98, 97, 115, 101, 85, 114, 108, 34, 32, 105, 115, 32, 110, 111, 116, 32, 115, 101, 116, 32, 40, 100, 105, 100, 32, 121, 111, 117, 32, 102, 111, 114, 103, 101, 116, 32, 97, 32, 108, 101, 97, 100, 105, 110, 103, 32, 34, 46, 47, 34, 63, 41]⟩ 1 = some [(0, 113, false)] := by kernel_rfl
theorem fmt0r (w : World) : (FmtDoors.printed ⟨#[78, 111, 110, 45, 114, 101, 108, 97, 116, 105, 118, 101, 32, 112, 97, 116, 104, 32, 37, 113, 32, 105, 115, 32, 110, 111, 116, 32, 97, 108, 108, 111, 119, 101, 100, 32, 119, 104, 101, 110, 32, 34, 98, 97, 115, 101, 85, 114, 108, 34, 32, 105, 115, 32, 110, 111, 116, 32, 115, 101, 116, 32, 40, 100, 105, 100, 32, 121, 111, 117, 32, 102, 111, 114, 103, 101, 116, 32, 97, 32, 108, 101, 97, 100, 105, 110, 103, 32, 34, 46, 47, 34, 63, 41]⟩ 1).run Tryf.prog w = .ok [(0, 113, false)] w := by kernel_rfl
def shape9 : List UInt8 := [12, 6, 0, 0, 0, 0, 0, 0, 0, 115, 116, 114, 105, 110, 103]
theorem op9 (name : String) (x : ByteArray) (w : World) : (FmtStop.operand name false 113 false (.iface 9 (.string x))).run Tryf.prog w = .ok (shape9, FmtStop.pack x.data.toList) w := by kernel_rfl
def slash (c : Int) : Bool := (c == 47) || (c == 92)
theorem slash15 (c : Int) (w : World) : Calls Tryf.prog 15 #[.int .u8 c] w fun e w' => e = .returned (.bool (slash c)) ∧ w = w' := by
  unfold slash
  cases h : (c == 47)
  · go_enter Tryf.func15, Tryf.ntmps15
    go_wp2
    go_ret
    exact ⟨rfl, rfl⟩
  · go_enter Tryf.func15, Tryf.ntmps15
    go_wp2
    go_ret
    exact ⟨rfl, rfl⟩
theorem LogSt.setT {W : World} {lo k mu he ms n t : Nat} {v : Value} {xs : List Value} {cs : Array Value} (h : LogSt W lo k mu he ms v n xs) (ho : Own W t 23 cs) (u : Value) : LogSt (W.setCell ⟨t, 0, none⟩ u) lo k mu he ms v n xs := by
  have kp : ∀ {p t' cs'}, Own W p t' cs' → t' ≠ 23 → Own (W.setCell ⟨t, 0, none⟩ u) p t' cs' := fun {p t' cs'} hp ht => hp.far (own_ne hp ho ht) u
  exact ⟨kp h.okd (by decide), kp h.omu (by decide), h.ohe.imp fun _ ho => kp ho (by decide), kp h.oms (by decide), row_set h.row ho (by decide) _ _, h.lmu, h.lhe, h.lms, Nat.le_trans h.lw (grown_set W t 0 u).size⟩
def Valid2 (t lo k mu he ms : Nat) (w : World) (e : Ending) (w' : World) : Prop :=
  ∃ b m v xs tr, e = .returned (.bool b) ∧ LogSt w' lo k mu he ms v m xs ∧ Below lo w w' ∧ Own w' t 23 #[.pointer tr] ∧ ((b = true ∧ m = 0 ∧ tr = none) ∨ (b = false ∧ m = 1 ∧ ∃ a, tr = some a)) ∧
    ∀ p t cs, Own w p t cs → t ≠ 58 → t ≠ 4 → t ≠ 52 → t ≠ 65 → t ≠ 72 → t ≠ 23 → Own w' p t cs
def r11 (n : Nat) (c0 c1 : Int) : Bool := (c0 == 46) && (((n : Int) == 1) || (((n : Int) == 2) && (c1 == 46)))
def r13 (c0 c1 c2 : Int) : Bool := (c0 == 46) && (slash c1 || ((c1 == 46) && slash c2))
def r17 (c0 c1 c2 : Int) : Bool := (((decide (97 ≤ c0) && decide (c0 ≤ 122)) || (decide (65 ≤ c0) && decide (c0 ≤ 90))) && (c1 == 58)) && slash c2
set_option maxRecDepth 100000 in
set_option maxHeartbeats 4000000 in
theorem valid7 (F : Go.Stop.Interp) (s : ByteArray) (p t lo k mu he ms : Nat) (w : World) (hF : F.answers w.tape) (hs : s.size ≤ 1048576) (hL : LogSt w lo k mu he ms (.slice none 0 0) 0 []) (hp : Own w p 45 srcC) (ht : Own w t 23 #[.pointer none]) (hlo : lo ≤ t) :
    Calls Tryf.prog 7 #[.string s, logV k mu he ms, .pointer (some ⟨p, 0, none⟩), .pointer (some ⟨t, 0, none⟩), .agg #[.int .i32 0]] w (Valid2 t lo k mu he ms w) := by
  have HL := Lib.hid hL
  have HP := Lib.hid hp
  have HT := Lib.hid ht
  have HF := Lib.hid hF
  clear hL hp ht hF
  unfold logV
  go_enter Tryf.func7, Tryf.ntmps7
  go_upto_region 1 with fail
  generalize hW : (w.alloc _).alloc _ = W
  have hb : Below w.heap.size w W := by rw [← hW]; exact ((Below.refl _ _).alloc (Nat.le_refl _) _).alloc (by simp) _
  have oL : Own W w.heap.size 33 #[.func (.func 8) #[] #[.pointer (some ⟨k, 0, none⟩), .pointer (some ⟨mu, 0, none⟩), .pointer (some ⟨he, 0, none⟩), .pointer (some ⟨ms, 0, none⟩)], .func (.func 11) #[] #[.pointer (some ⟨mu, 0, none⟩), .pointer (some ⟨he, 0, none⟩)], .func (.func 12) #[] #[.pointer (some ⟨mu, 0, none⟩), .pointer (some ⟨ms, 0, none⟩)], .func (.func 13) #[] #[.pointer (some ⟨mu, 0, none⟩), .pointer (some ⟨ms, 0, none⟩)], .int .i8 3, .map none] := by rw [← hW]; exact (own_at rfl _ _).alloc _
  have oC : Own W (w.heap.size + 1) 50 #[.int .i32 0] := by rw [← hW]; exact own_at (by simp) _ _
  have c0 : W.cell? ⟨w.heap.size + 1, 0, none⟩ = some (.int .i32 0) := (oC.cell 0).trans rfl
  have HOL := Lib.hid oL
  have HL1 := Lib.hid (HL.out.below hb)
  have HP1 := Lib.hid (HP.out.below hb HP.out.lt)
  have HT1 := Lib.hid (HT.out.below hb HT.out.lt)
  have HF1 : Hid (F.answers W.tape) := Lib.hid (by rw [hb.tape]; exact HF.out)
  have HB := Lib.hid hb
  clear hW hb oL oC HF HT HP
  go_upto_if 20 with fail
  go_cut [11, 12, 13] (fun x y z wc => x = .int .u8 (bt s 0) ∧ y = .int .u8 (bt s 1) ∧ z = .int .u8 (bt s 2) ∧ W = wc)
  case first =>
    have hgb := get_bt s
    have hz : ∀ j, s.size ≤ j → bt s j = 0 := fun j hj => by unfold bt; rw [dif_neg (by omega)]
    have HZ := Lib.hid hz
    clear hz
    rcases (show s.size = 0 ∨ s.size = 1 ∨ s.size = 2 ∨ 3 ≤ s.size by omega) with h | h | h | h
    · have y0 : decide ((0 : Int) < s.size) = false := decide_eq_false (by omega)
      go_wp2
      go_meet
      case rel => exact ⟨by rw [HZ.out 0 (by omega)], by rw [HZ.out 1 (by omega)], by rw [HZ.out 2 (by omega)], rfl⟩
    · have y0 : decide ((0 : Int) < s.size) = true := decide_eq_true (by omega)
      have y1 : decide ((1 : Int) < s.size) = false := decide_eq_false (by omega)
      have i0 : 0 < s.size := by omega
      go_wp2
      go_meet
      case rel => exact ⟨rfl, by rw [HZ.out 1 (by omega)], by rw [HZ.out 2 (by omega)], rfl⟩
    · have y0 : decide ((0 : Int) < s.size) = true := decide_eq_true (by omega)
      have y1 : decide ((1 : Int) < s.size) = true := decide_eq_true (by omega)
      have y2 : decide ((2 : Int) < s.size) = false := decide_eq_false (by omega)
      have i0 : 0 < s.size := by omega
      have i1 : 1 < s.size := by omega
      go_wp2
      go_meet
      case rel => exact ⟨rfl, rfl, by rw [HZ.out 2 (by omega)], rfl⟩
    · have y0 : decide ((0 : Int) < s.size) = true := decide_eq_true (by omega)
      have y1 : decide ((1 : Int) < s.size) = true := decide_eq_true (by omega)
      have y2 : decide ((2 : Int) < s.size) = true := decide_eq_true (by omega)
      have i0 : 0 < s.size := by omega
      have i1 : 1 < s.size := by omega
      have i2 : 2 < s.size := by omega
      go_wp2
      go_meet
      case rel => exact ⟨rfl, rfl, rfl, rfl⟩
  case rest =>
    obtain ⟨rfl, rfl, rfl, rfl⟩ := hcut
    generalize bt s 0 = b0
    generalize bt s 1 = b1
    generalize bt s 2 = b2
    have hSl := fun c w => slash15 c w
    clear hSl
    go_upto_region 11 with fail
    go_cut [44] (fun x wc => x = .bool (r11 s.size b0 b1) ∧ W = wc)
    case first =>
      cases e0 : (b0 == 46)
      · go_wp2
        go_meet
        case rel => exact ⟨by simp [r11, e0], rfl⟩
      · cases e1 : ((s.size : Int) == 1)
        · cases e2 : ((s.size : Int) == 2)
          · go_wp2
            go_meet
            case rel => exact ⟨by simp [r11, e0, e1, e2], rfl⟩
          · go_wp2
            go_meet
            case rel => exact ⟨by simp [r11, e0, e1, e2], rfl⟩
        · go_wp2
          go_meet
          case rel => exact ⟨by simp [r11, e0, e1], rfl⟩
    case rest =>
      obtain ⟨rfl, rfl⟩ := hcut
      cases h11 : r11 s.size b0 b1
      rotate_left
      · go_wp2
        go_ret
        exact ⟨true, 0, _, _, none, rfl, HL1.out, HB.out.mono HL.out.lw, HT1.out, .inl ⟨rfl, rfl, rfl⟩, fun p t cs ho _ _ _ _ _ _ => ho.below HB.out ho.lt⟩
      go_upto_region 13 with fail
      go_cut [58] (fun x wc => x = .bool (r13 b0 b1 b2) ∧ W = wc)
      case first =>
        cases e0 : (b0 == 46)
        · go_wp2_with ((go_at_call 15; refine (slash15 _ W).mono ?_; rintro e w5 ⟨rfl, rfl⟩))
          go_meet
          case rel => exact ⟨by simp [r13, e0], rfl⟩
        · cases e1 : slash b1
          · cases e2 : (b1 == 46)
            · go_wp2_with ((go_at_call 15; refine (slash15 _ W).mono ?_; rintro e w5 ⟨rfl, rfl⟩))
              go_meet
              case rel => exact ⟨by simp [r13, e0, e1, e2], rfl⟩
            · go_wp2_with ((go_at_call 15; refine (slash15 _ W).mono ?_; rintro e w5 ⟨rfl, rfl⟩))
              go_meet
              case rel => exact ⟨by simp [r13, e0, e1, e2], rfl⟩
          · go_wp2_with ((go_at_call 15; refine (slash15 _ W).mono ?_; rintro e w5 ⟨rfl, rfl⟩))
            go_meet
            case rel => exact ⟨by simp [r13, e0, e1], rfl⟩
      case rest =>
        obtain ⟨rfl, rfl⟩ := hcut
        cases h13 : r13 b0 b1 b2
        rotate_left
        · go_wp2
          go_ret
          exact ⟨true, 0, _, _, none, rfl, HL1.out, HB.out.mono HL.out.lw, HT1.out, .inl ⟨rfl, rfl, rfl⟩, fun p t cs ho _ _ _ _ _ _ => ho.below HB.out ho.lt⟩
        cases h15 : slash b0
        rotate_left
        · go_wp2_with ((go_at_call 15; refine (slash15 _ W).mono ?_; rintro e w5 ⟨rfl, rfl⟩))
          go_ret
          exact ⟨true, 0, _, _, none, rfl, HL1.out, HB.out.mono HL.out.lw, HT1.out, .inl ⟨rfl, rfl, rfl⟩, fun p t cs ho _ _ _ _ _ _ => ho.below HB.out ho.lt⟩
        go_upto_region 17 with ((go_at_call 15; refine (slash15 _ W).mono ?_; rintro e w5 ⟨rfl, rfl⟩))
        go_cut [82] (fun x wc => x = .bool (r17 b0 b1 b2) ∧ W = wc)
        case first =>
          cases g1 : decide (97 ≤ b0)
          · cases g3 : decide (65 ≤ b0)
            · go_wp2_with ((go_at_call 15; refine (slash15 _ W).mono ?_; rintro e w5 ⟨rfl, rfl⟩))
              go_meet
              case rel => exact ⟨by simp [r17, g1, g3], rfl⟩
            · cases g4 : decide (b0 ≤ 90)
              · go_wp2_with ((go_at_call 15; refine (slash15 _ W).mono ?_; rintro e w5 ⟨rfl, rfl⟩))
                go_meet
                case rel => exact ⟨by simp [r17, g1, g3, g4], rfl⟩
              · cases e1 : (b1 == 58)
                · go_wp2_with ((go_at_call 15; refine (slash15 _ W).mono ?_; rintro e w5 ⟨rfl, rfl⟩))
                  go_meet
                  case rel => exact ⟨by simp [r17, g1, g3, g4, e1], rfl⟩
                · go_wp2_with ((go_at_call 15; refine (slash15 _ W).mono ?_; rintro e w5 ⟨rfl, rfl⟩))
                  go_meet
                  case rel => exact ⟨by simp [r17, g1, g3, g4, e1], rfl⟩
          · cases g2 : decide (b0 ≤ 122)
            · cases g3 : decide (65 ≤ b0)
              · go_wp2_with ((go_at_call 15; refine (slash15 _ W).mono ?_; rintro e w5 ⟨rfl, rfl⟩))
                go_meet
                case rel => exact ⟨by simp [r17, g1, g2, g3], rfl⟩
              · cases g4 : decide (b0 ≤ 90)
                · go_wp2_with ((go_at_call 15; refine (slash15 _ W).mono ?_; rintro e w5 ⟨rfl, rfl⟩))
                  go_meet
                  case rel => exact ⟨by simp [r17, g1, g2, g3, g4], rfl⟩
                · cases e1 : (b1 == 58)
                  · go_wp2_with ((go_at_call 15; refine (slash15 _ W).mono ?_; rintro e w5 ⟨rfl, rfl⟩))
                    go_meet
                    case rel => exact ⟨by simp [r17, g1, g2, g3, g4, e1], rfl⟩
                  · go_wp2_with ((go_at_call 15; refine (slash15 _ W).mono ?_; rintro e w5 ⟨rfl, rfl⟩))
                    go_meet
                    case rel => exact ⟨by simp [r17, g1, g2, g3, g4, e1], rfl⟩
            · cases e1 : (b1 == 58)
              · go_wp2_with ((go_at_call 15; refine (slash15 _ W).mono ?_; rintro e w5 ⟨rfl, rfl⟩))
                go_meet
                case rel => exact ⟨by simp [r17, g1, g2, e1], rfl⟩
              · go_wp2_with ((go_at_call 15; refine (slash15 _ W).mono ?_; rintro e w5 ⟨rfl, rfl⟩))
                go_meet
                case rel => exact ⟨by simp [r17, g1, g2, e1], rfl⟩
        case rest =>
          obtain ⟨rfl, rfl⟩ := hcut
          cases h17 : r17 b0 b1 b2
          rotate_left
          · go_wp2
            go_ret
            exact ⟨true, 0, _, _, none, rfl, HL1.out, HB.out.mono HL.out.lw, HT1.out, .inl ⟨rfl, rfl, rfl⟩, fun p t cs ho _ _ _ _ _ _ => ho.below HB.out ho.lt⟩
          go_wp2_with fail
          refine (rng17 p W HP1.out).mono ?_
          rintro e w1 ⟨rfl, hb1⟩
          have HB1 := Lib.hid hb1
          clear hb1 c0
          go_upto_region 20 with fail
          generalize hW2 : w1.alloc _ = W2
          have hb2 : Below W.heap.size W W2 := by rw [← hW2]; exact HB1.out.alloc HB1.out.size _
          have oR : Own W2 w1.heap.size 69 #[.int .i32 0, .int .i32 0] := by rw [← hW2]; exact Own.new _ _ _
          have oT := HT1.out.below hb2 HT1.out.lt
          have t0 : W2.cell? ⟨t, 0, none⟩ = some (.pointer none) := (oT.cell 0).trans rfl
          have HOR := Lib.hid oR
          have HB2 := Lib.hid hb2
          have HT2 := Lib.hid oT
          clear hW2 hb2 oR oT
          go_wp2_with fail
          refine (trk8 p W2 (HP1.out.below HB2.out HP1.out.lt)).mono ?_
          rintro e w3 ⟨rfl, hb3⟩
          have oT3 := HT2.out.below hb3 HT2.out.lt
          have t3 : w3.cell? ⟨t, 0, none⟩ = some (.pointer none) := (oT3.cell 0).trans rfl
          have f3 : ∀ o, (w3.alloc o).frozen? ⟨t, 0, none⟩ = false := fun o => (oT3.alloc o).frozen 0
          have t4 : ∀ o, (w3.alloc o).cell? ⟨t, 0, none⟩ = some (.pointer none) := fun o => ((oT3.alloc o).cell 0).trans rfl
          have HB3 := Lib.hid (HB2.out.trans (hb3.mono HB2.out.size))
          have HOR3 := Lib.hid (HOR.out.below hb3 HOR.out.lt)
          have HT3 := Lib.hid oT3
          clear t0 hb3 oT3
          unfold trkC
          go_upto_region 23 with fail
          have HB4 : Hid (Below W.heap.size W (w3.alloc (.cells (trkC false) 72))) := Lib.hid (HB3.out.alloc HB3.out.size _)
          have HT4 := Lib.hid (HT3.out.alloc (.cells (trkC false) 72))
          have HQ4 := Lib.hid (own_at (W := w3) rfl 72 (trkC false))
          have HOR4 := Lib.hid (HOR3.out.alloc (.cells (trkC false) 72))
          unfold trkC at HB4 HT4 HOR4
          have HQ4' : Hid (Own (w3.alloc (.cells #[.string ⟨#[]⟩, .string ⟨#[]⟩, .string ⟨#[]⟩, .int .i32 0, .int .i32 0, .int .i32 0, .int .i32 0, .bool true, .bool false, .bool true] 72)) w3.heap.size 72 (trkC false)) := HQ4
          clear t3 f3 t4 HQ4
          generalize w3.alloc _ = W4 at *
          have HL4 := Lib.hid (LogSt.setT (HL1.out.below HB4.out) HT4.out (.pointer (some ⟨w3.heap.size, 0, none⟩)))
          have oL4 := HOL.out.below HB4.out HOL.out.lt
          have HOL5 := Lib.hid (oL4.far (p := ⟨t, 0, none⟩) (own_ne oL4 HT4.out (by decide)) (.pointer (some ⟨w3.heap.size, 0, none⟩)))
          have HOR5 := Lib.hid (HOR4.out.far (p := ⟨t, 0, none⟩) (own_ne HOR4.out HT4.out (by decide)) (.pointer (some ⟨w3.heap.size, 0, none⟩)))
          have HQ5 := Lib.hid (HQ4'.out.far (p := ⟨t, 0, none⟩) (own_ne HQ4'.out HT4.out (by decide)) (.pointer (some ⟨w3.heap.size, 0, none⟩)))
          have HT5 : Hid (Own (W4.setCell ⟨t, 0, none⟩ (.pointer (some ⟨w3.heap.size, 0, none⟩))) t 23 #[.pointer (some ⟨w3.heap.size, 0, none⟩)]) := Lib.hid (HT4.out.set 0 _)
          have HB5 : Hid (Below lo w (W4.setCell ⟨t, 0, none⟩ (.pointer (some ⟨w3.heap.size, 0, none⟩)))) := Lib.hid (((HB.out.mono HL.out.lw).trans (HB4.out.mono (Nat.le_trans HL.out.lw HB.out.size))).setCell hlo _)
          have HK5 : Hid (∀ p' t' cs, Own w p' t' cs → t' ≠ 23 → Own (W4.setCell ⟨t, 0, none⟩ (.pointer (some ⟨w3.heap.size, 0, none⟩))) p' t' cs) := Lib.hid fun p' t' cs ho h => by
            have o1 := ho.below HB.out ho.lt
            have o2 := o1.below HB4.out o1.lt
            exact o2.far (own_ne o2 HT4.out h) _
          generalize W4.setCell _ _ = W5 at *
          have HF5 : Hid (F.answers W5.tape) := Lib.hid (by have h := HF1.out; rw [HB.out.tape] at h; rw [HB5.out.tape]; exact h)
          have hlo5 : lo ≤ w3.heap.size := Nat.le_trans (Nat.le_trans HL.out.lw HB.out.size) HB3.out.size
          have hS : ∀ V, Own V w.heap.size 33 #[.func (.func 8) #[] #[.pointer (some ⟨k, 0, none⟩), .pointer (some ⟨mu, 0, none⟩), .pointer (some ⟨he, 0, none⟩), .pointer (some ⟨ms, 0, none⟩)], .func (.func 11) #[] #[.pointer (some ⟨mu, 0, none⟩), .pointer (some ⟨he, 0, none⟩)], .func (.func 12) #[] #[.pointer (some ⟨mu, 0, none⟩), .pointer (some ⟨ms, 0, none⟩)], .func (.func 13) #[] #[.pointer (some ⟨mu, 0, none⟩), .pointer (some ⟨ms, 0, none⟩)], .int .i8 3, .map none] → Own V t 23 #[.pointer (some ⟨w3.heap.size, 0, none⟩)] → Own V w1.heap.size 69 #[.int .i32 0, .int .i32 0] →
              (V.cell? ⟨w.heap.size, 0, none⟩ = some (.func (.func 8) #[] #[.pointer (some ⟨k, 0, none⟩), .pointer (some ⟨mu, 0, none⟩), .pointer (some ⟨he, 0, none⟩), .pointer (some ⟨ms, 0, none⟩)]) ∧ V.cell? ⟨w.heap.size, 1, none⟩ = some (.func (.func 11) #[] #[.pointer (some ⟨mu, 0, none⟩), .pointer (some ⟨he, 0, none⟩)]) ∧ V.cell? ⟨w.heap.size, 2, none⟩ = some (.func (.func 12) #[] #[.pointer (some ⟨mu, 0, none⟩), .pointer (some ⟨ms, 0, none⟩)]) ∧ V.cell? ⟨w.heap.size, 3, none⟩ = some (.func (.func 13) #[] #[.pointer (some ⟨mu, 0, none⟩), .pointer (some ⟨ms, 0, none⟩)]) ∧ V.cell? ⟨w.heap.size, 4, none⟩ = some (.int .i8 3) ∧ V.cell? ⟨w.heap.size, 5, none⟩ = some (.map none) ∧ V.cell? ⟨t, 0, none⟩ = some (.pointer (some ⟨w3.heap.size, 0, none⟩)) ∧ V.cell? ⟨w1.heap.size, 0, none⟩ = some (.int .i32 0) ∧ V.cell? ⟨w1.heap.size, 1, none⟩ = some (.int .i32 0)) :=
            fun V h1 h3 h2 => ⟨(h1.cell 0).trans rfl, (h1.cell 1).trans rfl, (h1.cell 2).trans rfl, (h1.cell 3).trans rfl, (h1.cell 4).trans rfl, (h1.cell 5).trans rfl, (h3.cell 0).trans rfl, (h2.cell 0).trans rfl, (h2.cell 1).trans rfl⟩
          have hF' := answers_open HF5.out
          have hc19 := call19
          have hgf := guardF
          have hf0 := fmt0r
          have hf1 := fmt0
          have ho9 := op9
          go_region_held3 (fun V => V.cell? ⟨w.heap.size, 0, none⟩ = some (.func (.func 8) #[] #[.pointer (some ⟨k, 0, none⟩), .pointer (some ⟨mu, 0, none⟩), .pointer (some ⟨he, 0, none⟩), .pointer (some ⟨ms, 0, none⟩)]) ∧ V.cell? ⟨w.heap.size, 1, none⟩ = some (.func (.func 11) #[] #[.pointer (some ⟨mu, 0, none⟩), .pointer (some ⟨he, 0, none⟩)]) ∧ V.cell? ⟨w.heap.size, 2, none⟩ = some (.func (.func 12) #[] #[.pointer (some ⟨mu, 0, none⟩), .pointer (some ⟨ms, 0, none⟩)]) ∧ V.cell? ⟨w.heap.size, 3, none⟩ = some (.func (.func 13) #[] #[.pointer (some ⟨mu, 0, none⟩), .pointer (some ⟨ms, 0, none⟩)]) ∧ V.cell? ⟨w.heap.size, 4, none⟩ = some (.int .i8 3) ∧ V.cell? ⟨w.heap.size, 5, none⟩ = some (.map none) ∧ V.cell? ⟨t, 0, none⟩ = some (.pointer (some ⟨w3.heap.size, 0, none⟩)) ∧ V.cell? ⟨w1.heap.size, 0, none⟩ = some (.int .i32 0) ∧ V.cell? ⟨w1.heap.size, 1, none⟩ = some (.int .i32 0))
            (first | assumption | exact hS _ HOL5.out.drew HT5.out.drew HOR5.out.drew | exact hS _ (HOL5.out.alloc _).drew (HT5.out.alloc _).drew (HOR5.out.alloc _).drew | exact hS _ (HOL5.out.alloc _).drew.drew (HT5.out.alloc _).drew.drew (HOR5.out.alloc _).drew.drew | exact hS _ (hK4 _ _ _ (HOL5.out.alloc _).drew.drew (by decide) (by decide) (by decide) (by decide) (by decide)) (hK4 _ _ _ (HT5.out.alloc _).drew.drew (by decide) (by decide) (by decide) (by decide) (by decide)) (hK4 _ _ _ (HOR5.out.alloc _).drew.drew (by decide) (by decide) (by decide) (by decide) (by decide)))
            ((go_at_call 18; refine (addID18 w3.heap.size k mu he ms lo 0 (.slice none 0 0) [] _ _ (LogSt.below HL4.out ((Below.refl _ _).alloc (Nat.le_refl _) _).drew.drew) ⟨false, (HQ5.out.alloc _).drew.drew⟩ hlo5 (by omega)).mono ?_; rintro e w4 ⟨rfl, v4, ys, hL4, hT4, hB4, hK4⟩))
          have HL6 := Lib.hid hL4
          have HB6 := Lib.hid (HB5.out.trans ((((Below.refl _ _).alloc (Nat.le_refl _) (.cells #[.iface 9 (.string s)] 20)).drew.drew.mono HL4.out.lw).trans hB4))
          have HT6 := Lib.hid (hK4 _ _ _ (HT5.out.alloc _).drew.drew (by decide) (by decide) (by decide) (by decide) (by decide))
          have HK6 : Hid (∀ p t cs, Own w p t cs → t ≠ 58 → t ≠ 4 → t ≠ 52 → t ≠ 65 → t ≠ 72 → t ≠ 23 → Own w4 p t cs) := Lib.hid fun p t cs ho h1 h2 h3 h4 h5 h6 => hK4 p t cs ((HK5.out p t cs ho h6).alloc _).drew.drew h1 h2 h3 h4 h5
          clear hL4 hT4 hB4 hK4 hS hF' hc19 hgf hf0 hf1 ho9
          go_wp2
          go_ret
          exact ⟨false, 1, v4, _, _, rfl, HL6.out, HB6.out, HT6.out, .inr ⟨rfl, rfl, _, rfl⟩, HK6.out⟩
end Go.Proofs.YtobpghjknciobadFmt.Vp
