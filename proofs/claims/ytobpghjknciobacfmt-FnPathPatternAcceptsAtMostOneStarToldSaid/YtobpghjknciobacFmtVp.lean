/-
  Proved: isValidTSConfigPathPattern answers whether the text holds at most one star, and logs one warning where it refuses; fmt.Sprintf is told.
  Conditions: those that each theorem names as its hypotheses, and no others.
-/
import Derived.Test.YtobpghjknciobacFmtLg
import Derived.PlainAid
import Derived.Stop.CallBack
import Derived.Stop.IfaceNil
import GoSem.ClaimData
namespace Go.Proofs.YtobpghjknciobacFmt.Vp
open Go.RowKit Go.PlainAid Mem Ho Go.MuLone Locks Lg Go.Extern.Stop Go.Stop Go.Extern
set_option linter.unusedVariables false
set_option linter.unusedSimpArgs false
theorem call19 (args : Array Value) (w : World) : (callFunc 19 args).run Tryf.prog w = ((FmtStop.sprintf #[9, 131] #[9] args).run Tryf.prog w).andThen fun v w' => .ok (.value v) w' :=
  run_callFunc_extern Tryf.func19 (by kernel_rfl) (by kernel_rfl) (by kernel_rfl) (by kernel_rfl) args w
theorem guardF (name : String) (w : World) : (FmtStop.guard name).run Tryf.prog w = .ok () w := by kernel_rfl
theorem fmt0 : FmtStop.printed? ⟨#[73, 110, 118, 97, 108, 105, 100, 32, 112, 97, 116, 116, 101, 114, 110, 32, 37, 113, 44, 32, 109, 117, 115, 116, 32, 104, 97, 118, 101, 32, 97, 116, 32, 109, 111, 115, 116, 32, 111, 110, 101, 32, 34, 42, 34, 32, 99, 104, 97, 114, 97, 99, 116, 101, 114]⟩ 1 = some [(0, 113, false)] := by kernel_rfl
theorem fmt0r (w : World) : (FmtDoors.printed ⟨#[73, 110, 118, 97, 108, 105, 100, 32, 112, 97, 116, 116, 101, 114, 110, 32, 37, 113, 44, 32, 109, 117, 115, 116, 32, 104, 97, 118, 101, 32, 97, 116, 32, 109, 111, 115, 116, 32, 111, 110, 101, 32, 34, 42, 34, 32, 99, 104, 97, 114, 97, 99, 116, 101, 114]⟩ 1).run Tryf.prog w = .ok [(0, 113, false)] w := by kernel_rfl
def shape9 : List UInt8 := [12, 6, 0, 0, 0, 0, 0, 0, 0, 115, 116, 114, 105, 110, 103]
theorem op9 (name : String) (x : ByteArray) (w : World) : (FmtStop.operand name false 113 false (.iface 9 (.string x))).run Tryf.prog w = .ok (shape9, FmtStop.pack x.data.toList) w := by kernel_rfl
/-- stars among the first k bytes -/
def stars (s : ByteArray) : Nat → Nat
  | 0 => 0
  | k + 1 => stars s k + if bt s k == 42 then 1 else 0
theorem stars_yes {s : ByteArray} {k : Nat} (h : (bt s k == 42) = true) : stars s (k + 1) = stars s k + 1 := by rw [stars, if_pos h]
theorem stars_no {s : ByteArray} {k : Nat} (h : (bt s k == 42) = false) : stars s (k + 1) = stars s k := by rw [stars, h]; rfl
theorem stars_mono (s : ByteArray) : ∀ {m n : Nat}, m ≤ n → stars s m ≤ stars s n
  | m, 0, h => by obtain rfl : m = 0 := by omega
                  exact Nat.le_refl _
  | m, n + 1, h => by
    rcases Nat.eq_or_lt_of_le h with rfl | h'
    · exact Nat.le_refl _
    · exact Nat.le_trans (stars_mono s (by omega : m ≤ n)) (by rw [stars]; omega)
def Valid (s : ByteArray) (lo k mu he ms : Nat) (w : World) (e : Ending) (w' : World) : Prop :=
  e = .returned (.bool (decide (stars s s.size ≤ 1))) ∧ ∃ m v xs, m ≤ 1 ∧ LogSt w' lo k mu he ms v m xs ∧ Below lo w w' ∧ ∀ p t cs, Own w p t cs → t ≠ 60 → t ≠ 4 → t ≠ 54 → t ≠ 67 → t ≠ 46 → Own w' p t cs
set_option maxRecDepth 100000 in
set_option maxHeartbeats 1000000 in
theorem valid9 (F : Go.Stop.Interp) (s : ByteArray) (p q lo k mu he ms : Nat) (w : World) (hF : F.answers w.tape) (hs : s.size ≤ 1048576) (hL : LogSt w lo k mu he ms (.slice none 0 0) 0 []) (hp : Own w p 44 srcC) (hq : Trk w q) (hlo : lo ≤ q) :
    Calls Tryf.prog 9 #[.string s, logV k mu he ms, .pointer (some ⟨p, 0, none⟩), .pointer (some ⟨q, 0, none⟩), .agg #[.int .i32 0]] w (Valid s lo k mu he ms w) := by
  have HL := Lib.hid hL
  have HP := Lib.hid hp
  have HQ := Lib.hid hq
  have HF := Lib.hid hF
  clear hL hp hq hF
  unfold logV
  have hgb := get_bt s
  go_enter Tryf.func9, Tryf.ntmps9
  go_upto_region 1 with fail
  generalize hW : (w.alloc _).alloc _ = W
  have hb : Below w.heap.size w W := by rw [← hW]; exact ((Below.refl _ _).alloc (Nat.le_refl _) _).alloc (by simp) _
  have oL : Own W w.heap.size 32 #[.func (.func 10) #[] #[.pointer (some ⟨k, 0, none⟩), .pointer (some ⟨mu, 0, none⟩), .pointer (some ⟨he, 0, none⟩), .pointer (some ⟨ms, 0, none⟩)], .func (.func 13) #[] #[.pointer (some ⟨mu, 0, none⟩), .pointer (some ⟨he, 0, none⟩)], .func (.func 14) #[] #[.pointer (some ⟨mu, 0, none⟩), .pointer (some ⟨ms, 0, none⟩)], .func (.func 15) #[] #[.pointer (some ⟨mu, 0, none⟩), .pointer (some ⟨ms, 0, none⟩)], .int .i8 3, .map none] := by rw [← hW]; exact (own_at rfl _ _).alloc _
  have oC : Own W (w.heap.size + 1) 52 #[.int .i32 0] := by rw [← hW]; exact own_at (by simp) _ _
  have c0 : W.cell? ⟨w.heap.size + 1, 0, none⟩ = some (.int .i32 0) := (oC.cell 0).trans rfl
  have HOL := Lib.hid oL
  have HL1 := Lib.hid (HL.out.below hb)
  have HP1 := Lib.hid (HP.out.below hb HP.out.lt)
  have HQ1 : Hid (Trk W q) := Lib.hid (HQ.out.imp fun _ ho => ho.below hb ho.lt)
  have HF1 : Hid (F.answers W.tape) := Lib.hid (by rw [hb.tape]; exact HF.out)
  have HB := Lib.hid hb
  clear hW hb oL oC HF HQ HP
  go_wp2_with fail
  go_loop [11, 12] (fun x i => ∃ j : Nat, j ≤ s.size ∧ i = .int .i64 j ∧ x = .bool (stars s j == 1) ∧ stars s j ≤ 1) (fun _ i => s.size - (intOf i).toNat)
  case atStart => exact ⟨0, Nat.zero_le _, rfl, rfl, Nat.zero_le _⟩
  case round =>
    obtain ⟨j, hj, rfl, rfl, hs1⟩ := hrel
    by_cases hlt : j < s.size
    · cases hst : (bt s j == 42)
      · go_wp2
        go_round
        case rel => exact ⟨j + 1, by omega, by go_num, by rw [stars_no hst], by rw [stars_no hst]; exact hs1⟩
        case measure => simp [intOf]; omega
      · rcases Nat.eq_zero_or_pos (stars s j) with h0 | h0
        · have e0 : (stars s j == 1) = false := by rw [h0]; rfl
          go_wp2
          go_round
          case rel => exact ⟨j + 1, by omega, by go_num, by rw [stars_yes hst, h0]; rfl, by rw [stars_yes hst]; omega⟩
          case measure => simp [intOf]; omega
        · have h1 : stars s j = 1 := by omega
          have e0 : (stars s j == 1) = true := by rw [h1]; rfl
          have hno : decide (stars s s.size ≤ 1) = false := decide_eq_false (by have := stars_mono s (show j + 1 ≤ s.size from hlt); rw [stars_yes hst] at this; omega)
          have HNO := Lib.hid hno
          clear hs1
          clear hno
          go_wp2_with fail
          refine (rng17 p W HP1.out).mono ?_
          rintro e w1 ⟨rfl, hb1⟩
          have HB1 := Lib.hid hb1
          clear hb1 c0
          go_upto_region 8 with fail
          generalize hW2 : w1.alloc _ = W2
          have hb2 : Below W.heap.size W W2 := by rw [← hW2]; exact HB1.out.alloc HB1.out.size _
          have oR : Own W2 w1.heap.size 70 #[.int .i32 0, .int .i32 0] := by rw [← hW2]; exact Own.new _ _ _
          have oL := HOL.out.below hb2 HOL.out.lt
          have HOR := Lib.hid oR
          have HOL2 := Lib.hid oL
          have HL2 := Lib.hid (HL1.out.below hb2)
          have HQ2 : Hid (Trk W2 q) := Lib.hid (HQ1.out.imp fun _ ho => ho.below hb2 ho.lt)
          have HF2 : Hid (F.answers W2.tape) := Lib.hid (by rw [hb2.tape]; exact HF1.out)
          have HB2 := Lib.hid hb2
          clear hW2 hb2 oR oL
          have hS : ∀ V, Own V w.heap.size 32 #[.func (.func 10) #[] #[.pointer (some ⟨k, 0, none⟩), .pointer (some ⟨mu, 0, none⟩), .pointer (some ⟨he, 0, none⟩), .pointer (some ⟨ms, 0, none⟩)], .func (.func 13) #[] #[.pointer (some ⟨mu, 0, none⟩), .pointer (some ⟨he, 0, none⟩)], .func (.func 14) #[] #[.pointer (some ⟨mu, 0, none⟩), .pointer (some ⟨ms, 0, none⟩)], .func (.func 15) #[] #[.pointer (some ⟨mu, 0, none⟩), .pointer (some ⟨ms, 0, none⟩)], .int .i8 3, .map none] → Own V w1.heap.size 70 #[.int .i32 0, .int .i32 0] →
              (V.cell? ⟨w.heap.size, 0, none⟩ = some (.func (.func 10) #[] #[.pointer (some ⟨k, 0, none⟩), .pointer (some ⟨mu, 0, none⟩), .pointer (some ⟨he, 0, none⟩), .pointer (some ⟨ms, 0, none⟩)]) ∧ V.cell? ⟨w.heap.size, 1, none⟩ = some (.func (.func 13) #[] #[.pointer (some ⟨mu, 0, none⟩), .pointer (some ⟨he, 0, none⟩)]) ∧ V.cell? ⟨w.heap.size, 2, none⟩ = some (.func (.func 14) #[] #[.pointer (some ⟨mu, 0, none⟩), .pointer (some ⟨ms, 0, none⟩)]) ∧ V.cell? ⟨w.heap.size, 3, none⟩ = some (.func (.func 15) #[] #[.pointer (some ⟨mu, 0, none⟩), .pointer (some ⟨ms, 0, none⟩)]) ∧ V.cell? ⟨w.heap.size, 4, none⟩ = some (.int .i8 3) ∧ V.cell? ⟨w.heap.size, 5, none⟩ = some (.map none) ∧ V.cell? ⟨w1.heap.size, 0, none⟩ = some (.int .i32 0) ∧ V.cell? ⟨w1.heap.size, 1, none⟩ = some (.int .i32 0)) :=
            fun V h1 h2 => ⟨(h1.cell 0).trans rfl, (h1.cell 1).trans rfl, (h1.cell 2).trans rfl, (h1.cell 3).trans rfl, (h1.cell 4).trans rfl, (h1.cell 5).trans rfl, (h2.cell 0).trans rfl, (h2.cell 1).trans rfl⟩
          have hF' := answers_open HF2.out
          have hc19 := call19
          have hgf := guardF
          have hf0 := fmt0r
          have hf1 := fmt0
          have ho9 := op9
          go_region_held3 (fun V => V.cell? ⟨w.heap.size, 0, none⟩ = some (.func (.func 10) #[] #[.pointer (some ⟨k, 0, none⟩), .pointer (some ⟨mu, 0, none⟩), .pointer (some ⟨he, 0, none⟩), .pointer (some ⟨ms, 0, none⟩)]) ∧ V.cell? ⟨w.heap.size, 1, none⟩ = some (.func (.func 13) #[] #[.pointer (some ⟨mu, 0, none⟩), .pointer (some ⟨he, 0, none⟩)]) ∧ V.cell? ⟨w.heap.size, 2, none⟩ = some (.func (.func 14) #[] #[.pointer (some ⟨mu, 0, none⟩), .pointer (some ⟨ms, 0, none⟩)]) ∧ V.cell? ⟨w.heap.size, 3, none⟩ = some (.func (.func 15) #[] #[.pointer (some ⟨mu, 0, none⟩), .pointer (some ⟨ms, 0, none⟩)]) ∧ V.cell? ⟨w.heap.size, 4, none⟩ = some (.int .i8 3) ∧ V.cell? ⟨w.heap.size, 5, none⟩ = some (.map none) ∧ V.cell? ⟨w1.heap.size, 0, none⟩ = some (.int .i32 0) ∧ V.cell? ⟨w1.heap.size, 1, none⟩ = some (.int .i32 0))
            (first | assumption | exact hS _ HOL2.out.drew HOR.out.drew | exact hS _ (HOL2.out.alloc _).drew (HOR.out.alloc _).drew | exact hS _ (HOL2.out.alloc _).drew.drew (HOR.out.alloc _).drew.drew | exact hS _ (hK4 _ _ _ (HOL2.out.alloc _).drew.drew (by decide) (by decide) (by decide) (by decide) (by decide)) (hK4 _ _ _ (HOR.out.alloc _).drew.drew (by decide) (by decide) (by decide) (by decide) (by decide)))
            ((go_at_call 18; refine (addID18 q k mu he ms lo 0 (.slice none 0 0) [] _ _ (LogSt.below HL2.out ((Below.refl _ _).alloc (Nat.le_refl _) _).drew.drew) (HQ2.out.imp fun _ ho => (ho.alloc _).drew.drew) hlo (by omega)).mono ?_; rintro e w4 ⟨rfl, v4, ys, hL4, hT4, hB4, hK4⟩))
          have hbw : Below lo w W := HB.out.mono HL.out.lw
          have hb2 : Below lo W W2 := HB2.out.mono HL1.out.lw
          have hb3 : Below lo W2 w4 := (((Below.refl _ _).alloc (Nat.le_refl _) (.cells #[.iface 9 (.string s)] 20)).drew.drew.mono HL2.out.lw).trans hB4
          have HL4 := Lib.hid hL4
          have HB4 := Lib.hid (hbw.trans (hb2.trans hb3))
          have HK4 : Hid (∀ p t cs, Own w p t cs → t ≠ 60 → t ≠ 4 → t ≠ 54 → t ≠ 67 → t ≠ 46 → Own w4 p t cs) := Lib.hid fun p t cs ho h1 h2 h3 h4 h5 => by
            have o1 := ho.below HB.out ho.lt
            have o2 := o1.below HB2.out o1.lt
            exact hK4 p t cs (o2.alloc _).drew.drew h1 h2 h3 h4 h5
          clear hL4 hT4 hB4 hK4 hS hF' hc19 hgf hf0 hf1 ho9 hbw hb2 hb3
          go_wp2
          go_ret
          exact ⟨(congrArg (fun b => Ending.returned (.bool b)) HNO.out).symm, 1, v4, _, Nat.le_refl _, HL4.out, HB4.out, HK4.out⟩
    · obtain rfl : s.size = j := by omega
      have hyes : decide (stars s s.size ≤ 1) = true := decide_eq_true hs1
      have z0 : decide ((s.size : Int) < s.size) = false := decide_eq_false (by omega)
      go_wp2
      go_ret
      exact ⟨(congrArg (fun b => Ending.returned (.bool b)) hyes).symm, 0, _, _, Nat.zero_le _, HL1.out, HB.out.mono HL.out.lw, fun p t cs ho _ _ _ _ _ => ho.below HB.out ho.lt⟩
end Go.Proofs.YtobpghjknciobacFmt.Vp
