/-
  Contract of (Token).DecodedText for the URL kind: it decodes what stands between 'url(' and ')', one space at its end struck. Conditions: as in the text Kd.
-/
import Derived.Test.YtcljenkgbbbfpaaDoorKd
namespace Go.Proofs.YtcljenkgbbbfpaaDoor.Kd
open Go.RowKit Go.PlainAid Str Mem Rws De Dw Dx
set_option linter.unusedVariables false
/-- The inner text of a URL token: what stands between 'url(' and ')', one space at its end struck. -/
def InnerU (raw inner : ByteArray) : Prop := ∃ m, raw.size = m + 1 ∧ bt raw m = 41 ∧
  ((m = 4 ∧ inner = ByteArray.empty) ∨ (4 < m ∧ wsB (bt raw 4) = false ∧ wsB (bt raw (m - 1)) = false ∧ inner = raw.extract 4 m) ∨ (5 < m ∧ wsB (bt raw 4) = false ∧ wsB (bt raw (m - 1)) = true ∧ wsB (bt raw (m - 2)) = false ∧ inner = raw.extract 4 (m - 1)))
set_option maxRecDepth 100000 in
set_option maxHeartbeats 16000000 in
theorem url (C raw inner : ByteArray) (all : List Int) (a n : Nat) (u f : Int) (hk : InnerU raw inner) (hC : C.size ≤ 100000000) (han : a + n ≤ C.size) (hraw : C.extract a (a + n) = raw)
    (w : World) (hT : Lib.Utf8Tabs 1 2 w) (hw : 3 ≤ w.heap.size)
    (hd : ∀ W, Lib.Utf8Tabs 1 2 W → 3 ≤ W.heap.size → Calls Tryd.prog 43 #[.string inner] W (Ret all W)) :
    Calls Tryd.prog 24 #[tok a n u 37 f, .string C] w (Ret all w) := by
  have hrs : raw.size = n := by rw [← hraw, size_extract]; omega
  have HD := Lib.hid hd
  have HT := Lib.hid hT
  have HK := Lib.hid hk
  have hrb : raw.size ≤ 100000000 := by omega
  have HRS := Lib.hid hrs
  clear hd hT hk hrs
  have z0 : (0 : Int) ≤ (a : Int) := by omega
  have z1 : (a : Int) ≤ ((a + n : Nat) : Int) := by omega
  have z2 : ((a + n : Nat) : Int) ≤ (C.size : Int) := by omega
  unfold tok
  go_enter Tryd.func24, Tryd.ntmps24
  go_wp2_with fail
  have hown := Own.new w 36 #[Value.int IntKind.i32 (a : Int), Value.int IntKind.i32 (n : Int), Value.int IntKind.u16 u, Value.int IntKind.u8 37, Value.int IntKind.u8 f]
  have hbw : Below w.heap.size w (w.alloc (Obj.cells #[Value.int IntKind.i32 (a : Int), Value.int IntKind.i32 (n : Int), Value.int IntKind.u16 u, Value.int IntKind.u8 37, Value.int IntKind.u8 f] 36)) := by go_grown
  have hgl := hown.lt
  have c0 := hown.cell 0
  have c1 := hown.cell 1
  have c3 := hown.cell 3
  simp only [List.getElem?_toArray, List.getElem?_cons_zero, List.getElem?_cons_succ] at c0 c1 c3
  generalize w.alloc _ = W0 at *
  clear hown
  go_region_with (first | (go_at_call 44; refine (endN a n (by omega) _).mono ?_; rintro e w1 ⟨rfl, hb1⟩; have d0 := (hb1.cell (p := ⟨w.heap.size, 0, none⟩) hgl).trans c0; have d1 := (hb1.cell (p := ⟨w.heap.size, 1, none⟩) hgl).trans c1; have d3 := (hb1.cell (p := ⟨w.heap.size, 3, none⟩) hgl).trans c3))
  all_goals
    have HB : Hid (Below w.heap.size w w1) := Lib.hid ((below_drew hbw).trans (hb1.mono (below_drew hbw).size))
    have hbz := HB.out.size
    clear hb1 d0 d1 c0 c1 c3
    rw [hraw]
    clear z0 z1 z2
    obtain ⟨m, hm, h41, hcase⟩ := HK.out
    clear HK
    have hgb := get_bt raw
    have em : (raw.size : Int) - 1 = (m : Int) := by omega
    have t41 : (bt raw m == 41) = true := beq_iff_eq.2 h41
    have HM := Lib.hid hm
    have r1 : m < raw.size := by omega
    clear hm h41
    rcases hcase with ⟨rfl, hi⟩ | ⟨h4, w4, wl, hi⟩ | ⟨h4, w4, wl, wp, hi⟩
    · subst hi
      have tl : decide ((4 : Int) < ((4 : Nat) : Int)) = false := by decide
      go_wp2_with fail
      refine wp_loop_rounds 1 ?_
      rw [rounds_succ]
      go_wp2_with fail
      refine wp_loop_rounds 1 ?_
      rw [rounds_succ]
      go_wp2_with fail
      with_reducible refine (HD.out _ (tabs_of HT.out hw HB.out) (Nat.le_trans hw hbz)).mono ?_
      rintro e w2 ⟨l, rfl, hl, hb2⟩
      have HL := Lib.hid hl
      have HB2 := Lib.hid (HB.out.trans (hb2.mono hbz))
      clear hl hb2
      go_wp2_with fail
      go_ret
      exact ⟨l, rfl, HL.out, HB2.out⟩
    · subst hi
      obtain ⟨j, rfl⟩ : ∃ j, m = j + 1 := ⟨m - 1, by omega⟩
      have W4 := Lib.hid w4
      have WL : Hid (wsB (bt raw j) = false) := Lib.hid wl
      clear w4 wl
      have tl : decide ((4 : Int) < ((j + 1 : Nat) : Int)) = true := decide_eq_true (by omega)
      have ej : ((j + 1 : Nat) : Int) - 1 = (j : Int) := by omega
      have b4 := bt_nonneg raw 4
      have b4' := bt_le raw 4
      have bj := bt_nonneg raw j
      have bj' := bt_le raw j
      have j4 : 4 < raw.size := by omega
      have jl : j < raw.size := by omega
      go_wp2_with fail
      refine wp_loop_rounds 1 ?_
      rw [rounds_succ]
      go_wp2_with (go_at_call 45; refine (isWs _ _).mono ?_; rintro e w9 ⟨rfl, rfl⟩; rw [W4.out])
      refine wp_loop_rounds 1 ?_
      rw [rounds_succ]
      go_wp2_with (go_at_call 45; refine (isWs _ _).mono ?_; rintro e w9 ⟨rfl, rfl⟩; rw [WL.out])
      with_reducible refine (HD.out _ (tabs_of HT.out hw HB.out) (Nat.le_trans hw hbz)).mono ?_
      rintro e w2 ⟨l, rfl, hl, hb2⟩
      have HL := Lib.hid hl
      have HB2 := Lib.hid (HB.out.trans (hb2.mono hbz))
      clear hl hb2
      go_wp2_with fail
      go_ret
      exact ⟨l, rfl, HL.out, HB2.out⟩
    · obtain ⟨j, rfl⟩ : ∃ j, m = j + 1 + 1 := ⟨m - 2, by omega⟩
      replace hi : inner = raw.extract 4 (j + 1) := hi
      subst hi
      have W4 := Lib.hid w4
      have WL : Hid (wsB (bt raw (j + 1)) = true) := Lib.hid wl
      have WP : Hid (wsB (bt raw j) = false) := Lib.hid wp
      clear w4 wl wp
      have tl : decide ((4 : Int) < ((j + 1 + 1 : Nat) : Int)) = true := decide_eq_true (by omega)
      have tl2 : decide ((4 : Int) < ((j + 1 : Nat) : Int)) = true := decide_eq_true (by omega)
      have ej : ((j + 1 + 1 : Nat) : Int) - 1 = ((j + 1 : Nat) : Int) := by omega
      have ej2 : ((j + 1 : Nat) : Int) - 1 = (j : Int) := by omega
      have b4 := bt_nonneg raw 4
      have b4' := bt_le raw 4
      have bj := bt_nonneg raw j
      have bj' := bt_le raw j
      have bk := bt_nonneg raw (j + 1)
      have bk' := bt_le raw (j + 1)
      have j4 : 4 < raw.size := by omega
      have jl : j < raw.size := by omega
      have jl2 : j + 1 < raw.size := by omega
      go_wp2_with fail
      refine wp_loop_rounds 1 ?_
      rw [rounds_succ]
      go_wp2_with (go_at_call 45; refine (isWs _ _).mono ?_; rintro e w9 ⟨rfl, rfl⟩; rw [W4.out])
      refine wp_loop_rounds 2 ?_
      rw [rounds_succ]
      go_wp2_with (go_at_call 45; refine (isWs _ _).mono ?_; rintro e w9 ⟨rfl, rfl⟩; rw [WL.out])
      rw [rounds_succ]
      go_wp2_with (go_at_call 45; refine (isWs _ _).mono ?_; rintro e w9 ⟨rfl, rfl⟩; rw [WP.out])
      with_reducible refine (HD.out _ (tabs_of HT.out hw HB.out) (Nat.le_trans hw hbz)).mono ?_
      rintro e w2 ⟨l, rfl, hl, hb2⟩
      have HL := Lib.hid hl
      have HB2 := Lib.hid (HB.out.trans (hb2.mono hbz))
      clear hl hb2
      go_wp2_with fail
      go_ret
      exact ⟨l, rfl, HL.out, HB2.out⟩
end Go.Proofs.YtcljenkgbbbfpaaDoor.Kd
