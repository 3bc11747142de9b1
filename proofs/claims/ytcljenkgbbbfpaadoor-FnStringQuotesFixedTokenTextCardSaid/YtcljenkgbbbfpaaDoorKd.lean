/-
  Contract of (Token).DecodedText for the kinds that are decoded: it decodes the inner text. Conditions: the token lies in the text; the contract of decodeEscapesInToken at the inner text.
-/
import Derived.Test.YtcljenkgbbbfpaaDoorDz
import Derived.Test.YtcljenkgbbbfpaaDoorRow
import Derived.RegionTactic
import Derived.BigRegion
import Derived.Deep.RegionHeld3
namespace Go.Proofs.YtcljenkgbbbfpaaDoor.Kd
open Go.RowKit Go.PlainAid Str Mem Rws De Dw Dx
set_option linter.unusedVariables false
theorem endAt (a n : Int) (h0 : 0 ≤ a) (h1 : a ≤ 100000000) (h2 : 0 ≤ n) (h3 : n ≤ 100000000) (w : World) : Calls Tryd.prog 44 #[.agg #[.int .i32 a, .int .i32 n]] w fun e w' => e = .returned (.int .i32 (a + n)) ∧ Below w.heap.size w w' := by
  go_enter Tryd.func44, Tryd.ntmps44
  go_wp2
  try go_region
  go_wp2
  go_ret
  exact ⟨rfl, by go_grown⟩
theorem endN (a n : Nat) (h1 : a + n ≤ 100000000) (w : World) : Calls Tryd.prog 44 #[.agg #[.int .i32 (a : Int), .int .i32 (n : Int)]] w fun e w' => e = .returned (.int .i32 ((a + n : Nat) : Int)) ∧ Below w.heap.size w w' := by
  have h := endAt a n (by omega) (by omega) (by omega) (by omega) w
  rw [show (a : Int) + (n : Int) = ((a + n : Nat) : Int) by omega] at h
  exact h
/-- A token's value. -/
def tok (a n u k f : Int) : Value := .agg #[.int .i32 a, .int .i32 n, .int .u16 u, .int .u8 k, .int .u8 f]
theorem keep3 {w W W1 : World} {g : Nat} {x0 x1 x3 : Value} (h1 : Below W.heap.size W W1) (h : W.cell? ⟨g, 0, none⟩ = some x0 ∧ W.cell? ⟨g, 1, none⟩ = some x1 ∧ W.cell? ⟨g, 3, none⟩ = some x3 ∧ Below w.heap.size w W ∧ g < W.heap.size) :
    W1.cell? ⟨g, 0, none⟩ = some x0 ∧ W1.cell? ⟨g, 1, none⟩ = some x1 ∧ W1.cell? ⟨g, 3, none⟩ = some x3 ∧ Below w.heap.size w W1 ∧ g < W1.heap.size := by
  obtain ⟨a, b, c, d, hg⟩ := h
  have hz := d.size
  have hz1 := h1.size
  exact ⟨(h1.cell (p := ⟨g, 0, none⟩) hg).trans a, (h1.cell (p := ⟨g, 1, none⟩) hg).trans b, (h1.cell (p := ⟨g, 3, none⟩) hg).trans c, d.trans (h1.mono hz), by omega⟩
/-- The inner text of a token of kind k over the text raw. -/
def Inner (k : Int) (raw inner : ByteArray) : Prop :=
  ((k = 29 ∨ k = 26) ∧ inner = raw) ∨ ((k = 1 ∨ k = 28) ∧ 1 ≤ raw.size ∧ inner = raw.extract 1 raw.size) ∨ (k = 27 ∧ ∃ m, raw.size = m + 1 ∧ inner = raw.extract 0 m) ∨ (k = 36 ∧ ∃ m, raw.size = m + 2 ∧ inner = raw.extract 1 (m + 1))
set_option maxRecDepth 100000 in
set_option maxHeartbeats 16000000 in
theorem text (C raw inner : ByteArray) (all : List Int) (a n : Nat) (u k f : Int) (hk : Inner k raw inner) (hC : C.size ≤ 100000000) (han : a + n ≤ C.size) (hraw : C.extract a (a + n) = raw)
    (w : World) (hT : Lib.Utf8Tabs 1 2 w) (hw : 3 ≤ w.heap.size)
    (hd : ∀ W, Lib.Utf8Tabs 1 2 W → 3 ≤ W.heap.size → Calls Tryd.prog 43 #[.string inner] W (Ret all W)) :
    Calls Tryd.prog 24 #[tok a n u k f, .string C] w (Ret all w) := by
  have hrs : raw.size = n := by rw [← hraw, size_extract]; omega
  have HD := Lib.hid hd
  have HT := Lib.hid hT
  have HK := Lib.hid hk
  have hrb : raw.size ≤ 100000000 := by omega
  have HRS := Lib.hid hrs
  clear hd hT hk hrs
  have z0 : (0 : Int) ≤ (a : Int) := by omega
  have z1 : (a : Int) ≤ ((a + n : Nat) : Int) := by omega
  have z2 : ((a + n : Nat) : Int) ≤ (C.size : Int) := by omega
  unfold tok
  go_enter Tryd.func24, Tryd.ntmps24
  go_wp2_with fail
  have hown := Own.new w 36 #[Value.int IntKind.i32 (a : Int), Value.int IntKind.i32 (n : Int), Value.int IntKind.u16 u, Value.int IntKind.u8 k, Value.int IntKind.u8 f]
  have hbw : Below w.heap.size w (w.alloc (Obj.cells #[Value.int IntKind.i32 (a : Int), Value.int IntKind.i32 (n : Int), Value.int IntKind.u16 u, Value.int IntKind.u8 k, Value.int IntKind.u8 f] 36)) := by go_grown
  have hgl := hown.lt
  have c0 := hown.cell 0
  have c1 := hown.cell 1
  have c3 := hown.cell 3
  simp only [List.getElem?_toArray, List.getElem?_cons_zero, List.getElem?_cons_succ] at c0 c1 c3
  generalize w.alloc _ = W0 at *
  clear hown
  go_region_with (first | (go_at_call 44; refine (endN a n (by omega) _).mono ?_; rintro e w1 ⟨rfl, hb1⟩; have d0 := (hb1.cell (p := ⟨w.heap.size, 0, none⟩) hgl).trans c0; have d1 := (hb1.cell (p := ⟨w.heap.size, 1, none⟩) hgl).trans c1; have d3 := (hb1.cell (p := ⟨w.heap.size, 3, none⟩) hgl).trans c3))
  all_goals
    have HB : Hid (Below w.heap.size w w1) := Lib.hid ((below_drew hbw).trans (hb1.mono (below_drew hbw).size))
    have hbz := HB.out.size
    clear hb1 d0 d1 c0 c1 c3
    rw [hraw]
    clear z0 z1 z2
    rcases HK.out with ⟨hk, hi⟩ | ⟨hk, hr, hi⟩ | ⟨hk, m, hr, hi⟩ | ⟨hk, m, hr, hi⟩
    · subst hi
      clear HK
      rcases hk with rfl | rfl
      all_goals
        go_wp2_with fail
        with_reducible refine (HD.out _ (tabs_of HT.out hw HB.out) (Nat.le_trans hw hbz)).mono ?_
        rintro e w2 ⟨l, rfl, hl, hb2⟩
        have HL := Lib.hid hl
        have HB2 := Lib.hid (HB.out.trans (hb2.mono hbz))
        clear hl hb2
        go_wp2_with fail
        go_ret
        exact ⟨l, rfl, HL.out, HB2.out⟩
    · subst hi
      clear HK
      have r0 : (1 : Int) ≤ (raw.size : Int) := by omega
      rcases hk with rfl | rfl
      all_goals
        go_wp2_with fail
        with_reducible refine (HD.out _ (tabs_of HT.out hw HB.out) (Nat.le_trans hw hbz)).mono ?_
        rintro e w2 ⟨l, rfl, hl, hb2⟩
        have HL := Lib.hid hl
        have HB2 := Lib.hid (HB.out.trans (hb2.mono hbz))
        clear hl hb2
        go_wp2_with fail
        go_ret
        exact ⟨l, rfl, HL.out, HB2.out⟩
    · subst hi
      clear HK
      have em : (raw.size : Int) - 1 = (m : Int) := by omega
      have r0 : (0 : Int) ≤ (m : Int) := by omega
      have r1 : (m : Int) ≤ (raw.size : Int) := by omega
      have HR := Lib.hid hr
      clear hr
      subst hk
      go_wp2_with fail
      with_reducible refine (HD.out _ (tabs_of HT.out hw HB.out) (Nat.le_trans hw hbz)).mono ?_
      rintro e w2 ⟨l, rfl, hl, hb2⟩
      have HL := Lib.hid hl
      have HB2 := Lib.hid (HB.out.trans (hb2.mono hbz))
      clear hl hb2
      go_wp2_with fail
      go_ret
      exact ⟨l, rfl, HL.out, HB2.out⟩
    · subst hi
      clear HK
      have em : (raw.size : Int) - 1 = ((m + 1 : Nat) : Int) := by omega
      have r0 : (1 : Int) ≤ ((m + 1 : Nat) : Int) := by omega
      have r1 : ((m + 1 : Nat) : Int) ≤ (raw.size : Int) := by omega
      have HR := Lib.hid hr
      clear hr
      subst hk
      go_wp2_with fail
      with_reducible refine (HD.out _ (tabs_of HT.out hw HB.out) (Nat.le_trans hw hbz)).mono ?_
      rintro e w2 ⟨l, rfl, hl, hb2⟩
      have HL := Lib.hid hl
      have HB2 := Lib.hid (HB.out.trans (hb2.mono hbz))
      clear hl hb2
      go_wp2_with fail
      go_ret
      exact ⟨l, rfl, HL.out, HB2.out⟩
end Go.Proofs.YtcljenkgbbbfpaaDoor.Kd
