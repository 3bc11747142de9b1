/-
  Proved: sort.Stable leaves messages without places as they are, and the conversion of errors and warnings gives the three messages of a callback.
  Conditions: those that each theorem names as its hypotheses, and no others.
-/
import Derived.Test.YtobpghjknciobabPa
namespace Go.Proofs.Ytobpghjknciobab.Pb
open Go.RowKit Go.PlainAid Mem Ho Pa
set_option linter.unusedVariables false
set_option linter.unusedSimpArgs false
theorem row_some {W : World} {lo sz n c : Nat} {e : TypeId} {A : Option Addr} {xs : List Value} (h : W.ownsRow lo e sz (.slice A n c) n xs) (hn : 0 < n) : ∃ g, A = some ⟨g, 0, none⟩ := by
  rcases h.2 with ⟨h1, rfl⟩ | ⟨g, cap, cur, h1, _⟩
  · omega
  · injection h1 with h1; exact ⟨g, h1⟩
theorem row_at {W : World} {lo sz n c g : Nat} {e : TypeId} {xs : List Value} (h : W.ownsRow lo e sz (.slice (some ⟨g, 0, none⟩) n c) n xs) (i : Nat) (hi : i < xs.length) : W.cell? ⟨g, i, none⟩ = xs[i]? := by
  have hu : xs[i]? = some xs[i] := List.getElem?_eq_getElem hi
  have := h.cells (g := g) rfl i _ hu
  rw [add_none, Nat.zero_add] at this
  rw [this, hu]
/-- messages without a place -/
def NoL (xs : List Value) (n : Nat) : Prop := xs.length = n * 8 ∧ ∀ i, i < n → ∃ kd t, ∀ q, q < 8 → xs[i * 8 + q]? = (mc kd t)[q]?
theorem noL_cells {W : World} {lo n c g : Nat} {xs : List Value} (h : W.ownsRow lo 75 8 (.slice (some ⟨g, 0, none⟩) n c) n xs) (hx : NoL xs n) {i : Nat} (hi : i < n) :
    ∃ kd t, W.cell? ⟨g, i * 8, none⟩ = some (.slice none 0 0) ∧ W.cell? ⟨g, i * 8 + 1, none⟩ = some (.string ⟨#[]⟩) ∧ W.cell? ⟨g, i * 8 + 2, none⟩ = some .nilIface ∧ W.cell? ⟨g, i * 8 + 3, none⟩ = some (.pointer none) ∧ W.cell? ⟨g, i * 8 + 4, none⟩ = some (.string t) ∧ W.cell? ⟨g, i * 8 + 5, none⟩ = some (.bool false) ∧ W.cell? ⟨g, i * 8 + 6, none⟩ = some (.int .u8 kd) ∧ W.cell? ⟨g, i * 8 + 7, none⟩ = some (.int .u8 0) := by
  obtain ⟨kd, t, hq⟩ := hx.2 i hi
  have hl := hx.1
  refine ⟨kd, t, ?_, ?_, ?_, ?_, ?_, ?_, ?_, ?_⟩
  · exact ((row_at h _ (by omega)).trans (hq 0 (by decide))).trans rfl
  · exact ((row_at h _ (by omega)).trans (hq 1 (by decide))).trans rfl
  · exact ((row_at h _ (by omega)).trans (hq 2 (by decide))).trans rfl
  · exact ((row_at h _ (by omega)).trans (hq 3 (by decide))).trans rfl
  · exact ((row_at h _ (by omega)).trans (hq 4 (by decide))).trans rfl
  · exact ((row_at h _ (by omega)).trans (hq 5 (by decide))).trans rfl
  · exact ((row_at h _ (by omega)).trans (hq 6 (by decide))).trans rfl
  · exact ((row_at h _ (by omega)).trans (hq 7 (by decide))).trans rfl
set_option maxRecDepth 100000 in
set_option maxHeartbeats 4000000 in
theorem less47 (A : Option Addr) (lo n c i j : Nat) (xs : List Value) (w : World) (hr : w.ownsRow lo 75 8 (.slice A n c) n xs) (hx : NoL xs n) (hi : i < n) (hj : j < n) (hn : n ≤ 1048576) :
    Calls Try.prog 47 #[.slice A n c, .int .i64 i, .int .i64 j] w (Giv (.bool false) w) := by
  obtain ⟨g, rfl⟩ := row_some hr (by omega)
  obtain ⟨ki, ti, r0, r1, r2, r3, r4, r5, r6, r7⟩ := noL_cells hr hx hi
  have HR := Lib.hid hr
  have HX := Lib.hid hx
  have q0 : (0 : Int) ≤ (i : Int) := by omega
  have q1 : (i : Int) < (n : Int) := by omega
  have q2 : (0 : Int) ≤ (j : Int) := by omega
  have q3 : (j : Int) < (n : Int) := by omega
  clear hr hx
  go_enter Try.func47, Try.ntmps47
  go_upto_region 2 with fail
  generalize hW : w.alloc _ = W
  have hb : Below w.heap.size w W := by rw [← hW]; exact (Below.refl _ _).alloc (Nat.le_refl _) _
  have ho : Own W w.heap.size 75 #[.slice none 0 0, .string ⟨#[]⟩, .nilIface, .pointer none, .string ti, .bool false, .int .u8 ki, .int .u8 0] := by rw [← hW]; exact Own.new _ _ _
  obtain ⟨kj, tj, s0, s1, s2, s3, s4, s5, s6, s7⟩ := noL_cells (row_below (B := 0) HR.out hb) HX.out hj
  have HO := Lib.hid ho
  have HB := Lib.hid hb
  clear r0 r1 r2 r3 r4 r5 r6 r7 hW hb ho
  go_upto_region 3 with fail
  generalize hW2 : W.alloc _ = W2
  have hb2 : Below w.heap.size w W2 := by rw [← hW2]; exact HB.out.alloc HB.out.size _
  have l1 : W2.cell? ⟨w.heap.size, 3, none⟩ = some (.pointer none) := by rw [← hW2]; exact ((HO.out.alloc _).cell 3).trans rfl
  have l2 : W2.cell? ⟨W.heap.size, 3, none⟩ = some (.pointer none) := by rw [← hW2]; exact ((Own.new _ _ _).cell 3).trans rfl
  clear s0 s1 s2 s3 s4 s5 s6 s7 hW2
  go_wp2
  go_ret
  exact ⟨rfl, hb2⟩
set_option maxRecDepth 100000 in
set_option maxHeartbeats 4000000 in
theorem ins21 (A : Option Addr) (lo n c b : Nat) (xs : List Value) (w : World) (hr : w.ownsRow lo 75 8 (.slice A n c) n xs) (hx : NoL xs n) (hb : b ≤ n) (hn : n ≤ 1048576) :
    Calls Try.prog 21 #[.iface 76 (.slice A n c), .int .i64 0, .int .i64 b] w (Giv (.tuple #[]) w) := by
  have HR := Lib.hid hr
  have HX := Lib.hid hx
  clear hr hx
  go_enter Try.func21, Try.ntmps21
  go_wp2
  go_loopw [6] (fun i W => ∃ k : Nat, 1 ≤ k ∧ i = .int .i64 k ∧ (k ≤ b ∨ b < k ∧ k = 1) ∧ Hid (Below w.heap.size w W)) (fun i _ => b - (intOf i).toNat)
  case atStart => exact ⟨1, by omega, rfl, by omega, Lib.hid (Below.refl _ _)⟩
  case round =>
    obtain ⟨k, hk1, rfl, hk, HB⟩ := hrel
    obtain ⟨wo, rfl⟩ : ∃ wo : World, wo = wr := ⟨_, rfl⟩
    by_cases hlt : k < b
    · go_wp2_with fail
      refine wp_loop_rounds 1 ?_
      rw [rounds_succ]
      have z0 : decide ((0 : Int) < k) = true := decide_eq_true (by omega)
      have e1 : ((k : Int) - 1) = ((k - 1 : Nat) : Int) := by omega
      have HE := Lib.hid e1
      clear e1
      go_wp2_with fail
      rw [HE.out]
      refine (less47 A lo n c k (k - 1) xs wo (row_below (B := 0) HR.out HB.out) HX.out (by omega) (by omega) hn).mono ?_
      rintro e w1 ⟨rfl, hb1⟩
      have HB1 := Lib.hid (HB.out.trans (hb1.mono HB.out.size))
      clear hb1
      go_wp2_with fail
      go_roundw
      case rel => exact ⟨k + 1, by omega, by go_num, by omega, HB1⟩
      case measure => simp [intOf]; omega
    · have z0 : decide ((k : Int) < b) = false := decide_eq_false (by omega)
      go_wp2
      go_end0
      exact ⟨rfl, HB.out⟩
theorem len46 (a : Option Addr) (n c : Nat) (w : World) : Calls Try.prog 46 #[.slice a n c] w fun e w' => e = .returned (.int .i64 n) ∧ w = w' := by
  go_enter Try.func46, Try.ntmps46
  go_wp2
  go_ret
  exact ⟨rfl, rfl⟩
set_option maxRecDepth 100000 in
theorem stab19 (A : Option Addr) (lo n c : Nat) (xs : List Value) (w : World) (hr : w.ownsRow lo 75 8 (.slice A n c) n xs) (hx : NoL xs n) (hn : n < 20) :
    Calls Try.prog 19 #[.iface 76 (.slice A n c), .int .i64 n] w (Giv (.tuple #[]) w) := by
  have z0 : decide ((20 : Int) ≤ n) = false := decide_eq_false (by omega)
  have z1 : decide ((20 : Int) < n) = false := decide_eq_false (by omega)
  have HI := Lib.hid (ins21 A lo n c n xs w hr hx (Nat.le_refl _) (by omega))
  clear hr hx
  go_enter Try.func19, Try.ntmps19
  go_wp2
  refine wp_loop_rounds 1 ?_
  rw [rounds_succ]
  go_wp2_with fail
  refine HI.out.mono ?_
  rintro e w' ⟨rfl, hb⟩
  have HB := Lib.hid hb
  clear hb
  go_wp2
  refine wp_loop_rounds 1 ?_
  rw [rounds_succ]
  go_wp2
  go_end0
  exact ⟨rfl, HB.out⟩
theorem stable16 (A : Option Addr) (lo n c : Nat) (xs : List Value) (w : World) (hr : w.ownsRow lo 75 8 (.slice A n c) n xs) (hx : NoL xs n) (hn : n < 20) :
    Calls Try.prog 16 #[.iface 76 (.slice A n c)] w (Giv (.tuple #[]) w) := by
  have HI := Lib.hid (stab19 A lo n c xs w hr hx hn)
  clear hr hx
  go_enter Try.func16, Try.ntmps16
  go_wp2_with fail
  refine (len46 A n c w).mono ?_
  rintro e w' ⟨rfl, rfl⟩
  go_wp2_with fail
  refine HI.out.mono ?_
  rintro e w' ⟨rfl, hb⟩
  go_wp2
  go_end0
  exact ⟨rfl, hb⟩
def e1 : ByteArray := ⟨#[101, 49]⟩
def e2 : ByteArray := ⟨#[101, 50]⟩
def w1 : ByteArray := ⟨#[119, 49]⟩
def three : List Value := mc 0 e1 ++ (mc 0 e2 ++ mc 1 w1)
theorem noL3 : NoL three 3 := ⟨rfl, fun i hi => by
  rcases (show i = 0 ∨ i = 1 ∨ i = 2 by omega) with rfl | rfl | rfl
  · exact ⟨0, e1, fun q hq => by rcases (show q = 0 ∨ q = 1 ∨ q = 2 ∨ q = 3 ∨ q = 4 ∨ q = 5 ∨ q = 6 ∨ q = 7 by omega) with rfl | rfl | rfl | rfl | rfl | rfl | rfl | rfl <;> rfl⟩
  · exact ⟨0, e2, fun q hq => by rcases (show q = 0 ∨ q = 1 ∨ q = 2 ∨ q = 3 ∨ q = 4 ∨ q = 5 ∨ q = 6 ∨ q = 7 by omega) with rfl | rfl | rfl | rfl | rfl | rfl | rfl | rfl <;> rfl⟩
  · exact ⟨1, w1, fun q hq => by rcases (show q = 0 ∨ q = 1 ∨ q = 2 ∨ q = 3 ∨ q = 4 ∨ q = 5 ∨ q = 6 ∨ q = 7 by omega) with rfl | rfl | rfl | rfl | rfl | rfl | rfl | rfl <;> rfl⟩⟩
def Three (w : World) (e : Ending) (w' : World) : Prop := ∃ A c, e = .returned (.slice (some A) 3 c) ∧ w'.ownsRow 0 75 8 (.slice (some A) 3 c) 3 three ∧ Below w.heap.size w w'
def api (t : ByteArray) : List Value := [.string ⟨#[]⟩, .string ⟨#[]⟩, .string t, .pointer none, .slice none 0 0, .nilIface]
set_option maxRecDepth 100000 in
theorem conv14 (g1 g2 : Nat) (w : World) (h1 : Own w g1 62 (api e1 ++ api e2).toArray) (h2 : Own w g2 62 (api w1).toArray) :
    Calls Try.prog 14 #[.slice (some ⟨g1, 0, none⟩) 2 2, .slice (some ⟨g2, 0, none⟩) 1 1] w (Three w) := by
  have H1 := Lib.hid h1
  have H2 := Lib.hid h2
  have hmk : (Instr.makeSlice 76 (.int .i64 0) (.int .i64 3)).run Try.prog w = .ok (.slice (some ⟨w.heap.size, 0, none⟩) 0 3) (w.alloc (.cells (madeCells msgZ (3 * 8)) 75)) := run_mkc (P := Try.prog) 76 75 (.agg msgZ) msgZ (by rfl) _ _ Try.underlying76 info75 0 3 (Nat.zero_le _) (by omega) (by omega) w
  clear h1 h2
  go_enter Try.func14, Try.ntmps14
  go_wp2_with fail
  clear hmk
  generalize hW : w.alloc _ = W
  have hr : W.ownsRow w.heap.size 75 8 (.slice (some ⟨w.heap.size, 0, none⟩) 0 3) 0 [] := by rw [← hW]; exact World.ownsRow_made (base := w.heap.size) (size := 8) (e := 75) w (madeCells msgZ (3 * 8)) 3 (Nat.le_refl _) (by unfold maxLen; omega) (by simp [size_madeCells])
  have hb : Below w.heap.size w W := by rw [← hW]; exact (Below.refl _ _).alloc (Nat.le_refl _) _
  have HB := Lib.hid hb
  have K1 := Lib.hid (H1.out.below hb H1.out.lt)
  have K2 := Lib.hid (H2.out.below hb H2.out.lt)
  have HR := Lib.hid hr
  clear hW hb hr
  refine (conv15 0 (fun j => if j = 0 then e1 else e2) w.heap.size 0 2 g1 2 _ _ [] W HR.out HB.out.size K1.out (by omega) (fun j hj => by rcases (show j = 0 ∨ j = 1 by omega) with rfl | rfl <;> exact ⟨rfl, rfl, rfl, rfl, rfl, rfl⟩)).mono ?_
  rintro e w2 ⟨v2, rfl, hr2, hb2, hk2⟩
  have HR2 := Lib.hid hr2
  have HB2 := Lib.hid (HB.out.trans hb2)
  have K3 := Lib.hid (hk2 _ _ _ K2.out (by decide))
  clear hr2 hb2 hk2
  go_wp2_with fail
  refine (conv15 1 (fun j => w1) w.heap.size (0 + 2) 1 g2 1 _ v2 _ w2 HR2.out HB2.out.size K3.out (by omega) (fun j hj => by rcases (show j = 0 by omega) with rfl; exact ⟨rfl, rfl, rfl, rfl, rfl, rfl⟩)).mono ?_
  rintro e w3 ⟨v3, rfl, hr3, hb3, hk3⟩
  have hr3' : w3.ownsRow w.heap.size 75 8 v3 3 three := hr3
  obtain ⟨A3, c3, hv3⟩ := row_form hr3'
  subst hv3
  obtain ⟨g3, rfl⟩ := row_some hr3' (by omega)
  have HR3 := Lib.hid hr3'
  have HB3 := Lib.hid (HB2.out.trans hb3)
  clear hr3 hr3' hb3 hk3
  go_wp2_with fail
  refine (stable16 (some ⟨g3, 0, none⟩) w.heap.size 3 c3 three w3 HR3.out noL3 (by omega)).mono ?_
  rintro e w4 ⟨rfl, hb4⟩
  have HR4 := Lib.hid (row_below (B := 0) HR3.out hb4)
  have HB4 := Lib.hid (HB3.out.trans (hb4.mono HB3.out.size))
  clear hb4
  go_wp2
  go_ret
  exact ⟨_, _, rfl, row_down HR4.out (Nat.zero_le _), HB4.out⟩
end Go.Proofs.Ytobpghjknciobab.Pb
