/-
  Proved: what the default map, the test of an extension, the conversion of a loader, the models of both in the law, and the data of a message without
  a place are. Conditions: those that each theorem names as its hypotheses, and no others.
-/
import Derived.Test.YtobpghjknciobaeFmtLg
import Derived.Test.YtobpghjknciobaeFmtMl
import Derived.Test.YtobpghjknciobaeFmtMv
namespace Go.Proofs.YtobpghjknciobaeFmt.Mp
open Go.RowKit Go.PlainAid Mem Ho Ml Go.Maps Go.WideMaps Go.WideShapes
set_option linter.unusedVariables false
set_option linter.unusedSimpArgs false
theorem keyS (s : ByteArray) (hs : s.size ≤ maxLen) : keyOf Tryf.prog 9 (.string s) = some (.string s.data.toList) := keyOf_string_mk Tryf.underlying9 hs
theorem lawK : Keyed Tryf.prog 9 := string_keyed Tryf.underlying9
/-- The map at block b. -/
abbrev Om (w : World) (b n : Nat) (D : DV) : Prop := w.ownsMap Tryf.prog 9 Mvs.RV b n D
theorem upd {w : World} {b n : Nat} {D : DV} {t e : TypeId} (h : Om w b n D) (ht : Tryf.prog.underlying t = some (.map 9 e)) (hn : n ≤ 1048576) (s : ByteArray) (hs : s.size ≤ maxLen) (v : Value) :
    ∃ w', (Instr.mapUpdate t (.map (some b)) (.string s) v).run Tryf.prog w = .ok () w' ∧ Om w' b (n + 1) (D.put (.string s.data.toList) (.held v)) ∧ w.grownBy w' (some b) :=
  h.update lawK ht (by unfold maxLen; omega) (keyS s hs) rfl
def base : DV := (DataW.put (DataW.put (DataW.put (DataW.put (DataW.put (DataW.put (DataW.put (DataW.put (DataW.put (DataW.put (DataW.put (DataW.put (DataW.put (.map [] : DV) (.string []) (.held (.int .u8 10))) (.string [46, 106, 115]) (.held (.int .u8 10))) (.string [46, 109, 106, 115]) (.held (.int .u8 10))) (.string [46, 99, 106, 115]) (.held (.int .u8 10))) (.string [46, 106, 115, 120]) (.held (.int .u8 13))) (.string [46, 116, 115]) (.held (.int .u8 16))) (.string [46, 99, 116, 115]) (.held (.int .u8 17))) (.string [46, 109, 116, 115]) (.held (.int .u8 17))) (.string [46, 116, 115, 120]) (.held (.int .u8 18))) (.string [46, 99, 115, 115]) (.held (.int .u8 4))) (.string [46, 109, 111, 100, 117, 108, 101, 46, 99, 115, 115]) (.held (.int .u8 14))) (.string [46, 106, 115, 111, 110]) (.held (.int .u8 11))) (.string [46, 116, 120, 116]) (.held (.int .u8 15)))
def Dflt (w : World) (e : Ending) (w' : World) : Prop := ∃ b, e = .returned (.map (some b)) ∧ w.heap.size ≤ b ∧ Om w' b 13 base ∧ Below w.heap.size w w'
set_option maxRecDepth 100000 in
theorem def18 (w : World) : Calls Tryf.prog 18 #[] w (Dflt w) := by
  have hmk := run_makeMap (P := Tryf.prog) 29
  have o0 : Om (w.alloc (.map #[] 0)) w.heap.size 0 (.map []) := World.ownsMap_made w Tryf.prog 9 Mvs.RV
  have b0 : Below w.heap.size w (w.alloc (.map #[] 0)) := (Below.refl _ _).alloc (Nat.le_refl _) _
  obtain ⟨w1, r1, o1, g1⟩ := upd o0 Tryf.underlying29 (by omega) ⟨#[]⟩ (by decide) (.int .u8 10)
  have b1 : Below w.heap.size w w1 := b0.grown g1 b0.size (fun x hx => by cases hx; exact Nat.le_refl _)
  obtain ⟨w2, r2, o2, g2⟩ := upd o1 Tryf.underlying29 (by omega) ⟨#[46, 106, 115]⟩ (by decide) (.int .u8 10)
  have b2 : Below w.heap.size w w2 := b1.grown g2 b1.size (fun x hx => by cases hx; exact Nat.le_refl _)
  obtain ⟨w3, r3, o3, g3⟩ := upd o2 Tryf.underlying29 (by omega) ⟨#[46, 109, 106, 115]⟩ (by decide) (.int .u8 10)
  have b3 : Below w.heap.size w w3 := b2.grown g3 b2.size (fun x hx => by cases hx; exact Nat.le_refl _)
  obtain ⟨w4, r4, o4, g4⟩ := upd o3 Tryf.underlying29 (by omega) ⟨#[46, 99, 106, 115]⟩ (by decide) (.int .u8 10)
  have b4 : Below w.heap.size w w4 := b3.grown g4 b3.size (fun x hx => by cases hx; exact Nat.le_refl _)
  obtain ⟨w5, r5, o5, g5⟩ := upd o4 Tryf.underlying29 (by omega) ⟨#[46, 106, 115, 120]⟩ (by decide) (.int .u8 13)
  have b5 : Below w.heap.size w w5 := b4.grown g5 b4.size (fun x hx => by cases hx; exact Nat.le_refl _)
  obtain ⟨w6, r6, o6, g6⟩ := upd o5 Tryf.underlying29 (by omega) ⟨#[46, 116, 115]⟩ (by decide) (.int .u8 16)
  have b6 : Below w.heap.size w w6 := b5.grown g6 b5.size (fun x hx => by cases hx; exact Nat.le_refl _)
  obtain ⟨w7, r7, o7, g7⟩ := upd o6 Tryf.underlying29 (by omega) ⟨#[46, 99, 116, 115]⟩ (by decide) (.int .u8 17)
  have b7 : Below w.heap.size w w7 := b6.grown g7 b6.size (fun x hx => by cases hx; exact Nat.le_refl _)
  obtain ⟨w8, r8, o8, g8⟩ := upd o7 Tryf.underlying29 (by omega) ⟨#[46, 109, 116, 115]⟩ (by decide) (.int .u8 17)
  have b8 : Below w.heap.size w w8 := b7.grown g8 b7.size (fun x hx => by cases hx; exact Nat.le_refl _)
  obtain ⟨w9, r9, o9, g9⟩ := upd o8 Tryf.underlying29 (by omega) ⟨#[46, 116, 115, 120]⟩ (by decide) (.int .u8 18)
  have b9 : Below w.heap.size w w9 := b8.grown g9 b8.size (fun x hx => by cases hx; exact Nat.le_refl _)
  obtain ⟨w10, r10, o10, g10⟩ := upd o9 Tryf.underlying29 (by omega) ⟨#[46, 99, 115, 115]⟩ (by decide) (.int .u8 4)
  have b10 : Below w.heap.size w w10 := b9.grown g10 b9.size (fun x hx => by cases hx; exact Nat.le_refl _)
  obtain ⟨w11, r11, o11, g11⟩ := upd o10 Tryf.underlying29 (by omega) ⟨#[46, 109, 111, 100, 117, 108, 101, 46, 99, 115, 115]⟩ (by decide) (.int .u8 14)
  have b11 : Below w.heap.size w w11 := b10.grown g11 b10.size (fun x hx => by cases hx; exact Nat.le_refl _)
  obtain ⟨w12, r12, o12, g12⟩ := upd o11 Tryf.underlying29 (by omega) ⟨#[46, 106, 115, 111, 110]⟩ (by decide) (.int .u8 11)
  have b12 : Below w.heap.size w w12 := b11.grown g12 b11.size (fun x hx => by cases hx; exact Nat.le_refl _)
  obtain ⟨w13, r13, o13, g13⟩ := upd o12 Tryf.underlying29 (by omega) ⟨#[46, 116, 120, 116]⟩ (by decide) (.int .u8 15)
  have b13 : Below w.heap.size w w13 := b12.grown g13 b12.size (fun x hx => by cases hx; exact Nat.le_refl _)
  have HO : Hid (Om w13 w.heap.size 13 base) := Lib.hid o13
  have HB := Lib.hid b13
  clear o0 b0 o1 b1 o2 b2 o3 b3 o4 b4 o5 b5 o6 b6 o7 b7 o8 b8 o9 b9 o10 b10 o11 b11 o12 b12 o13 b13 g1 g2 g3 g4 g5 g6 g7 g8 g9 g10 g11 g12 g13
  go_enter Tryf.func18, Tryf.ntmps18
  go_wp2
  go_ret
  exact ⟨_, rfl, Nat.le_refl _, HO.out, HB.out⟩
def okx (s : ByteArray) : Bool := decide (2 ≤ s.size) && ((bt s 0 == 46) && !(bt s (s.size - 1) == 46))
theorem ext19 (s : ByteArray) (w : World) (hs : s.size ≤ 1048576) : Calls Tryf.prog 19 #[.string s] w fun e w' => e = .returned (.bool (okx s)) ∧ w = w' := by
  have hgb := get_bt s
  unfold okx
  by_cases h : 2 ≤ s.size
  · have z0 : decide ((2 : Int) ≤ s.size) = true := decide_eq_true (by omega)
    have z9 : decide (2 ≤ s.size) = true := decide_eq_true h
    have i0 : 0 < s.size := by omega
    have i1 : s.size - 1 < s.size := by omega
    obtain ⟨l, hl, hl1⟩ : ∃ l : Nat, (s.size : Int) - 1 = (l : Int) ∧ s.size - 1 = l := ⟨s.size - 1, by omega, rfl⟩
    rw [hl1] at i1 ⊢
    rw [z9]
    have HL := Lib.hid hl1
    clear hl1
    cases e0 : (bt s 0 == 46)
    · go_enter Tryf.func19, Tryf.ntmps19
      go_wp2
      go_ret
      exact ⟨rfl, rfl⟩
    · cases e1 : (bt s l == 46)
      · have e2 : (bt s l != 46) = true := by simp [bne, e1]
        go_enter Tryf.func19, Tryf.ntmps19
        go_wp2
        go_ret
        exact ⟨rfl, rfl⟩
      · have e2 : (bt s l != 46) = false := by simp [bne, e1]
        go_enter Tryf.func19, Tryf.ntmps19
        go_wp2
        go_ret
        exact ⟨rfl, rfl⟩
  · have z0 : decide ((2 : Int) ≤ s.size) = false := decide_eq_false (by omega)
    have z9 : decide (2 ≤ s.size) = false := decide_eq_false h
    rw [z9]
    go_enter Tryf.func19, Tryf.ntmps19
    go_wp2
    go_ret
    exact ⟨rfl, rfl⟩
local macro "leaf22" : tactic => `(tactic| (go_enter Tryf.func22, Tryf.ntmps22; go_wp2; go_ret; exact ⟨rfl, rfl⟩))
theorem val22 (z : Int) (h0 : 0 ≤ z) (h1 : z ≤ 16) (w : World) : Calls Tryf.prog 22 #[.int .u16 z] w fun e w' => e = .returned (.int .u8 (vl z)) ∧ w = w' := by
  rcases (show z = 0 ∨ z = 1 ∨ z = 2 ∨ z = 3 ∨ z = 4 ∨ z = 5 ∨ z = 6 ∨ z = 7 ∨ z = 8 ∨ z = 9 ∨ z = 10 ∨ z = 11 ∨ z = 12 ∨ z = 13 ∨ z = 14 ∨ z = 15 ∨ z = 16 by omega) with rfl | rfl | rfl | rfl | rfl | rfl | rfl | rfl | rfl | rfl | rfl | rfl | rfl | rfl | rfl | rfl | rfl <;> leaf22
local macro "leaf7" : tactic => `(tactic| (go_enter Tryf.func7, Tryf.ntmps7; go_wp2; go_ret; exact ⟨rfl, rfl⟩))
theorem mod7 (z : Int) (h0 : 0 ≤ z) (h1 : z ≤ 16) (w : World) : Calls Tryf.prog 7 #[.int .u16 z] w fun e w' => e = .returned (.int .u8 (vl z)) ∧ w = w' := by
  rcases (show z = 0 ∨ z = 1 ∨ z = 2 ∨ z = 3 ∨ z = 4 ∨ z = 5 ∨ z = 6 ∨ z = 7 ∨ z = 8 ∨ z = 9 ∨ z = 10 ∨ z = 11 ∨ z = 12 ∨ z = 13 ∨ z = 14 ∨ z = 15 ∨ z = 16 by omega) with rfl | rfl | rfl | rfl | rfl | rfl | rfl | rfl | rfl | rfl | rfl | rfl | rfl | rfl | rfl | rfl | rfl <;> leaf7
theorem ext8 (s : ByteArray) (w : World) (hs : s.size ≤ 1048576) (hn : 0 < s.size) : Calls Tryf.prog 8 #[.string s] w fun e w' => e = .returned (.bool (okx s)) ∧ w = w' := by
  have hgb := get_bt s
  unfold okx
  have y0 : ((s.size : Int) == 0) = false := by rw [beq_eq_false_iff_ne]; omega
  have i0 : 0 < s.size := hn
  have i1 : s.size - 1 < s.size := by omega
  obtain ⟨l, hl, hl1⟩ : ∃ l : Nat, (s.size : Int) - 1 = (l : Int) ∧ s.size - 1 = l := ⟨s.size - 1, by omega, rfl⟩
  have h2 : decide (2 ≤ s.size) = !(decide (l = 0)) := by
    by_cases h : 2 ≤ s.size
    · rw [decide_eq_true h, decide_eq_false (by omega)]; rfl
    · rw [decide_eq_false h, decide_eq_true (by omega)]; rfl
  rw [hl1] at i1 ⊢
  rw [h2]
  have HL := Lib.hid hl1
  clear hl1 h2
  cases e0 : (bt s 0 == 46)
  · have e3 : (bt s 0 != 46) = true := by simp [bne, e0]
    go_enter Tryf.func8, Tryf.ntmps8
    go_wp2
    go_ret
    exact ⟨by simp, rfl⟩
  · have e3 : (bt s 0 != 46) = false := by simp [bne, e0]
    cases e1 : (bt s l == 46)
    · have e2 : (bt s l != 46) = true := by simp [bne, e1]
      have h0 : decide (l = 0) = false := by
        refine decide_eq_false fun e => ?_
        subst e
        rw [e0] at e1
        cases e1
      rw [h0]
      go_enter Tryf.func8, Tryf.ntmps8
      go_wp2
      go_ret
      exact ⟨rfl, rfl⟩
    · have e2 : (bt s l != 46) = false := by simp [bne, e1]
      go_enter Tryf.func8, Tryf.ntmps8
      go_wp2
      go_ret
      exact ⟨by simp, rfl⟩
def badB (s : ByteArray) : Bool := !s.toList.isEmpty && !okx s
def badL (l : List UInt8) : Bool := badB ⟨l.toArray⟩
theorem badL_eq (s : ByteArray) : badL s.data.toList = badB s := by unfold badL; simp
set_option maxRecDepth 100000 in
theorem loc37 (w : World) : Calls Tryf.prog 37 #[.pointer none, .agg #[.int .i32 0, .int .i32 0]] w (Pg.Giv (.pointer none) w) := by
  go_enter Tryf.func37, Tryf.ntmps37
  go_wp2
  go_ret
  exact ⟨rfl, by go_grown⟩
set_option maxRecDepth 100000 in
theorem dat26 (tx : ByteArray) (w : World) : Calls Tryf.prog 26 #[.pointer none, .agg #[.int .i32 0, .int .i32 0], .string tx] w (Pg.Giv (.agg #[.nilIface, .pointer none, .string tx, .bool false]) w) := by
  go_enter Tryf.func26, Tryf.ntmps26
  go_wp2_with fail
  generalize hW : (w.alloc _).alloc _ = W
  have hb : Below w.heap.size w W := by rw [← hW]; exact ((Below.refl _ _).alloc (Nat.le_refl _) _).alloc (by simp) _
  have ho6 : Own W (w.heap.size + 1) 60 #[.nilIface, .pointer none, .string ⟨#[]⟩, .bool false] := by rw [← hW]; exact Lg.own_at (by simp) _ _
  have HB := Lib.hid hb
  have HO := Lib.hid ho6
  clear hW hb ho6
  refine (loc37 W).mono ?_
  rintro e w1 ⟨rfl, hb1⟩
  have h6 := HO.out.below hb1 HO.out.lt
  have o0 : w1.cell? ⟨w.heap.size + 1, 0, none⟩ = some .nilIface := (h6.cell 0).trans rfl
  have o1 : w1.cell? ⟨w.heap.size + 1, 1, none⟩ = some (.pointer none) := (h6.cell 1).trans rfl
  have o2 : w1.cell? ⟨w.heap.size + 1, 2, none⟩ = some (.string ⟨#[]⟩) := (h6.cell 2).trans rfl
  have o3 : w1.cell? ⟨w.heap.size + 1, 3, none⟩ = some (.bool false) := (h6.cell 3).trans rfl
  have f0 : ∀ j, w1.frozen? ⟨w.heap.size + 1, j, none⟩ = false := h6.frozen
  have H6 := Lib.hid h6
  have HB1 := Lib.hid (HB.out.trans (hb1.mono HB.out.size))
  clear hb1 h6
  go_wp2
  have hO := (((H6.out.set 0 .nilIface).set 1 (.pointer none)).set 2 (.string tx)).set 3 (.bool false)
  have hG := (((HB1.out.setCell (p := ⟨w.heap.size + 1, 0, none⟩) (Nat.le_succ _) .nilIface).setCell (p := ⟨w.heap.size + 1, 1, none⟩) (Nat.le_succ _) (.pointer none)).setCell (p := ⟨w.heap.size + 1, 2, none⟩) (Nat.le_succ _) (.string tx)).setCell (p := ⟨w.heap.size + 1, 3, none⟩) (Nat.le_succ _) (.bool false)
  generalize hV : (((w1.setCell _ _).setCell _ _).setCell _ _).setCell _ _ = V at hO hG ⊢
  have t0 : V.cell? ⟨w.heap.size + 1, 0, none⟩ = some .nilIface := (hO.cell 0).trans rfl
  have t1 : V.cell? ⟨w.heap.size + 1, 1, none⟩ = some (.pointer none) := (hO.cell 1).trans rfl
  have t2 : V.cell? ⟨w.heap.size + 1, 2, none⟩ = some (.string tx) := (hO.cell 2).trans rfl
  have t3 : V.cell? ⟨w.heap.size + 1, 3, none⟩ = some (.bool false) := (hO.cell 3).trans rfl
  exact bodyPost_ret (v := .agg #[.nilIface, .pointer none, .string tx, .bool false]) (by simp [results, Tryf.results26, go_sem, t0, t1, t2, t3]) rfl ⟨rfl, hG⟩
end Go.Proofs.YtobpghjknciobaeFmt.Mp
