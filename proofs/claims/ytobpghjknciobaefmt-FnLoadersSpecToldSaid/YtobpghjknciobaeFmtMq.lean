/-
  Proved: validateLoaders over a given map fills the result and logs one error for each bad key; fmt.Sprintf is told. Conditions: those that each
  theorem names as its hypotheses, and no others.
-/
import Derived.Test.YtobpghjknciobaeFmtMp
import Derived.Stop.CallBack
import Derived.Stop.IfaceNil
import GoSem.ClaimData
import Derived.Deep.DeepCutAuto
namespace Go.Proofs.YtobpghjknciobaeFmt.Mq
open Go.RowKit Go.PlainAid Mem Ho Ml Mp Pg Lg Go.Maps Go.WideMaps Go.WideShapes Go.Extern.Stop Go.Stop Go.Extern
set_option linter.unusedVariables false
set_option linter.unusedSimpArgs false
theorem call21 (args : Array Value) (w : World) : (callFunc 21 args).run Tryf.prog w = ((FmtStop.sprintf #[9, 129] #[9] args).run Tryf.prog w).andThen fun v w' => .ok (.value v) w' :=
  run_callFunc_extern Tryf.func21 (by kernel_rfl) (by kernel_rfl) (by kernel_rfl) (by kernel_rfl) args w
theorem guardF (name : String) (w : World) : (FmtStop.guard name).run Tryf.prog w = .ok () w := by kernel_rfl
theorem fmt0 : FmtStop.printed? ⟨#[73, 110, 118, 97, 108, 105, 100, 32, 102, 105, 108, 101, 32, 101, 120, 116, 101, 110, 115, 105, 111, 110, 58, 32, 37, 113]⟩ 1 = some [(0, 113, false)] := by kernel_rfl
theorem fmt0r (w : World) : (FmtDoors.printed ⟨#[73, 110, 118, 97, 108, 105, 100, 32, 102, 105, 108, 101, 32, 101, 120, 116, 101, 110, 115, 105, 111, 110, 58, 32, 37, 113]⟩ 1).run Tryf.prog w = .ok [(0, 113, false)] w := by kernel_rfl
def shape9 : List UInt8 := [12, 6, 0, 0, 0, 0, 0, 0, 0, 115, 116, 114, 105, 110, 103]
theorem op9 (name : String) (x : ByteArray) (w : World) : (FmtStop.operand name false 113 false (.iface 9 (.string x))).run Tryf.prog w = .ok (shape9, FmtStop.pack x.data.toList) w := by kernel_rfl
def em (tx : ByteArray) : List Value := [.slice none 0 0, .string ⟨#[]⟩, .nilIface, .pointer none, .string tx, .bool false, .int .u8 0, .int .u8 0]
set_option maxRecDepth 100000 in
set_option maxHeartbeats 1000000 in
theorem err20 (tx : ByteArray) (k mu he ms lo n : Nat) (v : Value) (xs : List Value) (w : World) (hL : LogSt w lo k mu he ms v n xs) (hn : n ≤ 1048576) :
    Calls Tryf.prog 20 #[logV k mu he ms, .pointer none, .agg #[.int .i32 0, .int .i32 0], .string tx] w (Added lo k mu he ms n xs (em tx) w) := by
  have HL := Lib.hid hL
  clear hL
  unfold logV
  go_enter Tryf.func20, Tryf.ntmps20
  go_upto_region 1 with fail
  generalize hW : (w.alloc _).alloc _ = W
  have hb : Below w.heap.size w W := by rw [← hW]; exact ((Below.refl _ _).alloc (Nat.le_refl _) _).alloc (by simp) _
  have oL : Own W w.heap.size 44 #[.func (.func 11) #[] #[.pointer (some ⟨k, 0, none⟩), .pointer (some ⟨mu, 0, none⟩), .pointer (some ⟨he, 0, none⟩), .pointer (some ⟨ms, 0, none⟩)], .func (.func 14) #[] #[.pointer (some ⟨mu, 0, none⟩), .pointer (some ⟨he, 0, none⟩)], .func (.func 15) #[] #[.pointer (some ⟨mu, 0, none⟩), .pointer (some ⟨ms, 0, none⟩)], .func (.func 16) #[] #[.pointer (some ⟨mu, 0, none⟩), .pointer (some ⟨ms, 0, none⟩)], .int .i8 3, .map none] := by rw [← hW]; exact (own_at rfl _ _).alloc _
  have oR : Own W (w.heap.size + 1) 70 #[.int .i32 0, .int .i32 0] := by rw [← hW]; exact own_at (by simp) _ _
  have HOL := Lib.hid oL
  have HOR := Lib.hid oR
  have HB := Lib.hid hb
  have HL1 := Lib.hid (HL.out.below hb)
  clear hW hb oL oR
  have hS : ∀ V, Own V w.heap.size 44 #[.func (.func 11) #[] #[.pointer (some ⟨k, 0, none⟩), .pointer (some ⟨mu, 0, none⟩), .pointer (some ⟨he, 0, none⟩), .pointer (some ⟨ms, 0, none⟩)], .func (.func 14) #[] #[.pointer (some ⟨mu, 0, none⟩), .pointer (some ⟨he, 0, none⟩)], .func (.func 15) #[] #[.pointer (some ⟨mu, 0, none⟩), .pointer (some ⟨ms, 0, none⟩)], .func (.func 16) #[] #[.pointer (some ⟨mu, 0, none⟩), .pointer (some ⟨ms, 0, none⟩)], .int .i8 3, .map none] → Own V (w.heap.size + 1) 70 #[.int .i32 0, .int .i32 0] →
      (V.cell? ⟨w.heap.size, 0, none⟩ = some (.func (.func 11) #[] #[.pointer (some ⟨k, 0, none⟩), .pointer (some ⟨mu, 0, none⟩), .pointer (some ⟨he, 0, none⟩), .pointer (some ⟨ms, 0, none⟩)]) ∧ V.cell? ⟨w.heap.size + 1, 0, none⟩ = some (.int .i32 0) ∧ V.cell? ⟨w.heap.size + 1, 1, none⟩ = some (.int .i32 0)) :=
    fun V h1 h2 => ⟨(h1.cell 0).trans rfl, (h2.cell 0).trans rfl, (h2.cell 1).trans rfl⟩
  go_region_held3 (fun V => V.cell? ⟨w.heap.size, 0, none⟩ = some (.func (.func 11) #[] #[.pointer (some ⟨k, 0, none⟩), .pointer (some ⟨mu, 0, none⟩), .pointer (some ⟨he, 0, none⟩), .pointer (some ⟨ms, 0, none⟩)]) ∧ V.cell? ⟨w.heap.size + 1, 0, none⟩ = some (.int .i32 0) ∧ V.cell? ⟨w.heap.size + 1, 1, none⟩ = some (.int .i32 0))
    (first | assumption | exact hS _ HOL.out.drew HOR.out.drew | exact hS _ (HOL.out.drew.below hb3 HOL.out.drew.lt) (HOR.out.drew.below hb3 HOR.out.drew.lt) | exact hS _ (hK4.own _ _ _ (HOL.out.drew.below hb3 HOL.out.drew.lt) (by decide) (by decide) (by decide) (by decide)) (hK4.own _ _ _ (HOR.out.drew.below hb3 HOR.out.drew.lt) (by decide) (by decide) (by decide) (by decide)))
    (first
      | (go_at_call 26; refine (dat26 tx _).mono ?_; rintro e3 w3 ⟨rfl, hb3⟩)
      | (go_at_call 11; refine (add10 none 0 0 ⟨#[]⟩ none tx false 0 0 k mu he ms lo n v xs _ (LogSt.below (LogSt.below HL1.out (below_drewN (Below.refl _ _) 1)) hb3) (by decide) (by decide) hn).mono ?_; rintro e4 w4 ⟨rfl, v4, hL4, hK4⟩))
  go_end0
  have hbd : Below W.heap.size W w3 := ⟨hb3.os, hb3.tape, hb3.output, hb3.size, hb3.block⟩
  exact ⟨rfl, v4, hL4, (Kept.ofBelow (HB.out.trans (hbd.mono HB.out.size)) HL.out.lw).trans hK4⟩
theorem om_same {w w' : World} {b n : Nat} {D : DV} (h : Om w b n D) (hb : w'.heap[b]? = w.heap[b]?) : Om w' b n D := by
  obtain ⟨es, clock, h1, h2⟩ := h
  exact ⟨es, clock, hb.trans h1, h2⟩
theorem om_not {w : World} {b n : Nat} {D : DV} (h : Om w b n D) : ∀ t cs, ¬ Own w b t cs := fun t cs ho => by
  obtain ⟨es, clock, h1, _⟩ := h
  unfold Own at ho
  rw [h1] at ho
  cases ho
theorem rg_same {w w' : World} {b r n : Nat} {D : DV} {left : Lit → Bool} {cnt : Nat} (h : w.ranges Tryf.prog 9 Mvs.RV b r n D left cnt) (hb : w'.heap[b]? = w.heap[b]?) (hr : w'.heap[r]? = w.heap[r]?) : w'.ranges Tryf.prog 9 Mvs.RV b r n D left cnt := by
  obtain ⟨es, clock, since, seen, c0, h1, h2, h3, h4, h5, rest⟩ := h
  exact ⟨es, clock, since, seen, c0, hb.trans h1, h2, h3, h4, hr.trans h5, rest⟩
theorem rg_not {w : World} {b r n : Nat} {D : DV} {left : Lit → Bool} {cnt : Nat} (h : w.ranges Tryf.prog 9 Mvs.RV b r n D left cnt) : ∀ t cs, ¬ Own w r t cs := fun t cs ho => by
  obtain ⟨es, clock, since, seen, c0, h1, h2, h3, h4, h5, rest⟩ := h
  unfold Own at ho
  rw [h5] at ho
  cases ho
theorem own_gr {w w' : World} {q p : Nat} {t : TypeId} {cs : Array Value} (hg : w.grownBy w' (some q)) (hn : ∀ t cs, ¬ Own w q t cs) (ho : Own w p t cs) : Own w' p t cs :=
  (hg.block p ho.lt fun e => hn _ _ (Option.some.inj e ▸ ho)).trans ho
theorem log_gr {w w' : World} {q lo k mu he ms n : Nat} {v : Value} {xs : List Value} (hg : w.grownBy w' (some q)) (hn : ∀ t cs, ¬ Own w q t cs) (h : LogSt w lo k mu he ms v n xs) : LogSt w' lo k mu he ms v n xs :=
  ⟨own_gr hg hn h.okd, own_gr hg hn h.omu, h.ohe.imp fun _ ho => own_gr hg hn ho, own_gr hg hn h.oms, h.row.kept hg (.inr (Ne.symm (row_far rfl hn h.row))), h.lmu, h.lhe, h.lms, Nat.le_trans h.lw hg.size⟩
def GoodIn (D0 : DV) : Prop := ∀ s, has D0 (.string s) = true → s.length ≤ 1048576 ∧ ∃ z : Int, 0 ≤ z ∧ z ≤ 16 ∧ ∀ zd, D0.atKey (.string s) zd = .held (.int .u16 z)
theorem noL_add {xs : List Value} {n : Nat} (h : NoL xs n) (tx : ByteArray) : NoL (xs ++ em tx) (n + 1) := by
  have hl := h.1
  refine ⟨by rw [List.length_append, hl]; simp [em]; omega, fun i hi => ?_⟩
  by_cases e : i = n
  · subst e
    refine ⟨⟨none, 0, 0, ⟨#[]⟩, tx, 0, 0⟩, fun q hq => ?_⟩
    rw [List.getElem?_append_right (by omega), hl, Nat.add_sub_cancel_left]
    rfl
  · obtain ⟨m, hm⟩ := h.2 i (by omega)
    exact ⟨m, fun q hq => by rw [List.getElem?_append_left (by omega)]; exact hm q hq⟩
theorem key_inv {key : Value} {kl : Lit} (h : keyOf Tryf.prog 9 key = some kl) : ∃ s, key = .string s ∧ s.size ≤ maxLen ∧ kl = .string s.data.toList := by
  rw [keyOf_string Tryf.underlying9] at h
  cases key <;> simp [mapKey, Tryf.underlying9] at h
  exact ⟨_, rfl, h.1, h.2.symm⟩
theorem below_of {w w' : World} (g : w.grownBy w' none) : Below w.heap.size w w' := ⟨g.os, g.tape, g.output, g.size, fun p hp => g.block p hp (by simp)⟩
def KP (w w' : World) : Prop := ∀ p t cs, Own w p t cs → t ≠ 56 → t ≠ 4 → t ≠ 49 → t ≠ 63 → Own w' p t cs
def Val (D0 : DV) (b nb lo k mu he ms : Nat) (w : World) (e : Ending) (w' : World) : Prop :=
  ∃ r E m v xs, e = .returned (.map (some r)) ∧ w.heap.size ≤ r ∧ Om w' r 1048576 E ∧ Fin base D0 E badL m ∧ LogSt w' lo k mu he ms v m xs ∧ NoL xs m ∧ m ≤ 1048576 ∧ Below lo w w' ∧ KP w w'
set_option maxRecDepth 100000 in
set_option maxHeartbeats 4000000 in
theorem val10 (F : Go.Stop.Interp) (D0 : DV) (b nb k mu he ms lo : Nat) (w : World) (hF : F.answers w.tape) (hL : LogSt w lo k mu he ms (.slice none 0 0) 0 []) (hM : Om w b nb D0) (hG : GoodIn D0) (hnb : nb ≤ 1000000) :
    Calls Tryf.prog 10 #[logV k mu he ms, .map (some b)] w (Val D0 b nb lo k mu he ms w) := by
  have hbl := hM.lt
  have HF := Lib.hid hF
  have HL := Lib.hid hL
  have HM := Lib.hid hM
  have HG := Lib.hid hG
  clear hF hL hM hG
  unfold logV
  go_enter Tryf.func10, Tryf.ntmps10
  go_upto_region 1 with fail
  generalize hW : w.alloc _ = W
  have hb0 : Below w.heap.size w W := by rw [← hW]; exact (Below.refl _ _).alloc (Nat.le_refl _) _
  have hbx : Own W w.heap.size 44 #[.func (.func 11) #[] #[.pointer (some ⟨k, 0, none⟩), .pointer (some ⟨mu, 0, none⟩), .pointer (some ⟨he, 0, none⟩), .pointer (some ⟨ms, 0, none⟩)], .func (.func 14) #[] #[.pointer (some ⟨mu, 0, none⟩), .pointer (some ⟨he, 0, none⟩)], .func (.func 15) #[] #[.pointer (some ⟨mu, 0, none⟩), .pointer (some ⟨ms, 0, none⟩)], .func (.func 16) #[] #[.pointer (some ⟨mu, 0, none⟩), .pointer (some ⟨ms, 0, none⟩)], .int .i8 3, .map none] := by rw [← hW]; exact Own.new _ _ _
  have hWs : W.heap.size = w.heap.size + 1 := by rw [← hW]; simp
  have HB0 := Lib.hid hb0
  have HBx := Lib.hid hbx
  clear hW hb0 hbx
  go_wp2_with fail
  refine (def18 W).mono ?_
  rintro e w2 ⟨r, rfl, hr, hO, hb2⟩
  have hB2 : Below w.heap.size w w2 := HB0.out.trans (hb2.mono HB0.out.size)
  have hM2 : Om w2 b nb D0 := om_same HM.out (hB2.block b hbl)
  obtain ⟨w3, r1, hrg, g3, z3⟩ := hM2.range lawK Tryf.underlying27
  have hb3 := below_of g3
  have hbr : b < r := by omega
  have hri : r < w2.heap.size := hO.lt
  obtain ⟨it, hit⟩ : ∃ it, w2.heap.size = it := ⟨_, rfl⟩
  rw [hit] at r1 hrg hri
  have hB3 : Below w.heap.size w w3 := hB2.trans (hb3.mono hB2.size)
  have HR := Lib.hid hrg
  have HO3 := Lib.hid ((om_same hO (hb3.block r (by omega))).mono (n' := 13 + 0) (Nat.le_refl _))
  have HL3 := Lib.hid (HL.out.below hB3)
  have HBx3 := Lib.hid ((HBx.out.below hb2 HBx.out.lt).below hb3 (HBx.out.below hb2 HBx.out.lt).lt)
  have HB3 := Lib.hid (hB3.mono HL.out.lw)
  have HK3 : Hid (KP w w3) := Lib.hid fun p t cs ho _ _ _ _ => ho.below hB3 ho.lt
  have hsz := hM2.size_le
  have HI := Lib.hid (Inv.start base D0 badL)
  have HN : Hid (NoL [] (size (.map [] : DV))) := Lib.hid ⟨rfl, fun i hi => absurd hi (by show ¬ i < 0; omega)⟩
  have hr0 : w.heap.size ≤ r := by omega
  clear hb2 hB2 hM2 hrg g3 z3 hb3 hB3 hO hr hWs
  obtain ⟨bx, hbxe⟩ : ∃ bx, w.heap.size = bx := ⟨_, rfl⟩
  rw [hbxe] at HBx3 ⊢
  go_wp2_with fail
  clear r1
  go_loopw [6] (fun x wr => ∃ (E X G : DV) (left : Lit → Bool) (cnt q : Nat) (v : Value) (xs : List Value), q + cnt ≤ nb ∧ Hid (wr.ranges Tryf.prog 9 Mvs.RV b it nb D0 left cnt) ∧ Hid (Om wr r (13 + q) E) ∧ Hid (Inv base D0 E X G badL left) ∧
      Hid (LogSt wr lo k mu he ms v (size G) xs) ∧ Hid (NoL xs (size G)) ∧ Hid (size G ≤ q) ∧ Hid (Own wr bx 44 #[.func (.func 11) #[] #[.pointer (some ⟨k, 0, none⟩), .pointer (some ⟨mu, 0, none⟩), .pointer (some ⟨he, 0, none⟩), .pointer (some ⟨ms, 0, none⟩)], .func (.func 14) #[] #[.pointer (some ⟨mu, 0, none⟩), .pointer (some ⟨he, 0, none⟩)], .func (.func 15) #[] #[.pointer (some ⟨mu, 0, none⟩), .pointer (some ⟨ms, 0, none⟩)], .func (.func 16) #[] #[.pointer (some ⟨mu, 0, none⟩), .pointer (some ⟨ms, 0, none⟩)], .int .i8 3, .map none]) ∧ Hid (Below lo w wr) ∧ Hid (KP w wr)) (fun _ wr => wr.rangeLeft b it)
  case atStart => exact ⟨_, _, _, _, _, 0, _, _, by omega, HR, HO3, HI, HL3, HN, Lib.hid (Nat.le_refl 0), HBx3, HB3, HK3⟩
  case round =>
    clear HR HO3 HI HL3 HN HBx3 HB3 HK3
    obtain ⟨E, X, G, left, cnt, q, v, xs, hq, HR, HO, HI, HLg, HN, HQ, HBx, HB, HK⟩ := hrel
    obtain ⟨wo, rfl⟩ : ∃ wo : World, wo = wr := ⟨_, rfl⟩
    have hm0 := HR.out.left_eq
    rcases HR.out.next lawK 0 with ⟨h0, hl, hrun⟩ | ⟨key, v', kl, y, w4, cnt', hkey, hlk, hv, hat, hrun, hrg, hlt, hgr, hsz4, hen⟩
    · have HFin := Lib.hid (HI.out.fin hl rfl)
      clear hl hm0
      go_wp2
      go_ret
      exact ⟨r, E, _, v, xs, rfl, hr0, HO.out.mono (by omega), HFin.out, HLg.out, HN.out, by have := HQ.out; omega, HB.out, HK.out⟩
    · obtain ⟨s, rfl, hs, rfl⟩ := key_inv hkey
      simp only [Mvs.RV, Option.some.injEq] at hv
      subst hv
      simp only [] at hat
      obtain ⟨hlen, z, z0, z1, hz⟩ := HG.out _ (has_true_of_atKey hat)
      have hvz := (hat .nil).symm.trans (hz .nil)
      simp only [DataW.held.injEq] at hvz
      subst hvz
      have hss : s.size ≤ 1048576 := by
        rw [Array.length_toList] at hlen
        exact hlen
      have hno := rg_not HR.out
      have hiB : b < w4.heap.size := hrg.owns.lt
      have O4 := HO.out.kept hgr (by simp; omega)
      obtain ⟨X', G', hI', hGs⟩ := HI.out.step (HO.out.tidy lawK) hlk hz
      have HL4 := Lib.hid (log_gr hgr hno HLg.out)
      have HBx4 := Lib.hid (own_gr hgr hno HBx.out)
      have HB4 : Hid (Below lo w w4) := Lib.hid (HB.out.trans ⟨hgr.os, hgr.tape, hgr.output, hgr.size, fun p hp => hgr.block p (Nat.lt_of_lt_of_le hp (Nat.le_trans HL.out.lw HB.out.size)) (fun e => by have := HL.out.lw; injection e with e; omega)⟩)
      have HK4 : Hid (KP w w4) := Lib.hid fun p t cs ho h1 h2 h3 h4 => own_gr hgr hno (HK.out p t cs ho h1 h2 h3 h4)
      have HI' := Lib.hid hI'
      have HO4 := Lib.hid O4
      have HRg := Lib.hid hrg
      have HQ' := HQ
      rw [badL_eq] at hGs
      cases hbad : badB s
      · rw [hbad] at hGs
        have hG1 : size G' = size G := by simpa using hGs
        obtain ⟨w6, ru, o6, g6⟩ := upd O4 Tryf.underlying29 (by omega) s hs (.int .u8 (vl z))
        have hno6 := om_not O4
        have HR6 := Lib.hid (hrg.kept g6 (by simp; omega) (by simp; omega))
        have hm1 := HR6.out.left_eq
        have HL6 : Hid (LogSt w6 lo k mu he ms v (size G') xs) := Lib.hid (by rw [hG1]; exact log_gr g6 hno6 HL4.out)
        have HN6 : Hid (NoL xs (size G')) := Lib.hid (by rw [hG1]; exact HN.out)
        have HQ6 : Hid (size G' ≤ q + 1) := Lib.hid (by rw [hG1]; have := HQ.out; omega)
        have HBx6 := Lib.hid (own_gr g6 hno6 HBx4.out)
        have HB6 : Hid (Below lo w w6) := Lib.hid (HB4.out.trans ⟨g6.os, g6.tape, g6.output, g6.size, fun p hp => g6.block p (Nat.lt_of_lt_of_le hp (Nat.le_trans HL.out.lw HB4.out.size)) (fun e => by have := HL.out.lw; injection e with e; omega)⟩)
        have HK6 : Hid (KP w w6) := Lib.hid fun p t cs ho h1 h2 h3 h4 => own_gr g6 hno6 (HK4.out p t cs ho h1 h2 h3 h4)
        have HO6 := Lib.hid o6
        have HBad := Lib.hid hbad
        clear hrg O4 o6 g6 hno6 hno hgr hI' hGs hG1 hat hz hlk hkey hlen hsz4 HR HO HI HLg HN HQ HBx HB HK HL4 HBx4 HB4 HK4 HRg HO4 hbad
        cases e0 : s.toList.isEmpty
        · have hok : okx s = true := by
            have h := HBad.out
            unfold badB at h
            rw [e0] at h
            simpa using h
          go_wp2_with (first | (go_at_call 19; refine (ext19 s _ hss).mono ?_; rintro e w5 ⟨rfl, rfl⟩) | (go_at_call 22; refine (val22 z z0 z1 _).mono ?_; rintro e w5 ⟨rfl, rfl⟩))
          go_roundw
          case rel => exact ⟨_, X', G', _, cnt', q + 1, v, xs, by omega, HR6, HO6, HI', HL6, HN6, HQ6, HBx6, HB6, HK6⟩
          case measure => rw [hm0, hm1]; exact hlt
        · go_wp2_with (go_at_call 22; refine (val22 z z0 z1 _).mono ?_; rintro e w5 ⟨rfl, rfl⟩)
          go_roundw
          case rel => exact ⟨_, X', G', _, cnt', q + 1, v, xs, by omega, HR6, HO6, HI', HL6, HN6, HQ6, HBx6, HB6, HK6⟩
          case measure => rw [hm0, hm1]; exact hlt
      · rw [hbad] at hGs
        have hG1 : size G' = size G + 1 := by simpa using hGs
        have e0 : s.toList.isEmpty = false := by
          have h := hbad
          unfold badB at h
          cases h2 : s.toList.isEmpty
          · rfl
          · rw [h2] at h; cases h
        have hok : okx s = false := by
          have h := hbad
          unfold badB at h
          rw [e0] at h
          simpa using h
        have HF4 : Hid (F.answers w4.tape) := Lib.hid (by rw [HB4.out.tape]; exact HF.out)
        have HG1 := Lib.hid hG1
        have HBad := Lib.hid hbad
        have HIn := Lib.hid hiB
        clear hrg O4 hno hgr hI' hGs hG1 hat hz hlk hkey hlen hsz4 HR HO HI HLg HBx HB HK hbad hiB
        go_upto_region 6 with (go_at_call 19; refine (ext19 s _ hss).mono ?_; rintro e w5 ⟨rfl, rfl⟩)
        clear e0 hok hen hrun
        have hS : ∀ V, Own V bx 44 #[.func (.func 11) #[] #[.pointer (some ⟨k, 0, none⟩), .pointer (some ⟨mu, 0, none⟩), .pointer (some ⟨he, 0, none⟩), .pointer (some ⟨ms, 0, none⟩)], .func (.func 14) #[] #[.pointer (some ⟨mu, 0, none⟩), .pointer (some ⟨he, 0, none⟩)], .func (.func 15) #[] #[.pointer (some ⟨mu, 0, none⟩), .pointer (some ⟨ms, 0, none⟩)], .func (.func 16) #[] #[.pointer (some ⟨mu, 0, none⟩), .pointer (some ⟨ms, 0, none⟩)], .int .i8 3, .map none] → (V.cell? ⟨bx, 0, none⟩ = some (.func (.func 11) #[] #[.pointer (some ⟨k, 0, none⟩), .pointer (some ⟨mu, 0, none⟩), .pointer (some ⟨he, 0, none⟩), .pointer (some ⟨ms, 0, none⟩)]) ∧ V.cell? ⟨bx, 1, none⟩ = some (.func (.func 14) #[] #[.pointer (some ⟨mu, 0, none⟩), .pointer (some ⟨he, 0, none⟩)]) ∧ V.cell? ⟨bx, 2, none⟩ = some (.func (.func 15) #[] #[.pointer (some ⟨mu, 0, none⟩), .pointer (some ⟨ms, 0, none⟩)]) ∧ V.cell? ⟨bx, 3, none⟩ = some (.func (.func 16) #[] #[.pointer (some ⟨mu, 0, none⟩), .pointer (some ⟨ms, 0, none⟩)]) ∧ V.cell? ⟨bx, 4, none⟩ = some (.int .i8 3) ∧ V.cell? ⟨bx, 5, none⟩ = some (.map none)) :=
          fun V h1 => ⟨(h1.cell 0).trans rfl, (h1.cell 1).trans rfl, (h1.cell 2).trans rfl, (h1.cell 3).trans rfl, (h1.cell 4).trans rfl, (h1.cell 5).trans rfl⟩
        have hF' := answers_open HF4.out
        have hc19 := call21
        have hgf := guardF
        have hf0 := fmt0r
        have hf1 := fmt0
        have ho9 := op9
        go_region_held3 (fun V => V.cell? ⟨bx, 0, none⟩ = some (.func (.func 11) #[] #[.pointer (some ⟨k, 0, none⟩), .pointer (some ⟨mu, 0, none⟩), .pointer (some ⟨he, 0, none⟩), .pointer (some ⟨ms, 0, none⟩)]) ∧ V.cell? ⟨bx, 1, none⟩ = some (.func (.func 14) #[] #[.pointer (some ⟨mu, 0, none⟩), .pointer (some ⟨he, 0, none⟩)]) ∧ V.cell? ⟨bx, 2, none⟩ = some (.func (.func 15) #[] #[.pointer (some ⟨mu, 0, none⟩), .pointer (some ⟨ms, 0, none⟩)]) ∧ V.cell? ⟨bx, 3, none⟩ = some (.func (.func 16) #[] #[.pointer (some ⟨mu, 0, none⟩), .pointer (some ⟨ms, 0, none⟩)]) ∧ V.cell? ⟨bx, 4, none⟩ = some (.int .i8 3) ∧ V.cell? ⟨bx, 5, none⟩ = some (.map none))
          (first | assumption | exact hS _ HBx4.out.drew | exact hS _ (HBx4.out.alloc _).drew | exact hS _ (HBx4.out.alloc _).drew.drew | exact hS _ (hK5.own _ _ _ (HBx4.out.alloc _).drew.drew (by decide) (by decide) (by decide) (by decide)))
          ((go_at_call 20; refine (err20 _ k mu he ms lo (size G) v xs _ (LogSt.below HL4.out ((Below.refl _ _).alloc (Nat.le_refl _) _).drew.drew) (by have := HQ'.out; omega)).mono ?_; rintro e5 w5 ⟨rfl, v5, hL5, hK5⟩))
        obtain ⟨tx, hL5⟩ : ∃ tx, LogSt w5 lo k mu he ms v5 (size G + 1) (xs ++ em tx) := ⟨_, hL5⟩
        have hb45 : Below w4.heap.size w4 (w4.alloc (.cells #[.iface 9 (.string s)] 20)).drew.drew := ((Below.refl _ _).alloc (Nat.le_refl _) _).drew.drew
        have hp5 : ∀ p, p < w4.heap.size → (∀ t cs, ¬ Own w4 p t cs) → w5.heap[p]? = w4.heap[p]? := fun p hp hn => by
          have e1 := hb45.block p hp
          refine (hK5.heap p (Nat.lt_of_lt_of_le hp hb45.size) fun t cs ho => ?_).trans e1
          unfold Own at ho
          rw [e1] at ho
          exact hn _ _ ho
        have O5 := om_same HO4.out (hp5 r HO4.out.lt (om_not HO4.out))
        obtain ⟨w6, ru, o6, g6⟩ := upd O5 Tryf.underlying29 (by omega) s hs (.int .u8 (vl z))
        have hno6 := om_not O5
        have HR5 := rg_same HRg.out (hp5 b HIn.out (om_not HRg.out.owns)) (hp5 it HRg.out.lt (rg_not HRg.out))
        have HR6 := Lib.hid (HR5.kept g6 (by simp; omega) (by simp; omega))
        have hm1 := HR6.out.left_eq
        have HL6 : Hid (LogSt w6 lo k mu he ms v5 (size G') (xs ++ em tx)) := Lib.hid (by rw [HG1.out]; exact log_gr g6 hno6 hL5)
        have HN6 : Hid (NoL (xs ++ em tx) (size G')) := Lib.hid (by rw [HG1.out]; exact noL_add HN.out _)
        have HQ6 : Hid (size G' ≤ q + 1) := Lib.hid (by rw [HG1.out]; have := HQ.out; omega)
        have HBx6 := Lib.hid (own_gr g6 hno6 (hK5.own _ _ _ (HBx4.out.alloc _).drew.drew (by decide) (by decide) (by decide) (by decide)))
        have HB5 : Below lo w w5 := HB4.out.trans ((hb45.mono (Nat.le_trans HL.out.lw HB4.out.size)).trans hK5.below)
        have HB6 : Hid (Below lo w w6) := Lib.hid (HB5.trans ⟨g6.os, g6.tape, g6.output, g6.size, fun p hp => g6.block p (Nat.lt_of_lt_of_le hp (Nat.le_trans HL.out.lw HB5.size)) (fun e => by have := HL.out.lw; injection e with e; omega)⟩)
        have HK6 : Hid (KP w w6) := Lib.hid fun p t cs ho h1 h2 h3 h4 => own_gr g6 hno6 (hK5.own p t cs ((HK4.out p t cs ho h1 h2 h3 h4).alloc _).drew.drew h1 h2 h3 h4)
        have HO6 := Lib.hid o6
        clear O5 HR5 hL5 hK5 hp5 hb45 HB5 g6 o6 hno6 hS hF' hc19 hgf hf0 hf1 ho9
        go_wp2_with (go_at_call 22; refine (val22 z z0 z1 _).mono ?_; rintro e w7 ⟨rfl, rfl⟩)
        go_roundw
        case rel => exact ⟨_, X', G', _, cnt', q + 1, v5, _, by omega, HR6, HO6, HI', HL6, HN6, HQ6, HBx6, HB6, HK6⟩
        case measure => rw [hm0, hm1]; exact hlt
end Go.Proofs.YtobpghjknciobaeFmt.Mq
