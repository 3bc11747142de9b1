/-
  Proved: the logger of a call's own: what NewDeferLog and its closure that adds a message leave of the logger's state. Conditions: those that each
  theorem names as its hypotheses, and no others.
-/
import Derived.Test.YtcljenkgbbbfpaaDoorRows
import Derived.Test.YtcljenkgbbbfpaaDoorMem
import Derived.Test.YtcljenkgbbbfpaaDoorHo
import Derived.Test.YtcljenkgbbbfpaaDoorLocks
import Derived.Conc.MuLone
import Derived.WalkKit
import Derived.WalkSpells
import Derived.Handy
import Derived.Lib.Hide
import Derived.PlainAid
import Derived.Laws.EntriesVeiled
import Derived.Deep.RegionHeld3
import Derived.Deep.CutRange
import Derived.Deep.QuietTactic
namespace Go.Proofs.YtcljenkgbbbfpaaDoor.Lg
open Go.RowKit Go.PlainAid Mem Ho Go.MuLone Locks
set_option linter.unusedVariables false
set_option linter.unusedSimpArgs false

theorem own_ne {W : World} {p q : Nat} {t t' : TypeId} {cs cs' : Array Value} (h : Own W p t cs) (k : Own W q t' cs') (ht : t ≠ t') : p ≠ q := fun e => by
  subst e
  unfold Own at h k
  rw [h] at k
  injection k with k
  injection k with _ k
  exact ht k
theorem grown_set (W : World) (p i : Nat) (u : Value) : W.grownBy (W.setCell ⟨p, i, none⟩ u) (some p) :=
  have h : Below 0 W (W.setCell ⟨p, i, none⟩ u) := (Below.refl 0 W).setCell (Nat.zero_le _) u
  ⟨h.os, h.tape, h.output, h.size, fun k _ hk => Below.heap_setCell W _ u k (fun e => hk (by rw [e]))⟩
theorem row_set {W : World} {lo sz n p : Nat} {e t : TypeId} {v : Value} {xs : List Value} {cs : Array Value} (h : W.ownsRow lo e sz v n xs) (ho : Own W p t cs) (ht : t ≠ e) (i : Nat) (u : Value) : (W.setCell ⟨p, i, none⟩ u).ownsRow lo e sz v n xs :=
  h.kept (grown_set W p i u) (.inr fun he => ne_row h ho ht he.symm)
theorem row_alloc {W : World} {lo sz n : Nat} {e : TypeId} {v : Value} {xs : List Value} (h : W.ownsRow lo e sz v n xs) (o : Obj) : (W.alloc o).ownsRow lo e sz v n xs :=
  row_below (B := 0) h ((Below.refl _ _).alloc (Nat.le_refl _) o)

/-- The logger's memory: its kind, its lock, its mark, its messages. -/
structure LogSt (W : World) (lo k mu he ms : Nat) (v : Value) (n : Nat) (xs : List Value) : Prop where
  okd : Own W k 113 #[.int .u8 1]
  omu : Own W mu 134 #[.int .i32 0, .int .u32 0]
  ohe : ∃ b, Own W he 4 #[.bool b]
  oms : Own W ms 128 #[v]
  row : W.ownsRow lo 136 8 v n xs
  lmu : lo ≤ mu
  lhe : lo ≤ he
  lms : lo ≤ ms
  lw : lo ≤ W.heap.size
/-- What a step of the logger leaves. -/
structure Kept (lo : Nat) (w w' : World) : Prop where
  below : Below lo w w'
  own : ∀ p t cs, Own w p t cs → t ≠ 134 → t ≠ 4 → t ≠ 128 → t ≠ 136 → Own w' p t cs
theorem LogSt.below {W W1 : World} {lo k mu he ms n : Nat} {v : Value} {xs : List Value} (h : LogSt W lo k mu he ms v n xs) (hb : Below W.heap.size W W1) : LogSt W1 lo k mu he ms v n xs :=
  ⟨h.okd.below hb h.okd.lt, h.omu.below hb h.omu.lt, h.ohe.imp fun _ ho => ho.below hb ho.lt, h.oms.below hb h.oms.lt, row_below (B := 0) h.row hb, h.lmu, h.lhe, h.lms, Nat.le_trans h.lw hb.size⟩
theorem Kept.ofBelow {lo : Nat} {W W1 : World} (h : Below W.heap.size W W1) (hl : lo ≤ W.heap.size) : Kept lo W W1 := ⟨h.mono hl, fun p t cs ho _ _ _ _ => ho.below h ho.lt⟩
theorem Kept.trans {lo : Nat} {a b c : World} (h : Kept lo a b) (k : Kept lo b c) : Kept lo a c := ⟨h.below.trans k.below, fun p t cs ho h1 h2 h3 h4 => k.own p t cs (h.own p t cs ho h1 h2 h3 h4) h1 h2 h3 h4⟩

def logV (k mu he ms : Nat) : Value := .agg #[.func (.func 78) #[] #[.pointer (some ⟨k, 0, none⟩), .pointer (some ⟨mu, 0, none⟩), .pointer (some ⟨he, 0, none⟩), .pointer (some ⟨ms, 0, none⟩)], .func (.func 81) #[] #[.pointer (some ⟨mu, 0, none⟩), .pointer (some ⟨he, 0, none⟩)], .func (.func 82) #[] #[.pointer (some ⟨mu, 0, none⟩), .pointer (some ⟨ms, 0, none⟩)], .func (.func 83) #[] #[.pointer (some ⟨mu, 0, none⟩), .pointer (some ⟨ms, 0, none⟩)], .int .i8 3, .map none]
def Newed (w : World) (e : Ending) (w' : World) : Prop := ∃ k mu he ms, e = .returned (logV k mu he ms) ∧ LogSt w' w.heap.size k mu he ms (.slice none 0 0) 0 [] ∧ Below w.heap.size w w'
theorem own_at {W : World} {n : Nat} (h : W.heap.size = n) (t : TypeId) (cs : Array Value) : Own (W.alloc (.cells cs t)) n t cs := by subst h; exact Own.new W t cs
theorem new7 (w : World) : Calls Tryd.prog 58 #[.int .u8 1, .map none] w (Newed w) := by
  go_enter Tryd.func58, Tryd.ntmps58
  go_wp2
  go_returns
  refine ⟨_, _, _, _, rfl, ⟨?_, ?_, ?_, ?_, ?_, ?_, ?_, ?_, ?_⟩, by go_grown⟩
  · exact ((((own_at rfl _ _).alloc _).alloc _).alloc _).alloc _
  · exact (own_at (by simp) _ _).alloc _
  · exact ⟨_, own_at (by simp) _ _⟩
  · exact ((own_at (by simp) _ _).alloc _).alloc _
  · exact World.ownsRow_nil _ _ _ _
  · omega
  · omega
  · omega
  · simp; omega
theorem infoMsg : (Tryd.prog.info? 136).map (fun i => (i.zero, i.size, i.bytes)) = some (some (.agg #[.slice none 0 0, .string ⟨#[]⟩, .nilIface, .pointer none, .string ⟨#[]⟩, .bool false, .int .u8 0, .int .u8 0]), 8, 96) := by kernel_rfl
theorem row_form {W : World} {lo sz n : Nat} {e : TypeId} {v : Value} {xs : List Value} (h : W.ownsRow lo e sz v n xs) : ∃ A c, v = .slice A n c := by
  rcases h.2 with ⟨rfl, rfl⟩ | ⟨g, cap, cur, rfl, _⟩
  · exact ⟨_, _, rfl⟩
  · exact ⟨_, _, rfl⟩
def Added (lo k mu he ms n : Nat) (xs msg : List Value) (w : World) (e : Ending) (w' : World) : Prop := e = .returned (.tuple #[]) ∧ ∃ v', LogSt w' lo k mu he ms v' (n + 1) (xs ++ msg) ∧ Kept lo w w'
structure Mid (w W : World) (lo k mu he ms : Nat) (v : Value) (n : Nat) (xs : List Value) (msg : Array Value) : Prop where
  okd : Own W k 113 #[.int .u8 1]
  omu : Own W mu 134 #[.int .i32 1, .int .u32 0]
  ohe : ∃ b, Own W he 4 #[.bool b]
  oms : Own W ms 128 #[v]
  row : W.ownsRow lo 136 8 v n xs
  msg : Own W w.heap.size 136 msg
  below : Below lo w W
  own : ∀ p t cs, Own w p t cs → t ≠ 134 → t ≠ 4 → t ≠ 128 → t ≠ 136 → Own W p t cs
set_option maxRecDepth 100000 in
set_option maxHeartbeats 1000000 in
theorem add10 (nA : Option Addr) (nn nc : Nat) (pl : ByteArray) (lc : Option Addr) (tx : ByteArray) (dm : Bool) (kd id : Int) (k mu he ms lo n : Nat) (v : Value) (xs : List Value) (w : World) (hL : LogSt w lo k mu he ms v n xs) (h4 : (kd == 4) = false) (h5 : (kd == 5) = false) (hn : n ≤ 1048576) :
    Calls Tryd.prog 78 #[.agg #[.slice nA nn nc, .string pl, .nilIface, .pointer lc, .string tx, .bool dm, .int .u8 kd, .int .u8 id], .pointer (some ⟨k, 0, none⟩), .pointer (some ⟨mu, 0, none⟩), .pointer (some ⟨he, 0, none⟩), .pointer (some ⟨ms, 0, none⟩)] w (Added lo k mu he ms n xs [.slice nA nn nc, .string pl, .nilIface, .pointer lc, .string tx, .bool dm, .int .u8 kd, .int .u8 id] w) := by
  have HL := Lib.hid hL
  clear hL
  obtain ⟨im, him, hzm, hsm, hbm⟩ := info_parts infoMsg
  go_enter_defers Tryd.func78, Tryd.ntmps78
  go_upto_region 1 with fail
  generalize hW1 : w.alloc _ = W1
  have hb1 : Below w.heap.size w W1 := by rw [← hW1]; exact (Below.refl _ _).alloc (Nat.le_refl _) _
  have hm1 : Own W1 w.heap.size 136 #[.slice nA nn nc, .string pl, .nilIface, .pointer lc, .string tx, .bool dm, .int .u8 kd, .int .u8 id] := by rw [← hW1]; exact Own.new _ _ _
  have HL1 := Lib.hid (HL.out.below hb1)
  have HK1 := Lib.hid (Kept.ofBelow hb1 HL.out.lw)
  have HM1 := Lib.hid hm1
  have u0 : W1.cell? ⟨k, 0, none⟩ = some (.int .u8 1) := (HL1.out.okd.cell 0).trans rfl
  have u1 : W1.cell? ⟨w.heap.size, 0, none⟩ = some (.slice nA nn nc) := (hm1.cell 0).trans rfl
  have u2 : W1.cell? ⟨w.heap.size, 6, none⟩ = some (.int .u8 kd) := (hm1.cell 6).trans rfl
  clear hb1 hm1 hW1
  go_wp2_with fail
  refine (lock_free muLib ⟨mu, 0, none⟩ W1 ((HL1.out.omu.cell 0).trans rfl) (HL1.out.omu.frozen 0)).mono ?_
  rintro e w2 ⟨rfl, rfl⟩
  have HX2 : Hid (Mid w (W1.setCell ⟨mu, 0, none⟩ (.int .i32 1)) lo k mu he ms v n xs #[.slice nA nn nc, .string pl, .nilIface, .pointer lc, .string tx, .bool dm, .int .u8 kd, .int .u8 id]) := Lib.hid (by
    have h := HL1.out
    have ne : ∀ {p t cs}, Own W1 p t cs → t ≠ 134 → p ≠ mu := fun ho ht => own_ne ho h.omu ht
    obtain ⟨b, hhe⟩ := h.ohe
    exact ⟨h.okd.far (ne h.okd (by decide)) _, h.omu.set 0 _, ⟨b, hhe.far (ne hhe (by decide)) _⟩, h.oms.far (ne h.oms (by decide)) _, row_set h.row h.omu (by decide) _ _, HM1.out.far (ne HM1.out (by decide)) _, HK1.out.below.setCell h.lmu _,
      fun p t cs ho h1 h2 h3 h4 => (HK1.out.own p t cs ho h1 h2 h3 h4).far (ne (HK1.out.own p t cs ho h1 h2 h3 h4) h1) _⟩)
  have hlmu := HL.out.lmu
  have hlhe := HL.out.lhe
  have hlms := HL.out.lms
  have hlw := HL.out.lw
  generalize hW2 : W1.setCell _ _ = W2 at *
  clear hW2 HL1 HK1 HM1 u0 u1 u2 HL h4 h5
  have u2 : W2.cell? ⟨w.heap.size, 6, none⟩ = some (.int .u8 kd) := (HX2.out.msg.cell 6).trans rfl
  obtain ⟨b, hhe⟩ := HX2.out.ohe
  have u3 : W2.cell? ⟨he, 0, none⟩ = some (.bool b) := (hhe.cell 0).trans rfl
  have f3 : W2.frozen? ⟨he, 0, none⟩ = false := hhe.frozen 0
  have HHE := Lib.hid hhe
  clear hhe
  cases hk0 : (kd == 0)
  focus
    go_upto_region 6 with fail
    have HX3 := HX2
    clear HX2 HHE u2 u3 f3
    generalize W2 = W3 at *
  rotate_left
  focus
    go_upto_region 6 with fail
    have HX3 : Hid (Mid w (W2.setCell ⟨he, 0, none⟩ (.bool true)) lo k mu he ms v n xs #[.slice nA nn nc, .string pl, .nilIface, .pointer lc, .string tx, .bool dm, .int .u8 kd, .int .u8 id]) := Lib.hid (by
      have h := HX2.out
      have ne : ∀ {p t cs}, Own W2 p t cs → t ≠ 4 → p ≠ he := fun ho ht => own_ne ho HHE.out ht
      exact ⟨h.okd.far (ne h.okd (by decide)) _, h.omu.far (ne h.omu (by decide)) _, ⟨_, HHE.out.set 0 _⟩, h.oms.far (ne h.oms (by decide)) _, row_set h.row HHE.out (by decide) _ _, h.msg.far (ne h.msg (by decide)) _, h.below.setCell hlhe _,
        fun p t cs ho h1 h2 h3 h4 => (h.own p t cs ho h1 h2 h3 h4).far (ne (h.own p t cs ho h1 h2 h3 h4) h2) _⟩)
    clear HX2 HHE u2 u3 f3
    generalize W2.setCell _ _ = W3 at *
  all_goals
    obtain ⟨A, c, rfl⟩ := row_form HX3.out.row
    have hrow := Lib.hid HX3.out.row
    have v0 : W3.cell? ⟨ms, 0, none⟩ = some (.slice A n c) := (HX3.out.oms.cell 0).trans rfl
    have m0 : W3.cell? ⟨w.heap.size, 0, none⟩ = some (.slice nA nn nc) := (HX3.out.msg.cell 0).trans rfl
    have m1 : W3.cell? ⟨w.heap.size, 1, none⟩ = some (.string pl) := (HX3.out.msg.cell 1).trans rfl
    have m2 : W3.cell? ⟨w.heap.size, 2, none⟩ = some .nilIface := (HX3.out.msg.cell 2).trans rfl
    have m3 : W3.cell? ⟨w.heap.size, 3, none⟩ = some (.pointer lc) := (HX3.out.msg.cell 3).trans rfl
    have m4 : W3.cell? ⟨w.heap.size, 4, none⟩ = some (.string tx) := (HX3.out.msg.cell 4).trans rfl
    have m5 : W3.cell? ⟨w.heap.size, 5, none⟩ = some (.bool dm) := (HX3.out.msg.cell 5).trans rfl
    have m6 : W3.cell? ⟨w.heap.size, 6, none⟩ = some (.int .u8 kd) := (HX3.out.msg.cell 6).trans rfl
    have m7 : W3.cell? ⟨w.heap.size, 7, none⟩ = some (.int .u8 id) := (HX3.out.msg.cell 7).trans rfl
    obtain ⟨v4, W4, ra, hA⟩ := Hold.app (P := Tryd.prog) (cs := #[.slice nA nn nc, .string pl, .nilIface, .pointer lc, .string tx, .bool dm, .int .u8 kd, .int .u8 id]) 128 128 im (.agg #[.slice none 0 0, .string ⟨#[]⟩, .nilIface, .pointer none, .string ⟨#[]⟩, .bool false, .int .u8 0, .int .u8 0]) 96 Tryd.underlying128 him hzm hsm hbm rfl (by decide) (by unfold maxLen; omega) (by omega) ((Hold.start hrow.out (Nat.le_trans hlw HX3.out.below.size)).alloc _) rfl (by simp [Value.oneCell'])
    obtain ⟨A4, c4, hv4⟩ := row_form hA.row
    subst hv4
    have HA := Lib.hid hA
    have o4 : Own W4 ms 128 #[.slice A n c] := hA.own (HX3.out.oms.alloc _) (by decide)
    have x4 : W4.cell? ⟨ms, 0, none⟩ = some (.slice A n c) := (o4.cell 0).trans rfl
    have f4 : W4.frozen? ⟨ms, 0, none⟩ = false := o4.frozen 0
    have HO4 := Lib.hid o4
    clear hA o4
    go_wp2_with (refine wpList_app rfl (.tmp 22) (.tmp 24) 128 rfl rfl _ _ _ (by simp [Act.eval, Act.put]) (by simp [Act.eval, Act.put]) ra ?_)
    have hAll : Hid (LogSt ((W4.setCell ⟨ms, 0, none⟩ (.slice A4 (n + 1) c4)).setCell ⟨mu, 0, none⟩ (.int .i32 0)) lo k mu he ms (.slice A4 (n + 1) c4) (n + 1) (xs ++ [.slice nA nn nc, .string pl, .nilIface, .pointer lc, .string tx, .bool dm, .int .u8 kd, .int .u8 id]) ∧
        Kept lo w ((W4.setCell ⟨ms, 0, none⟩ (.slice A4 (n + 1) c4)).setCell ⟨mu, 0, none⟩ (.int .i32 0)) ∧ Own (W4.setCell ⟨ms, 0, none⟩ (.slice A4 (n + 1) c4)) mu 134 #[.int .i32 1, .int .u32 0]) := Lib.hid (by
      have h := HX3.out
      have a := HA.out
      obtain ⟨b', hhe⟩ := h.ohe
      have omu := a.own (h.omu.alloc _) (by decide)
      have okd := a.own (h.okd.alloc _) (by decide)
      have ohe := a.own (hhe.alloc _) (by decide)
      have ne : ∀ {p t cs}, Own W4 p t cs → t ≠ 128 → p ≠ ms := fun ho ht => own_ne ho HO4.out ht
      have nm : ∀ {p t cs}, Own W4 p t cs → t ≠ 134 → p ≠ mu := fun ho ht => own_ne ho omu ht
      have hb : Below lo w W4 := h.below.trans a.below
      have omu5 := omu.far (p := ⟨ms, 0, none⟩) (ne omu (by decide)) (.slice A4 (n + 1) c4)
      refine ⟨⟨(okd.far (ne okd (by decide)) _).far (nm okd (by decide)) _, omu5.set 0 _, ⟨_, (ohe.far (ne ohe (by decide)) _).far (nm ohe (by decide)) _⟩, (HO4.out.set 0 _).far (nm HO4.out (by decide)) _,
        row_set (row_set a.row HO4.out (by decide) _ _) omu5 (by decide) _ _, hlmu, hlhe, hlms, Nat.le_trans hlw ((hb.setCell hlms _).setCell hlmu _).size⟩, ⟨(hb.setCell hlms _).setCell hlmu _, fun p t cs ho h1 h2 h3 h4 => ?_⟩, omu5⟩
      have o4 := a.own ((h.own p t cs ho h1 h2 h3 h4).alloc _) h4
      exact (o4.far (ne o4 h3) _).far (nm o4 h1) _)
    clear HA ra HO4 HX3 hrow x4 f4
    refine leaves_cons (f := 80) (args := #[.pointer (some ⟨mu, 0, none⟩)]) (by simp) (by simp [go_sem]) ?_
    refine (unlock_deferred muLib ⟨mu, 0, none⟩ .returning _ ((hAll.out.2.2.cell 0).trans rfl) (hAll.out.2.2.frozen 0)).mono ?_
    rintro e u' w'' ⟨rfl, rfl, rfl⟩
    exact ⟨_, results_none rfl _ _ _, rfl, _, hAll.out.1, hAll.out.2.1⟩
end Go.Proofs.YtcljenkgbbbfpaaDoor.Lg
