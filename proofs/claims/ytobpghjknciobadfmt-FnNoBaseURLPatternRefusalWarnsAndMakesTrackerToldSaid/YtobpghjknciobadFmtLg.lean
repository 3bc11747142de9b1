/-
  Proved: the logger of a call's own: what NewDeferLog, its closures (add a message, done) and AddID leave of the logger's state, with the memory
  lemmas used; the line and column tracker of an empty source. Conditions: those that each theorem names as its hypotheses, and no others.
-/
import Derived.Test.YtobpghjknciobadFmtRows
import Derived.Test.YtobpghjknciobadFmtMem
import Derived.Test.YtobpghjknciobadFmtHo
import Derived.Test.YtobpghjknciobadFmtLocks
import Derived.Conc.MuLone
import Derived.WalkKit
import Derived.WalkSpells
import Derived.Handy
import Derived.Lib.Hide
import Derived.PlainAid
import Derived.Laws.EntriesVeiled
import Derived.Deep.RegionHeld3
import Derived.Deep.CutRange
import Derived.Deep.QuietTactic
namespace Go.Proofs.YtobpghjknciobadFmt.Lg
open Go.RowKit Go.PlainAid Mem Ho Go.MuLone Locks
set_option linter.unusedVariables false
set_option linter.unusedSimpArgs false

theorem own_ne {W : World} {p q : Nat} {t t' : TypeId} {cs cs' : Array Value} (h : Own W p t cs) (k : Own W q t' cs') (ht : t ≠ t') : p ≠ q := fun e => by
  subst e
  unfold Own at h k
  rw [h] at k
  injection k with k
  injection k with _ k
  exact ht k
theorem grown_set (W : World) (p i : Nat) (u : Value) : W.grownBy (W.setCell ⟨p, i, none⟩ u) (some p) :=
  have h : Below 0 W (W.setCell ⟨p, i, none⟩ u) := (Below.refl 0 W).setCell (Nat.zero_le _) u
  ⟨h.os, h.tape, h.output, h.size, fun k _ hk => Below.heap_setCell W _ u k (fun e => hk (by rw [e]))⟩
theorem row_set {W : World} {lo sz n p : Nat} {e t : TypeId} {v : Value} {xs : List Value} {cs : Array Value} (h : W.ownsRow lo e sz v n xs) (ho : Own W p t cs) (ht : t ≠ e) (i : Nat) (u : Value) : (W.setCell ⟨p, i, none⟩ u).ownsRow lo e sz v n xs :=
  h.kept (grown_set W p i u) (.inr fun he => ne_row h ho ht he.symm)
theorem row_alloc {W : World} {lo sz n : Nat} {e : TypeId} {v : Value} {xs : List Value} (h : W.ownsRow lo e sz v n xs) (o : Obj) : (W.alloc o).ownsRow lo e sz v n xs :=
  row_below (B := 0) h ((Below.refl _ _).alloc (Nat.le_refl _) o)

/-- The logger's memory: its kind, its lock, its mark, its messages. -/
structure LogSt (W : World) (lo k mu he ms : Nat) (v : Value) (n : Nat) (xs : List Value) : Prop where
  okd : Own W k 35 #[.int .u8 1]
  omu : Own W mu 58 #[.int .i32 0, .int .u32 0]
  ohe : ∃ b, Own W he 4 #[.bool b]
  oms : Own W ms 52 #[v]
  row : W.ownsRow lo 65 8 v n xs
  lmu : lo ≤ mu
  lhe : lo ≤ he
  lms : lo ≤ ms
  lw : lo ≤ W.heap.size
/-- What a step of the logger leaves. -/
structure Kept (lo : Nat) (w w' : World) : Prop where
  below : Below lo w w'
  own : ∀ p t cs, Own w p t cs → t ≠ 58 → t ≠ 4 → t ≠ 52 → t ≠ 65 → Own w' p t cs
theorem LogSt.below {W W1 : World} {lo k mu he ms n : Nat} {v : Value} {xs : List Value} (h : LogSt W lo k mu he ms v n xs) (hb : Below W.heap.size W W1) : LogSt W1 lo k mu he ms v n xs :=
  ⟨h.okd.below hb h.okd.lt, h.omu.below hb h.omu.lt, h.ohe.imp fun _ ho => ho.below hb ho.lt, h.oms.below hb h.oms.lt, row_below (B := 0) h.row hb, h.lmu, h.lhe, h.lms, Nat.le_trans h.lw hb.size⟩
theorem Kept.ofBelow {lo : Nat} {W W1 : World} (h : Below W.heap.size W W1) (hl : lo ≤ W.heap.size) : Kept lo W W1 := ⟨h.mono hl, fun p t cs ho _ _ _ _ => ho.below h ho.lt⟩
theorem Kept.trans {lo : Nat} {a b c : World} (h : Kept lo a b) (k : Kept lo b c) : Kept lo a c := ⟨h.below.trans k.below, fun p t cs ho h1 h2 h3 h4 => k.own p t cs (h.own p t cs ho h1 h2 h3 h4) h1 h2 h3 h4⟩

def logV (k mu he ms : Nat) : Value := .agg #[.func (.func 8) #[] #[.pointer (some ⟨k, 0, none⟩), .pointer (some ⟨mu, 0, none⟩), .pointer (some ⟨he, 0, none⟩), .pointer (some ⟨ms, 0, none⟩)], .func (.func 11) #[] #[.pointer (some ⟨mu, 0, none⟩), .pointer (some ⟨he, 0, none⟩)], .func (.func 12) #[] #[.pointer (some ⟨mu, 0, none⟩), .pointer (some ⟨ms, 0, none⟩)], .func (.func 13) #[] #[.pointer (some ⟨mu, 0, none⟩), .pointer (some ⟨ms, 0, none⟩)], .int .i8 3, .map none]
def Newed (w : World) (e : Ending) (w' : World) : Prop := ∃ k mu he ms, e = .returned (logV k mu he ms) ∧ LogSt w' w.heap.size k mu he ms (.slice none 0 0) 0 [] ∧ Below w.heap.size w w'
theorem own_at {W : World} {n : Nat} (h : W.heap.size = n) (t : TypeId) (cs : Array Value) : Own (W.alloc (.cells cs t)) n t cs := by subst h; exact Own.new W t cs
theorem new7 (w : World) : Calls Tryf.prog 6 #[.int .u8 1, .map none] w (Newed w) := by
  go_enter Tryf.func6, Tryf.ntmps6
  go_wp2
  go_returns
  refine ⟨_, _, _, _, rfl, ⟨?_, ?_, ?_, ?_, ?_, ?_, ?_, ?_, ?_⟩, by go_grown⟩
  · exact ((((own_at rfl _ _).alloc _).alloc _).alloc _).alloc _
  · exact (own_at (by simp) _ _).alloc _
  · exact ⟨_, own_at (by simp) _ _⟩
  · exact ((own_at (by simp) _ _).alloc _).alloc _
  · exact World.ownsRow_nil _ _ _ _
  · omega
  · omega
  · omega
  · simp; omega
theorem infoMsg : (Tryf.prog.info? 65).map (fun i => (i.zero, i.size, i.bytes)) = some (some (.agg #[.slice none 0 0, .string ⟨#[]⟩, .nilIface, .pointer none, .string ⟨#[]⟩, .bool false, .int .u8 0, .int .u8 0]), 8, 96) := by kernel_rfl
theorem row_form {W : World} {lo sz n : Nat} {e : TypeId} {v : Value} {xs : List Value} (h : W.ownsRow lo e sz v n xs) : ∃ A c, v = .slice A n c := by
  rcases h.2 with ⟨rfl, rfl⟩ | ⟨g, cap, cur, rfl, _⟩
  · exact ⟨_, _, rfl⟩
  · exact ⟨_, _, rfl⟩
def Added (lo k mu he ms n : Nat) (xs msg : List Value) (w : World) (e : Ending) (w' : World) : Prop := e = .returned (.tuple #[]) ∧ ∃ v', LogSt w' lo k mu he ms v' (n + 1) (xs ++ msg) ∧ Kept lo w w'
structure Mid (w W : World) (lo k mu he ms : Nat) (v : Value) (n : Nat) (xs : List Value) (msg : Array Value) : Prop where
  okd : Own W k 35 #[.int .u8 1]
  omu : Own W mu 58 #[.int .i32 1, .int .u32 0]
  ohe : ∃ b, Own W he 4 #[.bool b]
  oms : Own W ms 52 #[v]
  row : W.ownsRow lo 65 8 v n xs
  msg : Own W w.heap.size 65 msg
  below : Below lo w W
  own : ∀ p t cs, Own w p t cs → t ≠ 58 → t ≠ 4 → t ≠ 52 → t ≠ 65 → Own W p t cs
set_option maxRecDepth 100000 in
set_option maxHeartbeats 1000000 in
theorem add10 (nA : Option Addr) (nn nc : Nat) (pl : ByteArray) (lc : Option Addr) (tx : ByteArray) (dm : Bool) (kd id : Int) (k mu he ms lo n : Nat) (v : Value) (xs : List Value) (w : World) (hL : LogSt w lo k mu he ms v n xs) (h4 : (kd == 4) = false) (h5 : (kd == 5) = false) (hn : n ≤ 1048576) :
    Calls Tryf.prog 8 #[.agg #[.slice nA nn nc, .string pl, .nilIface, .pointer lc, .string tx, .bool dm, .int .u8 kd, .int .u8 id], .pointer (some ⟨k, 0, none⟩), .pointer (some ⟨mu, 0, none⟩), .pointer (some ⟨he, 0, none⟩), .pointer (some ⟨ms, 0, none⟩)] w (Added lo k mu he ms n xs [.slice nA nn nc, .string pl, .nilIface, .pointer lc, .string tx, .bool dm, .int .u8 kd, .int .u8 id] w) := by
  have HL := Lib.hid hL
  clear hL
  obtain ⟨im, him, hzm, hsm, hbm⟩ := info_parts infoMsg
  go_enter_defers Tryf.func8, Tryf.ntmps8
  go_upto_region 1 with fail
  generalize hW1 : w.alloc _ = W1
  have hb1 : Below w.heap.size w W1 := by rw [← hW1]; exact (Below.refl _ _).alloc (Nat.le_refl _) _
  have hm1 : Own W1 w.heap.size 65 #[.slice nA nn nc, .string pl, .nilIface, .pointer lc, .string tx, .bool dm, .int .u8 kd, .int .u8 id] := by rw [← hW1]; exact Own.new _ _ _
  have HL1 := Lib.hid (HL.out.below hb1)
  have HK1 := Lib.hid (Kept.ofBelow hb1 HL.out.lw)
  have HM1 := Lib.hid hm1
  have u0 : W1.cell? ⟨k, 0, none⟩ = some (.int .u8 1) := (HL1.out.okd.cell 0).trans rfl
  have u1 : W1.cell? ⟨w.heap.size, 0, none⟩ = some (.slice nA nn nc) := (hm1.cell 0).trans rfl
  have u2 : W1.cell? ⟨w.heap.size, 6, none⟩ = some (.int .u8 kd) := (hm1.cell 6).trans rfl
  clear hb1 hm1 hW1
  go_wp2_with fail
  refine (lock_free muLib ⟨mu, 0, none⟩ W1 ((HL1.out.omu.cell 0).trans rfl) (HL1.out.omu.frozen 0)).mono ?_
  rintro e w2 ⟨rfl, rfl⟩
  have HX2 : Hid (Mid w (W1.setCell ⟨mu, 0, none⟩ (.int .i32 1)) lo k mu he ms v n xs #[.slice nA nn nc, .string pl, .nilIface, .pointer lc, .string tx, .bool dm, .int .u8 kd, .int .u8 id]) := Lib.hid (by
    have h := HL1.out
    have ne : ∀ {p t cs}, Own W1 p t cs → t ≠ 58 → p ≠ mu := fun ho ht => own_ne ho h.omu ht
    obtain ⟨b, hhe⟩ := h.ohe
    exact ⟨h.okd.far (ne h.okd (by decide)) _, h.omu.set 0 _, ⟨b, hhe.far (ne hhe (by decide)) _⟩, h.oms.far (ne h.oms (by decide)) _, row_set h.row h.omu (by decide) _ _, HM1.out.far (ne HM1.out (by decide)) _, HK1.out.below.setCell h.lmu _,
      fun p t cs ho h1 h2 h3 h4 => (HK1.out.own p t cs ho h1 h2 h3 h4).far (ne (HK1.out.own p t cs ho h1 h2 h3 h4) h1) _⟩)
  have hlmu := HL.out.lmu
  have hlhe := HL.out.lhe
  have hlms := HL.out.lms
  have hlw := HL.out.lw
  generalize hW2 : W1.setCell _ _ = W2 at *
  clear hW2 HL1 HK1 HM1 u0 u1 u2 HL h4 h5
  have u2 : W2.cell? ⟨w.heap.size, 6, none⟩ = some (.int .u8 kd) := (HX2.out.msg.cell 6).trans rfl
  obtain ⟨b, hhe⟩ := HX2.out.ohe
  have u3 : W2.cell? ⟨he, 0, none⟩ = some (.bool b) := (hhe.cell 0).trans rfl
  have f3 : W2.frozen? ⟨he, 0, none⟩ = false := hhe.frozen 0
  have HHE := Lib.hid hhe
  clear hhe
  cases hk0 : (kd == 0)
  focus
    go_upto_region 6 with fail
    have HX3 := HX2
    clear HX2 HHE u2 u3 f3
    generalize W2 = W3 at *
  rotate_left
  focus
    go_upto_region 6 with fail
    have HX3 : Hid (Mid w (W2.setCell ⟨he, 0, none⟩ (.bool true)) lo k mu he ms v n xs #[.slice nA nn nc, .string pl, .nilIface, .pointer lc, .string tx, .bool dm, .int .u8 kd, .int .u8 id]) := Lib.hid (by
      have h := HX2.out
      have ne : ∀ {p t cs}, Own W2 p t cs → t ≠ 4 → p ≠ he := fun ho ht => own_ne ho HHE.out ht
      exact ⟨h.okd.far (ne h.okd (by decide)) _, h.omu.far (ne h.omu (by decide)) _, ⟨_, HHE.out.set 0 _⟩, h.oms.far (ne h.oms (by decide)) _, row_set h.row HHE.out (by decide) _ _, h.msg.far (ne h.msg (by decide)) _, h.below.setCell hlhe _,
        fun p t cs ho h1 h2 h3 h4 => (h.own p t cs ho h1 h2 h3 h4).far (ne (h.own p t cs ho h1 h2 h3 h4) h2) _⟩)
    clear HX2 HHE u2 u3 f3
    generalize W2.setCell _ _ = W3 at *
  all_goals
    obtain ⟨A, c, rfl⟩ := row_form HX3.out.row
    have hrow := Lib.hid HX3.out.row
    have v0 : W3.cell? ⟨ms, 0, none⟩ = some (.slice A n c) := (HX3.out.oms.cell 0).trans rfl
    have m0 : W3.cell? ⟨w.heap.size, 0, none⟩ = some (.slice nA nn nc) := (HX3.out.msg.cell 0).trans rfl
    have m1 : W3.cell? ⟨w.heap.size, 1, none⟩ = some (.string pl) := (HX3.out.msg.cell 1).trans rfl
    have m2 : W3.cell? ⟨w.heap.size, 2, none⟩ = some .nilIface := (HX3.out.msg.cell 2).trans rfl
    have m3 : W3.cell? ⟨w.heap.size, 3, none⟩ = some (.pointer lc) := (HX3.out.msg.cell 3).trans rfl
    have m4 : W3.cell? ⟨w.heap.size, 4, none⟩ = some (.string tx) := (HX3.out.msg.cell 4).trans rfl
    have m5 : W3.cell? ⟨w.heap.size, 5, none⟩ = some (.bool dm) := (HX3.out.msg.cell 5).trans rfl
    have m6 : W3.cell? ⟨w.heap.size, 6, none⟩ = some (.int .u8 kd) := (HX3.out.msg.cell 6).trans rfl
    have m7 : W3.cell? ⟨w.heap.size, 7, none⟩ = some (.int .u8 id) := (HX3.out.msg.cell 7).trans rfl
    obtain ⟨v4, W4, ra, hA⟩ := Hold.app (P := Tryf.prog) (cs := #[.slice nA nn nc, .string pl, .nilIface, .pointer lc, .string tx, .bool dm, .int .u8 kd, .int .u8 id]) 52 52 im (.agg #[.slice none 0 0, .string ⟨#[]⟩, .nilIface, .pointer none, .string ⟨#[]⟩, .bool false, .int .u8 0, .int .u8 0]) 96 Tryf.underlying52 him hzm hsm hbm rfl (by decide) (by unfold maxLen; omega) (by omega) ((Hold.start hrow.out (Nat.le_trans hlw HX3.out.below.size)).alloc _) rfl (by simp [Value.oneCell'])
    obtain ⟨A4, c4, hv4⟩ := row_form hA.row
    subst hv4
    have HA := Lib.hid hA
    have o4 : Own W4 ms 52 #[.slice A n c] := hA.own (HX3.out.oms.alloc _) (by decide)
    have x4 : W4.cell? ⟨ms, 0, none⟩ = some (.slice A n c) := (o4.cell 0).trans rfl
    have f4 : W4.frozen? ⟨ms, 0, none⟩ = false := o4.frozen 0
    have HO4 := Lib.hid o4
    clear hA o4
    go_wp2_with (refine wpList_app rfl (.tmp 22) (.tmp 24) 52 rfl rfl _ _ _ (by simp [Act.eval, Act.put]) (by simp [Act.eval, Act.put]) ra ?_)
    have hAll : Hid (LogSt ((W4.setCell ⟨ms, 0, none⟩ (.slice A4 (n + 1) c4)).setCell ⟨mu, 0, none⟩ (.int .i32 0)) lo k mu he ms (.slice A4 (n + 1) c4) (n + 1) (xs ++ [.slice nA nn nc, .string pl, .nilIface, .pointer lc, .string tx, .bool dm, .int .u8 kd, .int .u8 id]) ∧
        Kept lo w ((W4.setCell ⟨ms, 0, none⟩ (.slice A4 (n + 1) c4)).setCell ⟨mu, 0, none⟩ (.int .i32 0)) ∧ Own (W4.setCell ⟨ms, 0, none⟩ (.slice A4 (n + 1) c4)) mu 58 #[.int .i32 1, .int .u32 0]) := Lib.hid (by
      have h := HX3.out
      have a := HA.out
      obtain ⟨b', hhe⟩ := h.ohe
      have omu := a.own (h.omu.alloc _) (by decide)
      have okd := a.own (h.okd.alloc _) (by decide)
      have ohe := a.own (hhe.alloc _) (by decide)
      have ne : ∀ {p t cs}, Own W4 p t cs → t ≠ 52 → p ≠ ms := fun ho ht => own_ne ho HO4.out ht
      have nm : ∀ {p t cs}, Own W4 p t cs → t ≠ 58 → p ≠ mu := fun ho ht => own_ne ho omu ht
      have hb : Below lo w W4 := h.below.trans a.below
      have omu5 := omu.far (p := ⟨ms, 0, none⟩) (ne omu (by decide)) (.slice A4 (n + 1) c4)
      refine ⟨⟨(okd.far (ne okd (by decide)) _).far (nm okd (by decide)) _, omu5.set 0 _, ⟨_, (ohe.far (ne ohe (by decide)) _).far (nm ohe (by decide)) _⟩, (HO4.out.set 0 _).far (nm HO4.out (by decide)) _,
        row_set (row_set a.row HO4.out (by decide) _ _) omu5 (by decide) _ _, hlmu, hlhe, hlms, Nat.le_trans hlw ((hb.setCell hlms _).setCell hlmu _).size⟩, ⟨(hb.setCell hlms _).setCell hlmu _, fun p t cs ho h1 h2 h3 h4 => ?_⟩, omu5⟩
      have o4 := a.own ((h.own p t cs ho h1 h2 h3 h4).alloc _) h4
      exact (o4.far (ne o4 h3) _).far (nm o4 h1) _)
    clear HA ra HO4 HX3 hrow x4 f4
    refine leaves_cons (f := 10) (args := #[.pointer (some ⟨mu, 0, none⟩)]) (by simp) (by simp [go_sem]) ?_
    refine (unlock_deferred muLib ⟨mu, 0, none⟩ .returning _ ((hAll.out.2.2.cell 0).trans rfl) (hAll.out.2.2.frozen 0)).mono ?_
    rintro e u' w'' ⟨rfl, rfl, rfl⟩
    exact ⟨_, results_none rfl _ _ _, rfl, _, hAll.out.1, hAll.out.2.1⟩
theorem ins33 (a : Option Addr) (n c : Nat) (i j : Nat) (hj : j ≤ i + 1) (hi : i ≤ 1048576) (w : World) : Calls Tryf.prog 33 #[.iface 52 (.slice a n c), .int .i64 i, .int .i64 j] w fun e w' => e = .returned (.tuple #[]) ∧ w = w' := by
  have z0 : decide ((i : Int) + 1 < j) = false := decide_eq_false (by omega)
  go_enter Tryf.func33, Tryf.ntmps33
  go_wp2
  refine wp_loop_rounds 1 ?_
  rw [rounds_succ]
  go_wp2
  go_end0
  exact ⟨rfl, rfl⟩
theorem stab22 (a : Option Addr) (n c : Nat) (hn : n ≤ 1) (w : World) : Calls Tryf.prog 22 #[.iface 52 (.slice a n c), .int .i64 n] w fun e w' => e = .returned (.tuple #[]) ∧ w = w' := by
  have z0 : decide ((20 : Int) ≤ n) = false := decide_eq_false (by omega)
  have z1 : decide ((20 : Int) < n) = false := decide_eq_false (by omega)
  go_enter Tryf.func22, Tryf.ntmps22
  go_wp2
  refine wp_loop_rounds 1 ?_
  rw [rounds_succ]
  go_wp2_with fail
  refine (ins33 a n c 0 n (by omega) (by omega) w).mono ?_
  rintro e w' ⟨rfl, rfl⟩
  go_wp2
  refine wp_loop_rounds 1 ?_
  rw [rounds_succ]
  go_wp2
  go_end0
  exact ⟨rfl, rfl⟩
theorem len71 (a : Option Addr) (n c : Nat) (w : World) : Calls Tryf.prog 71 #[.slice a n c] w fun e w' => e = .returned (.int .i64 n) ∧ w = w' := by
  go_enter Tryf.func71, Tryf.ntmps71
  go_wp2
  go_ret
  exact ⟨rfl, rfl⟩
theorem stable16 (a : Option Addr) (n c : Nat) (hn : n ≤ 1) (w : World) : Calls Tryf.prog 14 #[.iface 52 (.slice a n c)] w fun e w' => e = .returned (.tuple #[]) ∧ w = w' := by
  go_enter Tryf.func14, Tryf.ntmps14
  go_wp2_with fail
  refine (len71 a n c w).mono ?_
  rintro e w' ⟨rfl, rfl⟩
  go_wp2_with fail
  refine (stab22 a n c hn w).mono ?_
  rintro e w' ⟨rfl, rfl⟩
  go_wp2
  go_end0
  exact ⟨rfl, rfl⟩
def Doned (lo k mu he ms : Nat) (v : Value) (n : Nat) (xs : List Value) (w : World) (e : Ending) (w' : World) : Prop := e = .returned v ∧ LogSt w' lo k mu he ms v n xs ∧ Kept lo w w'
set_option maxRecDepth 100000 in
theorem done15 (k mu he ms lo n : Nat) (v : Value) (xs : List Value) (w : World) (hL : LogSt w lo k mu he ms v n xs) (hn : n ≤ 1) :
    Calls Tryf.prog 13 #[.pointer (some ⟨mu, 0, none⟩), .pointer (some ⟨ms, 0, none⟩)] w (Doned lo k mu he ms v n xs w) := by
  obtain ⟨A, c, rfl⟩ := row_form hL.row
  have HL := Lib.hid hL
  clear hL
  go_enter_defers Tryf.func13, Tryf.ntmps13
  go_wp2_with fail
  refine (lock_free muLib ⟨mu, 0, none⟩ w ((HL.out.omu.cell 0).trans rfl) (HL.out.omu.frozen 0)).mono ?_
  rintro e w2 ⟨rfl, rfl⟩
  have hne : ms ≠ mu := own_ne HL.out.oms HL.out.omu (by decide)
  have o1 : Own (w.setCell ⟨mu, 0, none⟩ (.int .i32 1)) mu 58 #[.int .i32 1, .int .u32 0] := HL.out.omu.set 0 _
  have v0 : (w.setCell ⟨mu, 0, none⟩ (.int .i32 1)).cell? ⟨ms, 0, none⟩ = some (.slice A n c) := ((HL.out.oms.far hne _).cell 0).trans rfl
  have HO := Lib.hid o1
  generalize hW2 : w.setCell _ _ = W2 at *
  have HW := Lib.hid hW2
  clear hW2 o1 hne
  go_wp2_with fail
  refine (stable16 A n c hn W2).mono ?_
  rintro e w' ⟨rfl, rfl⟩
  go_wp2_with fail
  clear v0
  have hAll : Hid (LogSt (W2.setCell ⟨mu, 0, none⟩ (.int .i32 0)) lo k mu he ms (.slice A n c) n xs ∧ Kept lo w (W2.setCell ⟨mu, 0, none⟩ (.int .i32 0))) := Lib.hid (by
    have hw := HW.out
    subst hw
    have h := HL.out
    obtain ⟨b', hhe⟩ := h.ohe
    have omu := HO.out
    have nm : ∀ {p t cs}, Own w p t cs → t ≠ 58 → p ≠ mu := fun ho ht => own_ne ho h.omu ht
    have hb : Below lo w ((w.setCell ⟨mu, 0, none⟩ (.int .i32 1)).setCell ⟨mu, 0, none⟩ (.int .i32 0)) := ((Below.refl _ _).setCell h.lmu _).setCell h.lmu _
    exact ⟨⟨(h.okd.far (nm h.okd (by decide)) _).far (nm h.okd (by decide)) _, omu.set 0 _, ⟨_, (hhe.far (nm hhe (by decide)) _).far (nm hhe (by decide)) _⟩, (h.oms.far (nm h.oms (by decide)) _).far (nm h.oms (by decide)) _,
      row_set (row_set h.row h.omu (by decide) _ _) omu (by decide) _ _, h.lmu, h.lhe, h.lms, Nat.le_trans h.lw hb.size⟩, hb, fun p t cs ho h1 h2 h3 h4 => (ho.far (nm ho h1) _).far (nm ho h1) _⟩)
  refine leaves_cons (f := 10) (args := #[.pointer (some ⟨mu, 0, none⟩)]) (by simp) (by simp [go_sem]) ?_
  refine (unlock_deferred muLib ⟨mu, 0, none⟩ .returning _ ((HO.out.cell 0).trans rfl) (HO.out.frozen 0)).mono ?_
  rintro e u' w'' ⟨rfl, rfl, rfl⟩
  exact ⟨_, results_tmp rfl _ _ _, rfl, hAll.out.1, hAll.out.2⟩

def srcC : Array Value := #[.string ⟨#[]⟩, .string ⟨#[]⟩, .string ⟨#[]⟩, .string ⟨#[]⟩, .string ⟨#[]⟩, .string ⟨#[]⟩, .string ⟨#[]⟩, .string ⟨#[]⟩, .int .u8 0, .int .u32 0]
def trkC (e : Bool) : Array Value := #[.string ⟨#[]⟩, .string ⟨#[]⟩, .string ⟨#[]⟩, .int .i32 0, .int .i32 0, .int .i32 0, .int .i32 0, .bool true, .bool e, .bool true]
def Trk (W : World) (q : Nat) : Prop := ∃ e, Own W q 72 (trkC e)
def Giv (v : Value) (w : World) (e : Ending) (w' : World) : Prop := e = .returned v ∧ Below w.heap.size w w'
set_option maxRecDepth 100000 in
theorem trk8 (p : Nat) (w : World) (hp : Own w p 45 srcC) : Calls Tryf.prog 17 #[.pointer (some ⟨p, 0, none⟩)] w (Giv (.agg (trkC false)) w) := by
  have HP := Lib.hid hp
  clear hp
  go_enter Tryf.func17, Tryf.ntmps17
  go_upto_region 3 with fail
  generalize hW : w.alloc _ = W
  have hb : Below w.heap.size w W := by rw [← hW]; exact (Below.refl _ _).alloc (Nat.le_refl _) _
  have ho : Own W w.heap.size 72 #[.string ⟨#[]⟩, .string ⟨#[]⟩, .string ⟨#[]⟩, .int .i32 0, .int .i32 0, .int .i32 0, .int .i32 0, .bool false, .bool false, .bool false] := by rw [← hW]; exact Own.new _ _ _
  have hp := HP.out.below hb HP.out.lt
  have c0 : W.cell? ⟨p, 0, none⟩ = some (.string ⟨#[]⟩) := (hp.cell 0).trans rfl
  have c1 : W.cell? ⟨p, 1, none⟩ = some (.string ⟨#[]⟩) := (hp.cell 1).trans rfl
  have c2 : W.cell? ⟨p, 3, none⟩ = some (.string ⟨#[]⟩) := (hp.cell 3).trans rfl
  have f0 : ∀ j, W.frozen? ⟨w.heap.size, j, none⟩ = false := ho.frozen
  have o0 : W.cell? ⟨w.heap.size, 0, none⟩ = some (.string ⟨#[]⟩) := (ho.cell 0).trans rfl
  have o1 : W.cell? ⟨w.heap.size, 1, none⟩ = some (.string ⟨#[]⟩) := (ho.cell 1).trans rfl
  have o2 : W.cell? ⟨w.heap.size, 2, none⟩ = some (.string ⟨#[]⟩) := (ho.cell 2).trans rfl
  have o3 : W.cell? ⟨w.heap.size, 3, none⟩ = some (.int .i32 0) := (ho.cell 3).trans rfl
  have o4 : W.cell? ⟨w.heap.size, 4, none⟩ = some (.int .i32 0) := (ho.cell 4).trans rfl
  have o5 : W.cell? ⟨w.heap.size, 5, none⟩ = some (.int .i32 0) := (ho.cell 5).trans rfl
  have o6 : W.cell? ⟨w.heap.size, 6, none⟩ = some (.int .i32 0) := (ho.cell 6).trans rfl
  have o7 : W.cell? ⟨w.heap.size, 7, none⟩ = some (.bool false) := (ho.cell 7).trans rfl
  have o8 : W.cell? ⟨w.heap.size, 8, none⟩ = some (.bool false) := (ho.cell 8).trans rfl
  have o9 : W.cell? ⟨w.heap.size, 9, none⟩ = some (.bool false) := (ho.cell 9).trans rfl
  go_region
  have hb9 := ((((((((((hb.setCell (p := ⟨w.heap.size, 0, none⟩) (Nat.le_refl _) (.string ⟨#[]⟩)).setCell (p := ⟨w.heap.size, 1, none⟩) (Nat.le_refl _) (.string ⟨#[]⟩)).setCell (p := ⟨w.heap.size, 2, none⟩) (Nat.le_refl _) (.string ⟨#[]⟩)).setCell (p := ⟨w.heap.size, 3, none⟩) (Nat.le_refl _) (.int .i32 0)).setCell (p := ⟨w.heap.size, 4, none⟩) (Nat.le_refl _) (.int .i32 0)).setCell (p := ⟨w.heap.size, 5, none⟩) (Nat.le_refl _) (.int .i32 0)).setCell (p := ⟨w.heap.size, 6, none⟩) (Nat.le_refl _) (.int .i32 0)).setCell (p := ⟨w.heap.size, 7, none⟩) (Nat.le_refl _) (.bool true)).setCell (p := ⟨w.heap.size, 8, none⟩) (Nat.le_refl _) (.bool false)).setCell (p := ⟨w.heap.size, 9, none⟩) (Nat.le_refl _) (.bool true)).drew
  have h9 := ((((((((((ho.set 0 (.string ⟨#[]⟩)).set 1 (.string ⟨#[]⟩)).set 2 (.string ⟨#[]⟩)).set 3 (.int .i32 0)).set 4 (.int .i32 0)).set 5 (.int .i32 0)).set 6 (.int .i32 0)).set 7 (.bool true)).set 8 (.bool false)).set 9 (.bool true)).drew
  generalize hV : World.drew _ = V at hb9 h9 ⊢
  have ho9 : Own V w.heap.size 72 (trkC false) := h9
  have t0 : V.cell? ⟨w.heap.size, 0, none⟩ = some (.string ⟨#[]⟩) := (ho9.cell 0).trans rfl
  have t1 : V.cell? ⟨w.heap.size, 1, none⟩ = some (.string ⟨#[]⟩) := (ho9.cell 1).trans rfl
  have t2 : V.cell? ⟨w.heap.size, 2, none⟩ = some (.string ⟨#[]⟩) := (ho9.cell 2).trans rfl
  have t3 : V.cell? ⟨w.heap.size, 3, none⟩ = some (.int .i32 0) := (ho9.cell 3).trans rfl
  have t4 : V.cell? ⟨w.heap.size, 4, none⟩ = some (.int .i32 0) := (ho9.cell 4).trans rfl
  have t5 : V.cell? ⟨w.heap.size, 5, none⟩ = some (.int .i32 0) := (ho9.cell 5).trans rfl
  have t6 : V.cell? ⟨w.heap.size, 6, none⟩ = some (.int .i32 0) := (ho9.cell 6).trans rfl
  have t7 : V.cell? ⟨w.heap.size, 7, none⟩ = some (.bool true) := (ho9.cell 7).trans rfl
  have t8 : V.cell? ⟨w.heap.size, 8, none⟩ = some (.bool false) := (ho9.cell 8).trans rfl
  have t9 : V.cell? ⟨w.heap.size, 9, none⟩ = some (.bool true) := (ho9.cell 9).trans rfl
  clear hV h9 ho9 ho hb hp hW f0 c0 c1 c2 o0 o1 o2 o3 o4 o5 o6 o7 o8 o9
  go_wp2
  refine bodyPost_ret (v := .agg (trkC false)) (by simp [results, Tryf.results17, go_sem, trkC, t0, t1, t2, t3, t4, t5, t6, t7, t8, t9]) rfl ⟨rfl, hb9⟩
set_option maxRecDepth 100000 in
theorem rng17 (p : Nat) (w : World) (hp : Own w p 45 srcC) : Calls Tryf.prog 16 #[.pointer (some ⟨p, 0, none⟩), .agg #[.int .i32 0]] w (Giv (.agg #[.int .i32 0, .int .i32 0]) w) := by
  have HP := Lib.hid hp
  clear hp
  go_enter Tryf.func16, Tryf.ntmps16
  go_upto_region 1 with fail
  generalize hW : (w.alloc _).alloc _ = W
  have hb : Below w.heap.size w W := by rw [← hW]; exact ((Below.refl _ _).alloc (Nat.le_refl _) _).alloc (by simp) _
  have hp := HP.out.below hb HP.out.lt
  have o1 : Own W w.heap.size 50 #[.int .i32 0] := by rw [← hW]; exact (own_at rfl _ _).alloc _
  have o2 : Own W (w.heap.size + 1) 69 #[.int .i32 0, .int .i32 0] := by rw [← hW]; exact own_at (by simp) _ _
  have c2 : W.cell? ⟨p, 3, none⟩ = some (.string ⟨#[]⟩) := (hp.cell 3).trans rfl
  have c4 : W.cell? ⟨w.heap.size, 0, none⟩ = some (.int .i32 0) := (o1.cell 0).trans rfl
  have c5 : W.cell? ⟨w.heap.size + 1, 0, none⟩ = some (.int .i32 0) := (o2.cell 0).trans rfl
  have c6 : W.cell? ⟨w.heap.size + 1, 1, none⟩ = some (.int .i32 0) := (o2.cell 1).trans rfl
  have f0 : ∀ j, W.frozen? ⟨w.heap.size + 1, j, none⟩ = false := o2.frozen
  clear hp hW
  go_quiet (fail)
  go_wp2
  have hb9 := ((below_drewN hb nq).setCell (p := ⟨w.heap.size + 1, 0, none⟩) (Nat.le_succ _) (.int .i32 0)).setCell (p := ⟨w.heap.size + 1, 1, none⟩) (Nat.le_succ _) (.int .i32 0)
  have h9 := ((o2.drewN nq).set 0 (.int .i32 0)).set 1 (.int .i32 0)
  generalize hV : ((W.drewN nq).setCell _ _).setCell _ _ = V at hb9 h9 ⊢
  have t0 : V.cell? ⟨w.heap.size + 1, 0, none⟩ = some (.int .i32 0) := (h9.cell 0).trans rfl
  have t1 : V.cell? ⟨w.heap.size + 1, 1, none⟩ = some (.int .i32 0) := (h9.cell 1).trans rfl
  refine bodyPost_ret (v := .agg #[.int .i32 0, .int .i32 0]) (by simp [results, Tryf.results16, go_sem, t0, t1]) rfl ⟨rfl, hb9⟩
set_option maxRecDepth 100000 in
theorem scan46 (q : Nat) (e : Bool) (w : World) (hq : Own w q 72 (trkC e)) : Calls Tryf.prog 46 #[.pointer (some ⟨q, 0, none⟩), .int .i32 0] w fun e w' => e = .returned (.tuple #[]) ∧ w = w' := by
  have c0 : w.cell? ⟨q, 0, none⟩ = some (.string ⟨#[]⟩) := (hq.cell 0).trans rfl
  have c3 : w.cell? ⟨q, 3, none⟩ = some (.int .i32 0) := (hq.cell 3).trans rfl
  clear hq
  go_enter Tryf.func46, Tryf.ntmps46
  go_wp2
  go_end0
  exact ⟨rfl, rfl⟩
set_option maxRecDepth 100000 in
theorem look30 (W : World) : (Instr.lookup 31 (.map none) (.int .u8 66) true).run Tryf.prog W = .ok (.tuple #[.int .i8 0, .bool false]) W := by kernel_rfl
set_option maxRecDepth 100000 in
theorem over23 (w : World) : Calls Tryf.prog 23 #[.map none, .int .u8 66, .int .u8 1] w fun e w' => e = .returned (.tuple #[.int .u8 1, .bool true]) ∧ w = w' := by
  have hlk := look30
  go_enter Tryf.func23, Tryf.ntmps23
  go_wp2
  go_returns
  exact ⟨rfl, rfl⟩

def Com (q : Nat) (w : World) (e : Ending) (w' : World) : Prop := e = .returned (.tuple #[.int .i64 0, .int .i64 0, .int .i64 0, .int .i64 0]) ∧ Own w' q 72 (trkC true) ∧ w.grownBy w' (some q)
theorem grown_drewN (W : World) (n : Nat) (r : Option Nat) : W.grownBy (W.drewN n) r := grown_of_below (below_drewN (Below.refl _ _) n) r
set_option maxRecDepth 100000 in
theorem com44 (q : Nat) (e : Bool) (w : World) (hq : Own w q 72 (trkC e)) : Calls Tryf.prog 44 #[.pointer (some ⟨q, 0, none⟩), .int .i64 0] w (Com q w) := by
  have HQ := Lib.hid hq
  have c0 : w.cell? ⟨q, 0, none⟩ = some (.string ⟨#[]⟩) := (hq.cell 0).trans rfl
  have c3 : w.cell? ⟨q, 3, none⟩ = some (.int .i32 0) := (hq.cell 3).trans rfl
  have c4 : w.cell? ⟨q, 4, none⟩ = some (.int .i32 0) := (hq.cell 4).trans rfl
  have c5 : w.cell? ⟨q, 5, none⟩ = some (.int .i32 0) := (hq.cell 5).trans rfl
  have c6 : w.cell? ⟨q, 6, none⟩ = some (.int .i32 0) := (hq.cell 6).trans rfl
  have c7 : w.cell? ⟨q, 7, none⟩ = some (.bool true) := (hq.cell 7).trans rfl
  have c8 : w.cell? ⟨q, 8, none⟩ = some (.bool e) := (hq.cell 8).trans rfl
  have f0 : ∀ j, w.frozen? ⟨q, j, none⟩ = false := hq.frozen
  clear hq
  cases e
  · go_enter Tryf.func44, Tryf.ntmps44
    go_wp2_with fail
    refine (scan46 q _ w HQ.out).mono ?_
    rintro e w' ⟨rfl, rfl⟩
    go_wp2
    refine wp_loop_rounds 1 ?_
    rw [rounds_succ]
    go_upto_region 21 with fail
    have ho := (HQ.out.set 8 (.bool true)).set 6 (.int .i32 0)
    have hg := grown_trans (grown_set w q 8 (.bool true)) (grown_set _ q 6 (.int .i32 0))
    generalize hV : (w.setCell _ _).setCell _ _ = V at ho hg ⊢
    have HV : Own V q 72 (trkC true) := ho
    have t3 : V.cell? ⟨q, 3, none⟩ = some (.int .i32 0) := (ho.cell 3).trans rfl
    have t4 : V.cell? ⟨q, 4, none⟩ = some (.int .i32 0) := (ho.cell 4).trans rfl
    have t5 : V.cell? ⟨q, 5, none⟩ = some (.int .i32 0) := (ho.cell 5).trans rfl
    have t6 : V.cell? ⟨q, 6, none⟩ = some (.int .i32 0) := (ho.cell 6).trans rfl
    have HO := Lib.hid HV
    have HG := Lib.hid hg
    clear ho hg HV hV c0 c3 c4 c5 c6 c7 c8 f0
    go_quiet (fail)
    go_wp2
    refine bodyPost_ret (v := .tuple #[.int .i64 0, .int .i64 0, .int .i64 0, .int .i64 0]) (by simp [results, Tryf.results44, go_sem]; exact ⟨rfl, rfl, rfl⟩) rfl ⟨rfl, HO.out.drewN _, grown_trans HG.out (grown_drewN _ _ _)⟩
  · go_enter Tryf.func44, Tryf.ntmps44
    go_wp2_with fail
    refine (scan46 q _ w HQ.out).mono ?_
    rintro e w' ⟨rfl, rfl⟩
    go_upto_region 21 with fail
    go_quiet (fail)
    go_wp2
    refine bodyPost_ret (v := .tuple #[.int .i64 0, .int .i64 0, .int .i64 0, .int .i64 0]) (by simp [results, Tryf.results44, go_sem]; exact ⟨rfl, rfl, rfl⟩) rfl ⟨rfl, HQ.out.drewN _, grown_drewN _ _ _⟩

def Ptr (q : Nat) (w : World) (e : Ending) (w' : World) : Prop := (∃ l, e = .returned (.pointer (some l))) ∧ Own w' q 72 (trkC true) ∧ w.grownBy w' (some q)
set_option maxRecDepth 100000 in
theorem loc35 (q : Nat) (e : Bool) (w : World) (hq : Own w q 72 (trkC e)) : Calls Tryf.prog 35 #[.pointer (some ⟨q, 0, none⟩), .agg #[.int .i32 0, .int .i32 0]] w (Ptr q w) := by
  have HQ := Lib.hid hq
  clear hq
  go_enter Tryf.func35, Tryf.ntmps35
  go_upto_region 1 with fail
  generalize hW : w.alloc _ = W
  have hb : Below w.heap.size w W := by rw [← hW]; exact (Below.refl _ _).alloc (Nat.le_refl _) _
  have ho : Own W w.heap.size 69 #[.int .i32 0, .int .i32 0] := by rw [← hW]; exact Own.new _ _ _
  have hq := HQ.out.below hb HQ.out.lt
  have c9 : W.cell? ⟨q, 9, none⟩ = some (.bool true) := (hq.cell 9).trans rfl
  have d0 : W.cell? ⟨w.heap.size, 0, none⟩ = some (.int .i32 0) := (ho.cell 0).trans rfl
  have HO := Lib.hid ho
  have HQ1 := Lib.hid hq
  have HB := Lib.hid hb
  clear hW hb ho hq
  go_wp2_with fail
  refine (com44 q e W HQ1.out).mono ?_
  rintro e w1 ⟨rfl, hq1, hg1⟩
  have hne : w.heap.size ≠ q := own_ne HO.out HQ1.out (by decide)
  have ho1 : Own w1 w.heap.size 69 #[.int .i32 0, .int .i32 0] := (hg1.block _ HO.out.lt (by simpa using hne)).trans HO.out
  have c0 : w1.cell? ⟨q, 0, none⟩ = some (.string ⟨#[]⟩) := (hq1.cell 0).trans rfl
  have c1 : w1.cell? ⟨q, 1, none⟩ = some (.string ⟨#[]⟩) := (hq1.cell 1).trans rfl
  have c2 : w1.cell? ⟨q, 2, none⟩ = some (.string ⟨#[]⟩) := (hq1.cell 2).trans rfl
  have d1 : w1.cell? ⟨w.heap.size, 1, none⟩ = some (.int .i32 0) := (ho1.cell 1).trans rfl
  have HQ2 := Lib.hid hq1
  have HG1 := Lib.hid (grown_trans (grown_of_below HB.out (some q)) hg1)
  clear hq1 hg1 ho1 hne c9 d0
  go_upto_region 4 with fail
  go_region
  go_wp2
  go_ret
  exact ⟨⟨_, rfl⟩, (HQ2.out.alloc _).drew, grown_trans HG1.out (grown_of_below ((Below.refl _ _).alloc (Nat.le_refl _) _).drew _)⟩
theorem grown_new {w W : World} {r : Option Nat} (h : w.grownBy W r) {p i : Nat} (u : Value) (hp : w.heap.size ≤ p) : w.grownBy (W.setCell ⟨p, i, none⟩ u) r :=
  have g := grown_set W p i u
  ⟨g.os.trans h.os, g.tape.trans h.tape, g.output.trans h.output, Nat.le_trans h.size g.size, fun k hk he => (g.block k (Nat.lt_of_lt_of_le hk h.size) (fun e => by injection e with e; omega)).trans (h.block k hk he)⟩
def Dat (q : Nat) (tx : ByteArray) (w : World) (e : Ending) (w' : World) : Prop := (∃ l, e = .returned (.agg #[.nilIface, .pointer (some l), .string tx, .bool false])) ∧ Own w' q 72 (trkC true) ∧ w.grownBy w' (some q)
set_option maxRecDepth 100000 in
theorem dat24 (q : Nat) (e : Bool) (tx : ByteArray) (w : World) (hq : Own w q 72 (trkC e)) : Calls Tryf.prog 24 #[.pointer (some ⟨q, 0, none⟩), .agg #[.int .i32 0, .int .i32 0], .string tx] w (Dat q tx w) := by
  have HQ := Lib.hid hq
  clear hq
  go_enter Tryf.func24, Tryf.ntmps24
  go_upto_region 1 with fail
  generalize hW : (w.alloc _).alloc _ = W
  have hb : Below w.heap.size w W := by rw [← hW]; exact ((Below.refl _ _).alloc (Nat.le_refl _) _).alloc (by simp) _
  have ho : Own W w.heap.size 69 #[.int .i32 0, .int .i32 0] := by rw [← hW]; exact (own_at rfl _ _).alloc _
  have ho6 : Own W (w.heap.size + 1) 62 #[.nilIface, .pointer none, .string ⟨#[]⟩, .bool false] := by rw [← hW]; exact own_at (by simp) _ _
  have hq := HQ.out.below hb HQ.out.lt
  have d0 : W.cell? ⟨w.heap.size, 0, none⟩ = some (.int .i32 0) := (ho.cell 0).trans rfl
  have d1 : W.cell? ⟨w.heap.size, 1, none⟩ = some (.int .i32 0) := (ho.cell 1).trans rfl
  have HO6 := Lib.hid ho6
  have HQ1 := Lib.hid hq
  have HB := Lib.hid hb
  clear hW hb ho hq ho6
  go_wp2_with fail
  refine (loc35 q e W HQ1.out).mono ?_
  rintro e w1 ⟨⟨l, rfl⟩, hq1, hg1⟩
  have hne : w.heap.size + 1 ≠ q := own_ne HO6.out HQ1.out (by decide)
  have h6 : Own w1 (w.heap.size + 1) 62 #[.nilIface, .pointer none, .string ⟨#[]⟩, .bool false] := (hg1.block _ HO6.out.lt (by simpa using hne)).trans HO6.out
  have o0 : w1.cell? ⟨w.heap.size + 1, 0, none⟩ = some .nilIface := (h6.cell 0).trans rfl
  have o1 : w1.cell? ⟨w.heap.size + 1, 1, none⟩ = some (.pointer none) := (h6.cell 1).trans rfl
  have o2 : w1.cell? ⟨w.heap.size + 1, 2, none⟩ = some (.string ⟨#[]⟩) := (h6.cell 2).trans rfl
  have o3 : w1.cell? ⟨w.heap.size + 1, 3, none⟩ = some (.bool false) := (h6.cell 3).trans rfl
  have f0 : ∀ j, w1.frozen? ⟨w.heap.size + 1, j, none⟩ = false := h6.frozen
  have hlt : w.heap.size ≤ w.heap.size + 1 := Nat.le_succ _
  have HQ2 := Lib.hid hq1
  have HG1 := Lib.hid (grown_trans (grown_of_below HB.out (some q)) hg1)
  have H6 := Lib.hid h6
  have HNE := Lib.hid hne
  clear hq1 hg1 h6 hne
  go_wp2
  have hO := (((H6.out.set 0 .nilIface).set 1 (.pointer (some l))).set 2 (.string tx)).set 3 (.bool false)
  have hQ := (((HQ2.out.far (p := ⟨w.heap.size + 1, 0, none⟩) (Ne.symm HNE.out) .nilIface).far (p := ⟨w.heap.size + 1, 1, none⟩) (Ne.symm HNE.out) (.pointer (some l))).far (p := ⟨w.heap.size + 1, 2, none⟩) (Ne.symm HNE.out) (.string tx)).far (p := ⟨w.heap.size + 1, 3, none⟩) (Ne.symm HNE.out) (.bool false)
  have hG := grown_new (i := 3) (grown_new (i := 2) (grown_new (i := 1) (grown_new (i := 0) HG1.out .nilIface hlt) (.pointer (some l)) hlt) (.string tx) hlt) (.bool false) hlt
  generalize hV : (((w1.setCell _ _).setCell _ _).setCell _ _).setCell _ _ = V at hO hQ hG ⊢
  have t0 : V.cell? ⟨w.heap.size + 1, 0, none⟩ = some .nilIface := (hO.cell 0).trans rfl
  have t1 : V.cell? ⟨w.heap.size + 1, 1, none⟩ = some (.pointer (some l)) := (hO.cell 1).trans rfl
  have t2 : V.cell? ⟨w.heap.size + 1, 2, none⟩ = some (.string tx) := (hO.cell 2).trans rfl
  have t3 : V.cell? ⟨w.heap.size + 1, 3, none⟩ = some (.bool false) := (hO.cell 3).trans rfl
  refine bodyPost_ret (v := .agg #[.nilIface, .pointer (some l), .string tx, .bool false]) (by simp [results, Tryf.results24, go_sem, t0, t1, t2, t3]) rfl ⟨⟨_, rfl⟩, hQ, hG⟩

theorem LogSt.grown {W W1 : World} {lo k mu he ms n q : Nat} {v : Value} {xs : List Value} {cs : Array Value} (h : LogSt W lo k mu he ms v n xs) (hg : W.grownBy W1 (some q)) (hq : Own W q 72 cs) : LogSt W1 lo k mu he ms v n xs := by
  have kp : ∀ {p t cs}, Own W p t cs → t ≠ 72 → Own W1 p t cs := fun {p t cs} ho ht => (hg.block p ho.lt (fun e => own_ne ho hq ht (Option.some.inj e))).trans ho
  exact ⟨kp h.okd (by decide), kp h.omu (by decide), h.ohe.imp fun _ ho => kp ho (by decide), kp h.oms (by decide), h.row.kept hg (.inr fun e => ne_row h.row hq (by decide) e.symm), h.lmu, h.lhe, h.lms, Nat.le_trans h.lw hg.size⟩
/-- AddID: one message more; the tracker's block may turn. -/
def AddedI (lo k mu he ms n q : Nat) (xs : List Value) (w : World) (e : Ending) (w' : World) : Prop :=
  e = .returned (.tuple #[]) ∧ ∃ v' ys, LogSt w' lo k mu he ms v' (n + 1) (xs ++ ys) ∧ Trk w' q ∧ Below lo w w' ∧ ∀ p t cs, Own w p t cs → t ≠ 58 → t ≠ 4 → t ≠ 52 → t ≠ 65 → t ≠ 72 → Own w' p t cs
set_option maxRecDepth 100000 in
set_option maxHeartbeats 1000000 in
theorem addID18 (q : Nat) (k mu he ms lo n : Nat) (v : Value) (xs : List Value) (tx : ByteArray) (w : World) (hL : LogSt w lo k mu he ms v n xs) (hq : Trk w q) (hlo : lo ≤ q) (hn : n ≤ 1048576) :
    Calls Tryf.prog 18 #[logV k mu he ms, .int .u8 66, .int .u8 1, .pointer (some ⟨q, 0, none⟩), .agg #[.int .i32 0, .int .i32 0], .string tx] w (AddedI lo k mu he ms n q xs w) := by
  obtain ⟨e, hq⟩ := hq
  have HL := Lib.hid hL
  have HQ := Lib.hid hq
  clear hL hq
  unfold logV
  go_enter Tryf.func18, Tryf.ntmps18
  go_upto_region 1 with fail
  generalize hW : (w.alloc _).alloc _ = W
  have hb : Below w.heap.size w W := by rw [← hW]; exact ((Below.refl _ _).alloc (Nat.le_refl _) _).alloc (by simp) _
  have hq := HQ.out.below hb HQ.out.lt
  have oL : Own W w.heap.size 33 #[.func (.func 8) #[] #[.pointer (some ⟨k, 0, none⟩), .pointer (some ⟨mu, 0, none⟩), .pointer (some ⟨he, 0, none⟩), .pointer (some ⟨ms, 0, none⟩)], .func (.func 11) #[] #[.pointer (some ⟨mu, 0, none⟩), .pointer (some ⟨he, 0, none⟩)], .func (.func 12) #[] #[.pointer (some ⟨mu, 0, none⟩), .pointer (some ⟨ms, 0, none⟩)], .func (.func 13) #[] #[.pointer (some ⟨mu, 0, none⟩), .pointer (some ⟨ms, 0, none⟩)], .int .i8 3, .map none] := by rw [← hW]; exact (own_at rfl _ _).alloc _
  have oR : Own W (w.heap.size + 1) 69 #[.int .i32 0, .int .i32 0] := by rw [← hW]; exact own_at (by simp) _ _
  have l5 : W.cell? ⟨w.heap.size, 5, none⟩ = some (.map none) := (oL.cell 5).trans rfl
  have HOL := Lib.hid oL
  have HOR := Lib.hid oR
  have HQ1 := Lib.hid hq
  have HB := Lib.hid hb
  have HL1 := Lib.hid (HL.out.below hb)
  clear hW hb oL oR hq
  go_wp2_with fail
  refine (over23 W).mono ?_
  rintro e w' ⟨rfl, rfl⟩
  clear l5
  have hS : ∀ V, Own V w.heap.size 33 #[.func (.func 8) #[] #[.pointer (some ⟨k, 0, none⟩), .pointer (some ⟨mu, 0, none⟩), .pointer (some ⟨he, 0, none⟩), .pointer (some ⟨ms, 0, none⟩)], .func (.func 11) #[] #[.pointer (some ⟨mu, 0, none⟩), .pointer (some ⟨he, 0, none⟩)], .func (.func 12) #[] #[.pointer (some ⟨mu, 0, none⟩), .pointer (some ⟨ms, 0, none⟩)], .func (.func 13) #[] #[.pointer (some ⟨mu, 0, none⟩), .pointer (some ⟨ms, 0, none⟩)], .int .i8 3, .map none] → Own V (w.heap.size + 1) 69 #[.int .i32 0, .int .i32 0] →
      (V.cell? ⟨w.heap.size, 0, none⟩ = some (.func (.func 8) #[] #[.pointer (some ⟨k, 0, none⟩), .pointer (some ⟨mu, 0, none⟩), .pointer (some ⟨he, 0, none⟩), .pointer (some ⟨ms, 0, none⟩)]) ∧ V.cell? ⟨w.heap.size + 1, 0, none⟩ = some (.int .i32 0) ∧ V.cell? ⟨w.heap.size + 1, 1, none⟩ = some (.int .i32 0)) :=
    fun V h1 h2 => ⟨(h1.cell 0).trans rfl, (h2.cell 0).trans rfl, (h2.cell 1).trans rfl⟩
  have kq : ∀ {V V1 : World} {p t cs}, Own V p t cs → Own V q 72 (trkC e) → V.grownBy V1 (some q) → t ≠ 72 → Own V1 p t cs := fun {V V1 p t cs} ho hq hg ht => (hg.block p ho.lt (fun e => own_ne ho hq ht (Option.some.inj e))).trans ho
  go_upto_region 3 with fail
  go_region_held3 (fun V => V.cell? ⟨w.heap.size, 0, none⟩ = some (.func (.func 8) #[] #[.pointer (some ⟨k, 0, none⟩), .pointer (some ⟨mu, 0, none⟩), .pointer (some ⟨he, 0, none⟩), .pointer (some ⟨ms, 0, none⟩)]) ∧ V.cell? ⟨w.heap.size + 1, 0, none⟩ = some (.int .i32 0) ∧ V.cell? ⟨w.heap.size + 1, 1, none⟩ = some (.int .i32 0))
    (first | assumption | exact hS _ HOL.out.drew HOR.out.drew | exact hS _ (kq HOL.out.drew HQ1.out.drew hg3 (by decide)) (kq HOR.out.drew HQ1.out.drew hg3 (by decide)) | exact hS _ (hK4.own _ _ _ (kq HOL.out.drew HQ1.out.drew hg3 (by decide)) (by decide) (by decide) (by decide) (by decide)) (hK4.own _ _ _ (kq HOR.out.drew HQ1.out.drew hg3 (by decide)) (by decide) (by decide) (by decide) (by decide)))
    (first
      | (go_at_call 24; refine (dat24 q e tx _ HQ1.out.drew).mono ?_; rintro e3 w3 ⟨⟨l, rfl⟩, hq3, hg3⟩)
      | (go_at_call 8; refine (add10 none 0 0 ⟨#[]⟩ (some l) tx false 1 66 k mu he ms lo n v xs _ (LogSt.grown (LogSt.below HL1.out (below_drewN (Below.refl _ _) 1)) hg3 HQ1.out.drew) (by decide) (by decide) hn).mono ?_; rintro e4 w4 ⟨rfl, v4, hL4, hK4⟩))
  go_end0
  have HQd := HQ1.out.drew
  have hbw : Below w.heap.size w W := HB.out
  have hb2 : Below lo W w3 := ⟨hg3.os, hg3.tape, hg3.output, hg3.size, fun p hp => hg3.block p (Nat.lt_of_lt_of_le hp (Nat.le_trans HL.out.lw hbw.size)) (fun e => by injection e with e; omega)⟩
  have hk4 : Below lo w3 w4 := hK4.below
  refine ⟨rfl, v4, _, hL4, ⟨true, hK4.own _ _ _ hq3 (by decide) (by decide) (by decide) (by decide)⟩, (hbw.mono HL.out.lw).trans (hb2.trans hk4), fun p t cs ho h1 h2 h3 h4 h5 => ?_⟩
  exact hK4.own _ _ _ (kq (ho.below hbw ho.lt).drew HQd hg3 h5) h1 h2 h3 h4
end Go.Proofs.YtobpghjknciobadFmt.Lg
