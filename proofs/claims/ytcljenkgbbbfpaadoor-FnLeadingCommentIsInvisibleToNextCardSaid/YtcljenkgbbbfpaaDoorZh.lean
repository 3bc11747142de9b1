/-
  Proved: a comment that is not legal is eaten whole and counts its newlines. Conditions: those that each theorem names as its hypotheses, and no
  others.
-/
import Derived.Test.YtcljenkgbbbfpaaDoorZf
import Derived.Test.YtcljenkgbbbfpaaDoorZg
import Derived.Deep.DeepCutAuto
import Derived.Deep.CutBlock
import Derived.BigQuiet
namespace Go.Proofs.YtcljenkgbbbfpaaDoor.Zh
open Go.RowKit Go.PlainAid Str Mem De Lu Dw Cu Rws Za Zb Zc Zd Ze Zf Zg
set_option linter.unusedVariables false
set_option linter.unusedSimpArgs false
/-- A comment that ends at n + 2, and is no legal one. -/
structure Cm (s : ByteArray) (n : Nat) : Prop where
  sz : n + 2 ≤ s.size
  n2 : 2 ≤ n
  e0 : bt s n = 42
  e1 : bt s (n + 1) = 47
  fst : ∀ j, 2 ≤ j → j < n → ¬ (bt s j = 42 ∧ bt s (j + 1) = 47)
  leg : bt s 2 ≠ 33
  lic : ∀ k, k < (s.extract 0 (n + 2)).size → bt (s.extract 0 (n + 2)) k = 64 → Zg.preB ((s.extract 0 (n + 2)).extract (k + 1) (s.extract 0 (n + 2)).size) PRE = false ∧ Zg.preB ((s.extract 0 (n + 2)).extract (k + 1) (s.extract 0 (n + 2)).size) LIC = false
theorem cp_of {s : ByteArray} {k : Nat} (h : k < s.size) (ha : bt s k < 128) : cpOf s k = bt s k ∧ wdOf s k = 1 :=
  ⟨(cp_in h).1.trans (rd_asc h ha).1, (cp_in h).2.trans (rd_asc h ha).2⟩
theorem bt_of {s : ByteArray} {k : Nat} {c : Int} (h : cpOf s k = c) (h0 : 0 ≤ c) (h1 : c < 128) : k < s.size ∧ bt s k = c ∧ wdOf s k = 1 := by
  by_cases hl : k < s.size
  · rw [(cp_in hl).1] at h
    by_cases ha : bt s k < 128
    · rw [(rd_asc hl ha).1] at h; exact ⟨hl, h, (cp_of hl ha).2⟩
    · have := (rd_high hl (by omega)).1; omega
  · rw [(cp_out (by omega)).1] at h; omega
/-- A step inside the comment stays inside it. -/
theorem Cm.step {s : ByteArray} {n k : Nat} (h : Cm s n) (h2 : 2 ≤ k) (hk : k ≤ n) (hc : cpOf s k ≠ 42) : k + wdOf s k ≤ n ∧ 1 ≤ wdOf s k := by
  have hsz := h.sz
  have hl : k < s.size := by omega
  have h0 := h.e0
  have hkn : k ≠ n := fun e => by subst e; exact hc ((cp_of hl (by omega)).1.trans h0)
  rw [(cp_in hl).2]
  refine ⟨?_, rw_pos hl⟩
  rcases Nat.lt_or_ge n (k + rw' s k) with hh | hh
  · have := cont hl (n - k) (by omega) (by omega)
    rw [show k + (n - k) = n by omega] at this
    omega
  · exact hh
theorem Cm.star {s : ByteArray} {n k : Nat} (h : Cm s n) (h2 : 2 ≤ k) (hk : k ≤ n) (hc : cpOf s k = 42) : bt s k = 42 ∧ wdOf s k = 1 ∧ (cpOf s (k + 1) = 47 → k = n) ∧ (cpOf s (k + 1) ≠ 47 → k + 1 ≤ n) := by
  obtain ⟨a, b, c⟩ := bt_of hc (by decide) (by decide)
  refine ⟨b, c, fun e => ?_, fun e => ?_⟩
  · obtain ⟨_, d, _⟩ := bt_of e (by decide) (by decide)
    rcases Nat.lt_or_ge k n with x | x
    · exact absurd ⟨b, d⟩ (h.fst k h2 x)
    · omega
  · rcases Nat.lt_or_ge k n with x | x
    · exact x
    · have e2 : k = n := by omega
      subst e2
      have := h.sz
      have e1 := h.e1
      exact absurd ((cp_of (by omega) (by omega)).1.trans e1) e
def SMU : ByteArray := ⟨#[32, 115, 111, 117, 114, 99, 101, 77, 97, 112, 112, 105, 110, 103, 85, 82, 76, 61]⟩
/-- Where the mapping's text starts: nowhere, or behind the words. -/
def Sm (s : ByteArray) (n S : Nat) : Prop := S = 0 ∨ (S = 21 ∧ 21 ≤ n)
/-- The world has but drawn. -/
def Wv (W wx : World) : Prop := wx.heap = W.heap ∧ wx.os = W.os ∧ wx.tape = W.tape ∧ wx.output = W.output
theorem Wv.refl (W : World) : Wv W W := ⟨rfl, rfl, rfl, rfl⟩
theorem Wv.at_ {W wx : World} (h : Wv W wx) {g : Nat} {u : ByteArray} {r0 r1 : Int} {s : ByteArray} {q : Nat} {ts un kd fl : Int} (a : At g u r0 r1 s q ts un kd fl W) : At g u r0 r1 s q ts un kd fl wx := by
  unfold At Own at *
  rw [h.1]; exact a
theorem Wv.own {W wx : World} (h : Wv W wx) {b : Nat} {t : TypeId} {cs : Array Value} (a : Own W b t cs) : Own wx b t cs := by
  unfold Own at *
  rw [h.1]; exact a
theorem Wv.fr {W wx w : World} (h : Wv W wx) {g : Nat} (a : Fr g w W) : Fr g w wx :=
  ⟨h.2.1.trans a.os, h.2.2.1.trans a.tape, h.2.2.2.trans a.output, by rw [h.1]; exact a.size, fun b hb hne => by rw [h.1]; exact a.block b hb hne⟩
theorem At.map {g : Nat} {u : ByteArray} {r0 r1 : Int} {s : ByteArray} {q : Nat} {ts un kd fl : Int} {w : World} (h : At g u r0 r1 s q ts un kd fl w) (v : ByteArray) (x y : Int) : At g v x y s q ts un kd fl (((w.setCell ⟨g, 19, none⟩ (.string v)).setCell ⟨g, 20, none⟩ (.int .i32 x)).setCell ⟨g, 21, none⟩ (.int .i32 y)) := by
  have e := ((Own.set h 19 (.string v)).set 20 (.int .i32 x)).set 21 (.int .i32 y)
  rw [lz_map] at e
  exact e
theorem Wv.drew (W : World) : Wv W W.drew := ⟨rfl, rfl, rfl, rfl⟩
theorem SMU_ne : ∀ j, j < 18 → bt SMU j ≠ 42 := by decide
theorem Cm.smu {s : ByteArray} {n : Nat} (h : Cm s n) (h42 : bt s 2 ≠ 42) (hp : Zg.preB (s.extract 3 s.size) SMU = true) : 21 ≤ n := by
  unfold Zg.preB at hp
  rw [Bool.and_eq_true] at hp
  have h1 := of_decide_eq_true hp.1
  have h2 := of_decide_eq_true hp.2
  have e18 : SMU.size = 18 := rfl
  rw [size_extract, e18] at h1
  have hsz := h.sz
  have hb : ∀ j, j < 18 → bt s (3 + j) = bt SMU j := fun j hj => by
    have e1 := bt_extract (s.extract 3 s.size) 0 SMU.size j (by rw [e18]; omega)
    rw [h2, Nat.zero_add] at e1
    rw [e1]
    exact (bt_extract s 3 s.size j (by omega)).symm
  have e0 := h.e0
  have n2 := h.n2
  rcases Nat.lt_or_ge n 21 with a | a
  · by_cases e : n = 2
    · subst e; exact absurd e0 h42
    · have := hb (n - 3) (by omega)
      rw [show 3 + (n - 3) = n by omega, e0] at this
      exact absurd this.symm (SMU_ne (n - 3) (by omega))
  · exact a
theorem own_fr' {g b : Nat} {t : TypeId} {cs : Array Value} {w w' : World} (h : Own w b t cs) (hb : b ≠ g) (f : Fr g w w') : Own w' b t cs := (f.block b h.lt hb).trans h
theorem stepW {g : Nat} {u : ByteArray} {r0 r1 : Int} {s : ByteArray} {un kd fl : Int} {w : World} {k : Nat} {wx : World} (h : Wh g u r0 r1 s 0 un kd fl w k wx) (hg : 3 ≤ g) (hs : s.size ≤ 1048580) :
    Calls Tryd.prog 41 #[.pointer (some ⟨g, 0, none⟩)] wx fun e w' => e = .returned (.tuple #[]) ∧ Wh g u r0 r1 s 0 un kd fl w (k + wdOf s k) w' ∧ Fr g wx w' := by
  refine (stepZ g u r0 r1 s k 0 un kd fl _ h.at_ h.le h.tb h.hw hs (by decide) (by decide)).mono ?_
  rintro e w' ⟨rfl, a, f⟩
  exact ⟨rfl, ⟨a, Fr.trans h.fr f, (cp_rng s k h.le).2.2, tabs_fr h.tb hg h.hw f, Nat.le_trans h.hw f.size⟩, f⟩
theorem lt_alloc' (W : World) (o : Obj) : W.heap.size < (W.alloc o).heap.size := by rw [World.size_alloc]; exact Nat.lt_succ_self _
/-- The length kept in a range's block, read off the world. -/
def rdN (b : Nat) (w : World) : Nat := match w.cell? ⟨b, 1, none⟩ with
  | some (.int _ n) => n.toNat
  | _ => 0
theorem rdN_at {b : Nat} {w : World} {x : Value} {j : Nat} (h : Own w b 31 #[x, .int .i32 (j : Int)]) : rdN b w = j := by
  unfold rdN
  rw [h.cell 1]
  show ((j : Int)).toNat = j
  omega
theorem setR {b : Nat} {w : World} {x : Value} {j : Nat} (h : Own w b 31 #[x, .int .i32 (j : Int)]) : Own (w.setCell ⟨b, 1, none⟩ (.int .i32 ((j : Int) + 1))) b 31 #[x, .int .i32 ((j + 1 : Nat) : Int)] := Own.set h 1 (.int .i32 ((j : Int) + 1))
theorem setW {g b : Nat} {u : ByteArray} {r0 r1 : Int} {s : ByteArray} {un kd fl : Int} {w : World} {k : Nat} {wx : World} (h : Wh g u r0 r1 s 0 un kd fl w k wx) (hb : g ≠ b) (i : Nat) (v : Value) (hf : w.heap.size ≤ b) (h3 : 3 ≤ b) : Wh g u r0 r1 s 0 un kd fl w k (wx.setCell ⟨b, i, none⟩ v) :=
  ⟨Own.far h.at_ hb v, ⟨h.fr.os, h.fr.tape, h.fr.output, by rw [World.size_setCell]; exact h.fr.size, fun c hc hne => (Below.heap_setCell wx ⟨b, i, none⟩ v c (by show c ≠ b; omega)).trans (h.fr.block c hc hne)⟩, h.le,
    tabs_of h.tb (B := 3) (by omega) ⟨rfl, rfl, rfl, by rw [World.size_setCell]; exact Nat.le_refl _, fun c hc => Below.heap_setCell wx ⟨b, i, none⟩ v c (by show c ≠ b; omega)⟩, by rw [World.size_setCell]; exact h.hw⟩
theorem mapW {g : Nat} {u : ByteArray} {r0 r1 : Int} {s : ByteArray} {un kd fl : Int} {w : World} {k : Nat} {wx : World} (h : Wh g u r0 r1 s 0 un kd fl w k wx) (hg : 3 ≤ g) (v : ByteArray) (x y : Int) : Wh g v x y s 0 un kd fl w k (((wx.setCell ⟨g, 19, none⟩ (.string v)).setCell ⟨g, 20, none⟩ (.int .i32 x)).setCell ⟨g, 21, none⟩ (.int .i32 y)).drew :=
  have f0 := (((Fr.refl g wx).setc 19 (.string v)).setc 20 (.int .i32 x)).setc 21 (.int .i32 y)
  have f : Fr g wx (((wx.setCell ⟨g, 19, none⟩ (.string v)).setCell ⟨g, 20, none⟩ (.int .i32 x)).setCell ⟨g, 21, none⟩ (.int .i32 y)).drew := ⟨f0.os, f0.tape, f0.output, f0.size, f0.block⟩
  ⟨At.map h.at_ v x y, Fr.trans h.fr f, h.le, tabs_fr h.tb hg h.hw f, Nat.le_trans h.hw f.size⟩
def Commented (g : Nat) (s : ByteArray) (n : Nat) (un kd fl : Int) (w : World) (e : Ending) (w' : World) : Prop :=
  e = .returned (.tuple #[]) ∧ ∃ u r0 r1, At g u r0 r1 s (n + 2) 0 un kd fl w' ∧ Fr g w w'
set_option maxRecDepth 100000 in
set_option maxHeartbeats 32000000 in
theorem com64 (g : Nat) (u : ByteArray) (r0 r1 : Int) (s : ByteArray) (n : Nat) (un kd fl : Int) (w : World) (h : At g u r0 r1 s 2 0 un kd fl w) (hC : Cm s n) (hT : Lib.Utf8Tabs 1 2 w) (hg : 3 ≤ g) (hw : 3 ≤ w.heap.size) (hs : s.size ≤ 1048580) :
    Calls Tryd.prog 64 #[.pointer (some ⟨g, 0, none⟩), .agg #[.int .i32 0, .int .i32 2]] w (Commented g s n un kd fl w) := by
  have HC := Lib.hid hC
  have HA := Lib.hid h
  have HT := Lib.hid hT
  have hcl := h.cl
  have c35 := hcl.c35
  have c10 := hcl.c10
  have c33 := hcl.c33
  have hgl := h.lt
  clear h hC hT hcl
  go_enter Tryd.func64, Tryd.ntmps64
  go_upto_block 0 with fail
  generalize hW : w.alloc _ = W
  have hbW : Below w.heap.size w W := by rw [← hW]; exact (Below.refl _ _).alloc (Nat.le_refl _) _
  have hO : Own W w.heap.size 31 #[.int .i32 0, .int .i32 2] := by rw [← hW]; exact Own.new _ _ _
  have HO := Lib.hid hO
  have HA1 := Lib.hid (HA.out.below hbW)
  have HF1 : Hid (Fr g w W) := Lib.hid ((Fr.refl g w).bel hbW)
  have c35 := HA1.out.cl.c35
  have c10 := HA1.out.cl.c10
  have c33 := HA1.out.cl.c33
  have hgl1 := HA1.out.lt
  have hgw := HA.out.lt
  clear hW hbW hO HA
  have hw0 : 3 ≤ w.heap.size := hw
  obtain ⟨bx, hbx⟩ : ∃ b, b = w.heap.size := ⟨_, rfl⟩
  rw [← hbx] at HO ⊢
  have hbg : bx ≠ g := by omega
  clear hbx
  go_cut [4, 5] (fun x y wx => y = .bool false ∧ ∃ S : Nat, x = .int .i64 (S : Int) ∧ Hid (Sm s n S ∧ Wv W wx))
  case first =>
    have tri : cpOf s 2 = 35 ∨ cpOf s 2 = 64 ∨ (cpOf s 2 ≠ 35 ∧ cpOf s 2 ≠ 64) := by omega
    rcases tri with a | a | ⟨a, b⟩
    · -- the code point 35
      have HW2 := Lib.hid (bt_of a (by decide) (by decide)).2.2
      have HB2 : Hid (bt s 2 ≠ 42) := Lib.hid (by have := (bt_of a (by decide) (by decide)).2.1; omega)
      rw [HW2.out] at c33
      have z0 : (cpOf s 2 == 35) = true := beq_iff_eq.2 a
      have i3 : (3 : Int) ≤ (s.size : Int) := by have := HC.out.sz; have := HC.out.n2; omega
      clear a
      go_wp2_with fail
      go_region_held3 (fun V => V.cell? ⟨g, 10, none⟩ = some (.string s) ∧ V.cell? ⟨g, 33, none⟩ = some (.int .i64 3) ∧ Below W.heap.size W V)
        (first | exact ⟨c10, c33, below_drew (Below.refl _ _)⟩ | assumption)
        (first | (go_at_call 87; refine (prefix87 _ SMU _ (by rw [size_extract]; unfold maxLen; omega) (by unfold maxLen; decide)).mono ?_; rintro e w1 ⟨rfl, rfl⟩))
      cases hp : Zg.preB (s.extract 3 s.size) SMU
      · clear hp
        go_wp2_with fail
        go_meet
        exact ⟨rfl, 0, rfl, Lib.hid ⟨Or.inl rfl, Wv.drew _⟩⟩
      · have HS := Lib.hid (HC.out.smu HB2.out hp)
        clear hp
        go_wp2_with fail
        go_meet
        exact ⟨rfl, 21, rfl, Lib.hid ⟨Or.inr ⟨rfl, HS.out⟩, Wv.drew _⟩⟩
    · -- the code point 64
      have HW2 := Lib.hid (bt_of a (by decide) (by decide)).2.2
      have HB2 : Hid (bt s 2 ≠ 42) := Lib.hid (by have := (bt_of a (by decide) (by decide)).2.1; omega)
      rw [HW2.out] at c33
      have z0 : (cpOf s 2 == 35) = false := beq_eq_false_iff_ne.2 (by omega)
      have z1 : (cpOf s 2 == 64) = true := beq_iff_eq.2 a
      have i3 : (3 : Int) ≤ (s.size : Int) := by have := HC.out.sz; have := HC.out.n2; omega
      clear a
      go_wp2_with fail
      go_region_held3 (fun V => V.cell? ⟨g, 10, none⟩ = some (.string s) ∧ V.cell? ⟨g, 33, none⟩ = some (.int .i64 3) ∧ Below W.heap.size W V)
        (first | exact ⟨c10, c33, below_drew (Below.refl _ _)⟩ | assumption)
        (first | (go_at_call 87; refine (prefix87 _ SMU _ (by rw [size_extract]; unfold maxLen; omega) (by unfold maxLen; decide)).mono ?_; rintro e w1 ⟨rfl, rfl⟩))
      cases hp : Zg.preB (s.extract 3 s.size) SMU
      · clear hp
        go_wp2_with fail
        go_meet
        exact ⟨rfl, 0, rfl, Lib.hid ⟨Or.inl rfl, Wv.drew _⟩⟩
      · have HS := Lib.hid (HC.out.smu HB2.out hp)
        clear hp
        go_wp2_with fail
        go_meet
        exact ⟨rfl, 21, rfl, Lib.hid ⟨Or.inr ⟨rfl, HS.out⟩, Wv.drew _⟩⟩
    · have z0 : (cpOf s 2 == 35) = false := beq_eq_false_iff_ne.2 a
      have z1 : (cpOf s 2 == 64) = false := beq_eq_false_iff_ne.2 b
      have z2 : (cpOf s 2 == 33) = false := beq_eq_false_iff_ne.2 (fun e => HC.out.leg (bt_of e (by decide) (by decide)).2.1)
      clear a b
      go_wp2_with fail
      go_meet
      exact ⟨rfl, 0, rfl, Lib.hid ⟨Or.inl rfl, Wv.refl _⟩⟩
  case rest =>
    obtain ⟨rfl, S, rfl, hSW⟩ := hcut
    have HS := Lib.hid hSW.out.1
    have HV := hSW.out.2
    have HX : Hid (Wh g u r0 r1 s 0 un kd fl w 2 wc) := Lib.hid ⟨HV.at_ HA1.out, HV.fr HF1.out, by have := HC.out.sz; omega, tabs_fr HT.out hg hw0 (HV.fr HF1.out), Nat.le_trans hw0 (HV.fr HF1.out).size⟩
    have HOX := Lib.hid (HV.own HO.out)
    clear hSW HV HA1 HF1 HO c35 c10 c33 HT
    go_wp2_with fail
    go_loopw [] (fun wr => ∃ k, Hid (2 ≤ k ∧ k ≤ n ∧ Wh g u r0 r1 s 0 un kd fl w k wr ∧ Own wr bx 31 #[.int .i32 0, .int .i32 2])) (fun wr => s.size - tlOf g wr)
    case atStart => exact ⟨2, Lib.hid ⟨Nat.le_refl _, HC.out.n2, HX.out, HOX.out⟩⟩
    case round =>
      clear HX HOX
      obtain ⟨k, HKK⟩ := hrel
      obtain ⟨wi, rfl⟩ : ∃ wi : World, wi = wr := ⟨_, rfl⟩
      have HK := Lib.hid HKK.out.2.2.1
      have HO := Lib.hid HKK.out.2.2.2
      have HR := Lib.hid (And.intro HKK.out.1 HKK.out.2.1)
      have hcl := HK.out.at_.cl
      have c35 := hcl.c35
      have c33 := hcl.c33
      have HM := Lib.hid (tl_at (ts := 0) HK.out.at_)
      have HBI := Lib.hid (show bx < wi.heap.size from HO.out.lt)
      clear HKK hcl
      by_cases c42 : cpOf s k = 42
      · have hst := HC.out.star HR.out.1 HR.out.2 c42
        have t42 : (cpOf s k == 42) = true := beq_iff_eq.2 c42
        have HST := Lib.hid hst
        rw [hst.2.1] at c33
        clear c42 hst
        go_wp2_with fail
        refine (stepW HK.out hg hs).mono ?_
        rintro e w1 ⟨rfl, h1, hf1⟩
        rw [HST.out.2.1] at h1
        have HO1 := Lib.hid (own_fr' HO.out hbg hf1)
        have H1 := Lib.hid h1
        have c35b := h1.at_.cl.c35
        have c33b := h1.at_.cl.c33
        have HM1 := Lib.hid (tl_at (ts := 0) h1.at_)
        clear h1 c35 c33 HK HO
        by_cases c47 : cpOf s (k + 1) = 47
        · have hkn := HST.out.2.2.1 c47
          subst hkn
          have t47 : (cpOf s (k + 1) == 47) = true := beq_iff_eq.2 c47
          have w47 := (bt_of c47 (by decide) (by decide)).2.2
          rw [w47] at c33b
          have HW47 := Lib.hid w47
          obtain ⟨m, hm⟩ : ∃ m, k + 1 + 1 = m := ⟨_, rfl⟩
          rw [hm] at c33b
          have HMM := Lib.hid hm
          have hwk : wrap64 (k : Int) = (k : Int) := by unfold wrap64; have := HC.out.sz; omega
          clear c47 w47 hf1 hm
          go_wp2_with fail
          refine (stepW H1.out hg hs).mono ?_
          rintro e w2 ⟨rfl, h2, hf2⟩
          rw [HW47.out, HMM.out] at h2
          have HO2 := Lib.hid (own_fr' HO1.out hbg hf2)
          have H2 := Lib.hid h2
          clear h2 hf2 HO1 H1 c35b c33b HM HM1 t42 t47 HBI HST
          go_upto_if 64 with fail
          go_cut [] (fun wx => ∃ u' r0' r1', Hid (Wh g u' r0' r1' s 0 un kd fl w m wx ∧ Own wx bx 31 #[.int .i32 0, .int .i32 2]))
          case first =>
            rcases HS.out with rfl | ⟨rfl, h21⟩
            · clear HS
              go_wp2_with fail
              go_meet
              exact ⟨u, r0, r1, Lib.hid ⟨H2.out, HO2.out⟩⟩
            · clear HS
              have hcl := H2.out.at_.cl
              have i0 : (0 : Int) ≤ 21 := by decide
              have i1 : (21 : Int) ≤ (k : Int) := by omega
              have i2 : (k : Int) ≤ (s.size : Int) := by have := HC.out.sz; omega
              have k10 : ∀ x, (w2.alloc x).cell? ⟨g, 10, none⟩ = some (.string s) := fun x => (At.cl (At.below H2.out.at_ ((Below.refl _ _).alloc (Nat.le_refl _) x))).c10
              clear hcl
              go_wp2_with fail
              generalize hW4 : World.alloc _ _ = w4
              have hb4 : Below w2.heap.size w2 w4 := by rw [← hW4]; exact (Below.refl _ _).alloc (Nat.le_refl _) _
              have hO4 : Own w4 w2.heap.size 31 #[.int .i32 21, .int .i32 0] := by rw [← hW4]; exact Own.new _ _ _
              have H4 : Hid (Wh g u r0 r1 s 0 un kd fl w m w4) := Lib.hid ⟨At.below H2.out.at_ hb4, H2.out.fr.bel hb4, H2.out.le, tabs_below H2.out.tb H2.out.hw hb4, Nat.le_trans H2.out.hw hb4.size⟩
              have HO4 := Lib.hid (HO2.out.below hb4 HO2.out.lt)
              have hgr : g < w2.heap.size := H2.out.at_.lt
              have hfr : w.heap.size ≤ w2.heap.size := H2.out.fr.size
              have hbr : bx < w2.heap.size := HO2.out.lt
              have HR4 := Lib.hid hO4
              clear hW4 hb4 hO4 k10
              generalize hR : w2.heap.size = bR at *
              have hne1 : g ≠ bR := by omega
              have hne2 : bx ≠ bR := by omega
              have hfb : w.heap.size ≤ bR := by omega
              have h3b : 3 ≤ bR := by omega
              have hTs : (s.extract 21 k).size ≤ 2000000 := by rw [size_extract]; omega
              clear H2 HO2
              generalize s.extract 21 k = T at *
              have hgb := get_bt T
              go_loopw [] (fun wr => ∃ j : Nat, Hid (j ≤ T.size ∧ Wh g u r0 r1 s 0 un kd fl w m wr ∧ Own wr bx 31 #[.int .i32 0, .int .i32 2] ∧ Own wr bR 31 #[.int .i32 21, .int .i32 (j : Int)])) (fun wr => T.size - rdN bR wr)
              case atStart => exact ⟨0, Lib.hid ⟨Nat.zero_le _, H4.out, HO4.out, HR4.out⟩⟩
              case round =>
                clear H4 HO4 HR4
                obtain ⟨j, HJ⟩ := hrel
                obtain ⟨wj, rfl⟩ : ∃ x : World, x = wr := ⟨_, rfl⟩
                have HJ1 := Lib.hid HJ.out.1
                have HJ2 := Lib.hid HJ.out.2.1
                have HJ3 := Lib.hid HJ.out.2.2.1
                have HJ4 := Lib.hid HJ.out.2.2.2
                have HRN := Lib.hid (rdN_at HJ4.out)
                have q0 : wj.cell? ⟨bR, 0, none⟩ = some (.int .i32 21) := (HJ4.out.cell 0).trans rfl
                have q1 : wj.cell? ⟨bR, 1, none⟩ = some (.int .i32 (j : Int)) := (HJ4.out.cell 1).trans rfl
                have qf : ∀ i, wj.frozen? ⟨bR, i, none⟩ = false := HJ4.out.frozen
                have p0 : (0 : Int) ≤ (j : Int) := by omega
                have p1 : (j : Int) ≤ 2000000 := by have := HJ1.out; omega
                clear HJ
                by_cases hlt : j < T.size
                · have y1 : (j : Int) < (T.size : Int) := by omega
                  have y2 : decide ((j : Int) < (T.size : Int)) = true := decide_eq_true y1
                  have HLT := Lib.hid hlt
                  clear hlt
                  have hb0 := bt_nonneg T j
                  have hb1 := bt_le T j
                  cases hws : wsB (bt T j)
                  · have HWS := Lib.hid hws
                    clear hws
                    go_wp2_with fail
                    refine (isWs (bt T j) _).mono ?_
                    rintro e w9 ⟨rfl, rfl⟩
                    rw [HWS.out]
                    go_wp2_with fail
                    go_roundw
                    case rel => exact ⟨_, _, _, _, _, _, _, _, _, _, _, _, _, _, _, _, _, _, _, ⟨j + 1, Lib.hid ⟨HLT.out, setW HJ2.out hne1 1 _ hfb h3b, Own.far (p := ⟨bR, 1, none⟩) HJ3.out hne2 _, setR HJ4.out⟩⟩, rfl⟩
                    case measure => rw [HRN.out, rdN_at (setR HJ4.out)]; have := HLT.out; omega
                  · have HWS := Lib.hid hws
                    clear hws
                    go_wp2_with fail
                    refine (isWs (bt T j) _).mono ?_
                    rintro e w9 ⟨rfl, rfl⟩
                    rw [HWS.out]
                    clear y2 HWS
                    go_wp2_with fail
                    have hcg := HJ2.out.at_.cl
                    have c19 := hcg.c19
                    have c20 := hcg.c20
                    have c21 := hcg.c21
                    have cfz := hcg.fz
                    have hq0 := HJ1.out
                    clear hcg
                    go_region
                    have HG := Lib.hid (mapW HJ2.out hg (T.extract 0 j) 21 (j : Int))
                    have HGO : Hid (Own _ bx 31 #[.int .i32 0, .int .i32 2]) := Lib.hid (((HJ3.out.far (p := ⟨g, 19, none⟩) hbg (.string (T.extract 0 j))).far (p := ⟨g, 20, none⟩) hbg (.int .i32 21)).far (p := ⟨g, 21, none⟩) hbg (.int .i32 (j : Int)))
                    clear c19 c20 c21 cfz q0 q1 qf
                    go_wp2_with fail
                    go_meet
                    exact ⟨_, _, _, Lib.hid ⟨HG.out, HGO.out⟩⟩
                · have y1 : ¬ ((j : Int) < (T.size : Int)) := by omega
                  have y2 : decide ((j : Int) < (T.size : Int)) = false := decide_eq_false y1
                  clear hlt
                  go_wp2_with fail
                  clear y2
                  have hcg := HJ2.out.at_.cl
                  have c19 := hcg.c19
                  have c20 := hcg.c20
                  have c21 := hcg.c21
                  have cfz := hcg.fz
                  have hq0 := HJ1.out
                  clear hcg
                  go_region
                  have HG := Lib.hid (mapW HJ2.out hg (T.extract 0 j) 21 (j : Int))
                  have HGO : Hid (Own _ bx 31 #[.int .i32 0, .int .i32 2]) := Lib.hid (((HJ3.out.far (p := ⟨g, 19, none⟩) hbg (.string (T.extract 0 j))).far (p := ⟨g, 20, none⟩) hbg (.int .i32 21)).far (p := ⟨g, 21, none⟩) hbg (.int .i32 (j : Int)))
                  clear c19 c20 c21 cfz q0 q1 qf
                  go_wp2_with fail
                  go_meet
                  exact ⟨_, _, _, Lib.hid ⟨HG.out, HGO.out⟩⟩
          case rest =>
            obtain ⟨u', r0', r1', HT2⟩ := hcut
            obtain ⟨w3, hw3⟩ : ∃ x : World, x = wc := ⟨_, rfl⟩
            subst hw3
            have H3 := Lib.hid HT2.out.1
            have HO3 := Lib.hid HT2.out.2
            have hcl := H3.out.at_.cl
            have c0 := hcl.c0
            have c10 := hcl.c10
            have b0 : w3.cell? ⟨bx, 0, none⟩ = some (.int .i32 0) := (HO3.out.cell 0).trans rfl
            have b1 : w3.cell? ⟨bx, 1, none⟩ = some (.int .i32 2) := (HO3.out.cell 1).trans rfl
            have k0 : ∀ x, (w3.alloc x).cell? ⟨bx, 0, none⟩ = some (.int .i32 0) := fun x => ((HO3.out.alloc x).cell 0).trans rfl
            have k10 : ∀ x, (w3.alloc x).cell? ⟨g, 10, none⟩ = some (.string s) := fun x => (At.cl (At.below H3.out.at_ ((Below.refl _ _).alloc (Nat.le_refl _) x))).c10
            have kc0 : ∀ x, (w3.alloc x).cell? ⟨g, 0, none⟩ = some (.bool false) := fun x => (At.cl (At.below H3.out.at_ ((Below.refl _ _).alloc (Nat.le_refl _) x))).c0
            have j0 : (0 : Int) ≤ (m : Int) := by omega
            have j1 : (m : Int) ≤ (s.size : Int) := by have := HC.out.sz; have := HMM.out; omega
            have j2 : (m : Int) ≤ 2000000 := by omega
            have HM2 : Hid (m = k + 2) := Lib.hid (by have := HMM.out; omega)
            have HLC := Lib.hid HC.out.lic
            have hsz : (s.extract 0 (k + 2)).size ≤ 2000000 := by rw [size_extract]; omega
            rw [← HM2.out] at hsz
            have HLC2 : Hid (∀ j, j < (s.extract 0 m).size → bt (s.extract 0 m) j = 64 → Zg.preB ((s.extract 0 m).extract (j + 1) (s.extract 0 m).size) PRE = false ∧ Zg.preB ((s.extract 0 m).extract (j + 1) (s.extract 0 m).size) LIC = false) := Lib.hid (by rw [HM2.out]; exact HLC.out)
            clear hcl HT2 hwk HLC
            go_wp2_with fail
            go_quiet (fail)
            go_wp2_with fail
            refine (lic88 (s.extract 0 m) hsz HLC2.out _).mono ?_
            rintro e w5 ⟨rfl, hb5⟩
            have hb6 : Below w3.heap.size w3 w5 := (Mem.below_drewN ((Below.refl w3.heap.size w3).alloc (Nat.le_refl _) _) nq).trans (hb5.mono (Nat.le_of_lt (lt_alloc' w3 _)))
            have H5 := Lib.hid (At.below H3.out.at_ hb6)
            have HF5 := Lib.hid (H3.out.fr.bel hb6)
            clear hb5 hb6 b0 b1 k0 k10 kc0 c0 c10
            go_wp2_with fail
            go_end0
            refine ⟨rfl, u', r0', r1', ?_, HF5.out⟩
            rw [← HM2.out]
            exact H5.out
        · have t47 : (cpOf s (k + 1) == 47) = false := beq_eq_false_iff_ne.2 c47
          have HK1 := Lib.hid (HST.out.2.2.2 c47)
          clear c47
          go_wp2_with fail
          go_roundw
          case rel => exact ⟨k + 1, Lib.hid ⟨by have := HR.out; omega, HK1.out, H1.out, HO1.out⟩⟩
          case measure => rw [HM.out, HM1.out]; have := HK1.out; have := HC.out.sz; omega
      · have hst := HC.out.step HR.out.1 HR.out.2 c42
        have t42 : (cpOf s k == 42) = false := beq_eq_false_iff_ne.2 c42
        have tm1 : (cpOf s k == -1) = false := beq_eq_false_iff_ne.2 (by have := HC.out.sz; have := HR.out.2; have h9 := (cp_in (s := s) (q := k) (by omega)).1; have h8 := (Ce.rc_valid s k).1; omega)
        have HST := Lib.hid hst
        clear c42 hst
        go_wp2_with fail
        refine (stepW HK.out hg hs).mono ?_
        rintro e w1 ⟨rfl, h1, hf1⟩
        have HO1 := Lib.hid (own_fr' HO.out hbg hf1)
        have H1 := Lib.hid h1
        have HM1 := Lib.hid (tl_at (ts := 0) h1.at_)
        clear h1
        go_wp2_with fail
        go_roundw
        case rel => exact ⟨_, Lib.hid ⟨by have := HR.out; omega, HST.out.1, H1.out, HO1.out⟩⟩
        case measure => rw [HM.out, HM1.out]; have := HST.out; have := HR.out; have := HC.out.sz; omega
end Go.Proofs.YtcljenkgbbbfpaaDoor.Zh
