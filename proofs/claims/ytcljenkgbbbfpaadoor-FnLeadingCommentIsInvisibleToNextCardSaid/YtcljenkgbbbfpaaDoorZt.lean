/-
  Proved: next at any place, the comment as a whole, and the state at the head of the law's loop. Conditions: those that each theorem names as its
  hypotheses, and no others.
-/
import Derived.Test.YtcljenkgbbbfpaaDoorZm
import Derived.Test.YtcljenkgbbbfpaaDoorZn
import Derived.Test.YtcljenkgbbbfpaaDoorZo
import Derived.Test.YtcljenkgbbbfpaaDoorZp
import Derived.Test.YtcljenkgbbbfpaaDoorZq
import Derived.Test.YtcljenkgbbbfpaaDoorZs
import Derived.Test.YtcljenkgbbbfpaaDoorZj
namespace Go.Proofs.YtcljenkgbbbfpaaDoor.Zt
open Go.RowKit Go.PlainAid Str Mem De Lu Dw Cu Rws Za Zb Zc Zd Ze Zf Zg Zh Zk Zl Zm Zn Zo Zp Zq Zs
set_option linter.unusedVariables false
set_option linter.unusedSimpArgs false
/-- The characters that a class of its own serves. -/
def SPC : List Int := [125, 93, 41, 58, 44, 59, 40, 91, 123, 62, 126, 38, 42, 124, 33, 61, 94, 36]
theorem quote_no {s : ByteArray} {q : Nat} (h : ∀ j, q ≤ j → bt s j ≠ 34 ∧ bt s j ≠ 39) : cpOf s q ≠ 34 ∧ cpOf s q ≠ 39 :=
  ⟨fun e => (h q (Nat.le_refl _)).1 (bt_of e (by decide) (by decide)).2.1, fun e => (h q (Nat.le_refl _)).2 (bt_of e (by decide) (by decide)).2.1⟩
theorem spc_ns : ∀ c ∈ SPC, nsB c = false := by decide
/-- next: the token that begins at q. -/
theorem next51 (g : Nat) (s : ByteArray) (q : Nat) (w wx : World) (hP : Pc g s q w wx) (hq2 : ∀ j, q ≤ j → bt s j ≠ 34 ∧ bt s j ≠ 39) :
    Calls Tryd.prog 51 #[.pointer (some ⟨g, 0, none⟩)] wx (Nxt g s q (tok s q) w) := by
  obtain ⟨n34, n39⟩ := quote_no hq2
  have n92 : cpOf s q ≠ 92 := cp_nob hP.nb (Nat.le_refl q)
  have n47 : cpOf s q ≠ 47 := fun e => hP.ns q (Nat.le_refl q) (bt_of e (by decide) (by decide)).2.1
  by_cases e : cpOf s q = -1
  · have := nxE g s q w wx hP e
    rwa [show Zk.tok s q = (q, 0, 0, 0) by unfold Zk.tok; rw [if_pos e]]
  by_cases ew : wsB (cpOf s q) = true
  · have := nxW g s q w wx hP ew
    rwa [show Zk.tok s q = (wse s (q + wdOf s q), 0, 38, 0) by unfold Zk.tok; rw [if_neg e, if_pos ew]]
  by_cases e35 : cpOf s q = 35
  · have := nx35 g s q w wx hP e35
    rwa [show Zk.tok s q = hsh s (q + wdOf s q) by unfold Zk.tok; rw [if_neg e, if_neg ew, if_pos e35]]
  by_cases e64 : cpOf s q = 64
  · have := nx64 g s q w wx hP e64
    rwa [show Zk.tok s q = atk s (q + wdOf s q) by unfold Zk.tok; rw [if_neg e, if_neg ew, if_neg e35, if_pos e64]]
  by_cases e43 : cpOf s q = 43
  · have := nx43 g s q w wx hP e43
    rwa [show Zk.tok s q = plus s q 23 by unfold Zk.tok; rw [if_neg e, if_neg ew, if_neg e35, if_neg e64, if_pos e43]]
  by_cases e46 : cpOf s q = 46
  · have := nx46 g s q w wx hP e46
    rwa [show Zk.tok s q = plus s q 17 by unfold Zk.tok; rw [if_neg e, if_neg ew, if_neg e35, if_neg e64, if_neg e43, if_pos e46]]
  by_cases e45 : cpOf s q = 45
  · have := nx45 g s q w wx hP e45
    rwa [show Zk.tok s q = mns s q by unfold Zk.tok; rw [if_neg e, if_neg ew, if_neg e35, if_neg e64, if_neg e43, if_neg e46, if_pos e45]]
  by_cases e60 : cpOf s q = 60
  · have := nx60 g s q w wx hP e60
    rwa [show Zk.tok s q = les s q by unfold Zk.tok; rw [if_neg e, if_neg ew, if_neg e35, if_neg e64, if_neg e43, if_neg e46, if_neg e45, if_pos e60]]
  by_cases ed : dgB (cpOf s q) = true
  · have := nxD g s q w wx hP ed
    rwa [show Zk.tok s q = nmt s q by unfold Zk.tok; rw [if_neg e, if_neg ew, if_neg e35, if_neg e64, if_neg e43, if_neg e46, if_neg e45, if_neg e60, if_pos ed]]
  have hd0 : ¬ (48 ≤ cpOf s q ∧ cpOf s q ≤ 57) := fun h => ed (decide_eq_true h)
  have hw0 : cpOf s q ≠ 32 ∧ cpOf s q ≠ 9 ∧ cpOf s q ≠ 10 ∧ cpOf s q ≠ 13 ∧ cpOf s q ≠ 12 := by
    refine ⟨?_, ?_, ?_, ?_, ?_⟩ <;> (intro h; apply ew; rw [h]; rfl)
  have ht : Zk.tok s q = if nsB (cpOf s q) = true then idt s q else (q + wdOf s q, 0, sk (cpOf s q), 0) := by unfold Zk.tok; rw [if_neg e, if_neg ew, if_neg e35, if_neg e64, if_neg e43, if_neg e46, if_neg e45, if_neg e60, if_neg ed]
  rw [ht]
  clear ht
  have hlist : (∀ c ∈ SPC, cpOf s q ≠ c) → ∀ c ∈ ([-1, 47, 32, 9, 10, 13, 12, 34, 39, 35, 40, 41, 91, 93, 123, 125, 44, 58, 59, 43, 46, 45, 60, 64, 92, 48, 49, 50, 51, 52, 53, 54, 55, 56, 57, 62, 126, 38, 42, 124, 33, 61, 94, 36] : List Int), cpOf s q ≠ c := by
    intro h c hc
    by_cases hs : c ∈ SPC
    · exact h c hs
    · intro hE
      rw [← hE] at hc hs
      simp [SPC] at hc hs
      omega
  by_cases hs : ∀ c ∈ SPC, cpOf s q ≠ c
  · have hl := hlist hs
    clear hlist
    cases hn : nsB (cpOf s q)
    · have hk : sk (cpOf s q) = 11 := by
        have h9 : ∀ c, c ∈ SPC → ¬ (cpOf s q = c) := fun c hc => hs c hc
        unfold sk
        rw [if_neg (h9 125 (by decide)), if_neg (h9 93 (by decide)), if_neg (h9 41 (by decide)), if_neg (h9 58 (by decide)), if_neg (h9 44 (by decide)), if_neg (h9 38 (by decide)), if_neg (h9 42 (by decide)), if_neg (h9 124 (by decide)), if_neg (h9 94 (by decide)), if_neg (h9 36 (by decide)), if_neg (h9 61 (by decide)), if_neg (h9 33 (by decide)), if_neg (h9 62 (by decide)), if_neg (h9 126 (by decide)), if_neg (h9 123 (by decide)), if_neg (h9 91 (by decide)), if_neg (h9 40 (by decide)), if_neg (h9 59 (by decide))]
      rw [if_neg (by decide), hk]
      exact nxO g s q w wx hn hP hl
    · rw [if_pos rfl]
      exact nxI g s q w wx hn hP hl
  · obtain ⟨c, hc, hE⟩ : ∃ c, c ∈ SPC ∧ cpOf s q = c := by
      refine Classical.byContradiction fun h => hs fun c hc hE => h ⟨c, hc, hE⟩
    have hns : nsB (cpOf s q) = false := by
      rw [hE]
      exact spc_ns c hc
    rw [hns, if_neg (by decide)]
    have h3 : (c = 125 ∨ c = 93 ∨ c = 41 ∨ c = 44 ∨ c = 58 ∨ c = 59) ∨ (c = 40 ∨ c = 91 ∨ c = 123 ∨ c = 62 ∨ c = 126 ∨ c = 38) ∨ (c = 42 ∨ c = 124 ∨ c = 33 ∨ c = 61 ∨ c = 94 ∨ c = 36) := by
      simp [SPC] at hc
      omega
    rw [← hE] at h3
    rcases h3 with h | h | h
    · exact nxS1 g s q w wx hP h
    · exact nxS2 g s q w wx hP h
    · exact nxS3 g s q w wx hP h
/-- The text of the law: a comment, and the tail. -/
def OPN : ByteArray := ⟨#[47, 42]⟩
def CLS : ByteArray := ⟨#[42, 47]⟩
def cmt (b t : ByteArray) : ByteArray := OPN ++ b ++ CLS ++ t
theorem cmt_sh (b t : ByteArray) : Sh (cmt b t) t (b.size + 4) := by
  have h := Sh.mk' (OPN ++ b ++ CLS) t
  have e : (OPN ++ b ++ CLS).size = b.size + 4 := by
    rw [size_append, size_append, show OPN.size = 2 from rfl, show CLS.size = 2 from rfl]; omega
  rw [e] at h
  exact h
theorem cmt_body (b t : ByteArray) (i : Nat) (h : i < b.size) : bt (cmt b t) (2 + i) = bt b i := by
  unfold cmt
  rw [bt_append_left _ _ _ (by rw [size_append, size_append, show OPN.size = 2 from rfl]; omega), bt_append_left _ _ _ (by rw [size_append, show OPN.size = 2 from rfl]; omega), bt_append_right _ _ _ (by rw [show OPN.size = 2 from rfl]; omega), show OPN.size = 2 from rfl, Nat.add_sub_cancel_left]
theorem cmt_open (b t : ByteArray) (i : Nat) (h : i < 2) : bt (cmt b t) i = bt OPN i := by
  unfold cmt
  rw [bt_append_left _ _ _ (by rw [size_append, size_append, show OPN.size = 2 from rfl]; omega), bt_append_left _ _ _ (by rw [size_append, show OPN.size = 2 from rfl]; omega), bt_append_left _ _ _ (by rw [show OPN.size = 2 from rfl]; omega)]
theorem cmt_close (b t : ByteArray) (i : Nat) (h : i < 2) : bt (cmt b t) (b.size + 2 + i) = bt CLS i := by
  unfold cmt
  rw [bt_append_left _ _ _ (by rw [size_append, size_append, show OPN.size = 2 from rfl, show CLS.size = 2 from rfl]; omega), bt_append_right _ _ _ (by rw [size_append, show OPN.size = 2 from rfl]; omega), size_append, show OPN.size = 2 from rfl, show b.size + 2 + i - (2 + b.size) = i by omega]
/-- A word that begins with @ and holds no star does not lie in the comment if it does not lie in the body. -/
theorem word_no {b t p : ByteArray} (hf : Free b p) (hp : 1 ≤ p.size) (h64 : bt p 0 = 64) (hst : ∀ j, j < p.size → bt p j ≠ 42) (k : Nat) (hk : k + p.size ≤ b.size + 4) : ∃ j, j < p.size ∧ bt (cmt b t) (k + j) ≠ bt p j := by
  refine Classical.byContradiction fun hn => ?_
  have ha : ∀ j, j < p.size → bt (cmt b t) (k + j) = bt p j := fun j hj => Classical.byContradiction fun h => hn ⟨j, hj, h⟩
  have h0 := ha 0 (by omega)
  rw [Nat.add_zero, h64] at h0
  have hk2 : 2 ≤ k := by
    rcases Nat.lt_or_ge k 2 with x | x
    · rw [cmt_open b t k x] at h0
      have : k = 0 ∨ k = 1 := by omega
      rcases this with rfl | rfl
      · exact absurd h0 (by decide)
      · exact absurd h0 (by decide)
    · exact x
  obtain ⟨i, rfl⟩ : ∃ i, k = 2 + i := ⟨k - 2, by omega⟩
  by_cases hin : i + p.size ≤ b.size
  · obtain ⟨j, hj, hne⟩ := hf i hin
    have := ha j hj
    rw [Nat.add_assoc, cmt_body b t (i + j) (by omega)] at this
    exact hne this
  · by_cases hi : i ≤ b.size
    · have := ha (b.size - i) (by omega)
      rw [show 2 + i + (b.size - i) = b.size + 2 + 0 by omega, cmt_close b t 0 (by decide)] at this
      exact hst _ (by omega) (this.symm.trans (by decide))
    · have : i = b.size + 1 := by omega
      subst this
      rw [show 2 + (b.size + 1) = b.size + 2 + 1 by omega, cmt_close b t 1 (by decide)] at h0
      exact absurd h0 (by decide)
theorem pre_no {X p q : ByteArray} {k : Nat} (hq : q.size = p.size + 1) (hb : ∀ j, j < p.size → bt q (1 + j) = bt p j) (h64 : bt q 0 = 64) (hk : bt X k = 64) (hX : ¬ (k + q.size ≤ X.size ∧ ∀ j, j < q.size → bt X (k + j) = bt q j)) (hks : k < X.size) : Zg.preB (X.extract (k + 1) X.size) p = false := by
  refine Bool.eq_false_iff.2 fun h => hX ?_
  unfold Zg.preB at h
  rw [Bool.and_eq_true] at h
  have h1 := of_decide_eq_true h.1
  have h2 := of_decide_eq_true h.2
  rw [size_extract] at h1
  refine ⟨by omega, fun j hj => ?_⟩
  cases j with
  | zero => rw [Nat.add_zero, hk, h64]
  | succ j =>
    have e := bt_extract (X.extract (k + 1) X.size) 0 p.size j (by omega)
    rw [h2, Nat.zero_add, bt_extract _ _ _ _ (by omega)] at e
    rw [Nat.add_comm j 1, hb j (by omega), e]
    congr 1
    omega
theorem cmt_cm {b t : ByteArray} (hs : Free b ⟨#[42, 47]⟩) (hf : Zs.Fair b) : Cm (cmt b t) (b.size + 2) where
  sz := by rw [(cmt_sh b t).sz]; omega
  n2 := by omega
  e0 := (cmt_close b t 0 (by decide)).trans (by decide)
  e1 := (cmt_close b t 1 (by decide)).trans (by decide)
  fst := fun j h2 hj ⟨a, c⟩ => by
    obtain ⟨i, rfl⟩ : ∃ i, j = 2 + i := ⟨j - 2, by omega⟩
    by_cases hi : i + 1 < b.size
    · obtain ⟨x, hx, hne⟩ := hs i (by show i + 2 ≤ b.size; omega)
      have hx' : x = 0 ∨ x = 1 := by have : x < 2 := hx; omega
      rw [cmt_body b t i (by omega)] at a
      rw [Nat.add_assoc, cmt_body b t (i + 1) (by omega)] at c
      rcases hx' with rfl | rfl
      · exact hne (a.trans (by decide))
      · exact hne (c.trans (by decide))
    · have : i + 1 = b.size := by omega
      rw [show 2 + i + 1 = b.size + 2 + 0 by omega, cmt_close b t 0 (by decide)] at c
      exact absurd c (by decide)
  leg := by
    by_cases h : 0 < b.size
    · have := cmt_body b t 0 h
      rw [show (2 + 0) = 2 from rfl] at this
      rw [this]; exact hf.1 h
    · have := cmt_close b t 0 (by decide)
      rw [show b.size + 2 + 0 = 2 by omega] at this
      rw [this]; decide
  lic := fun k hk h64 => by
    have hz : ((cmt b t).extract 0 (b.size + 2 + 2)).size = b.size + 4 := by rw [size_extract, (cmt_sh b t).sz]; omega
    have hX : ∀ i, i < b.size + 4 → bt ((cmt b t).extract 0 (b.size + 2 + 2)) i = bt (cmt b t) i := fun i hi => by
      rw [bt_extract _ _ _ _ (by omega), Nat.zero_add]
    rw [hz] at hk
    constructor
    · refine pre_no (q := PRE1) rfl (by decide) (by decide) h64 ?_ (by rw [hz]; exact hk)
      rw [hz]
      rintro ⟨h1, h2⟩
      obtain ⟨j, hj, hne⟩ := word_no (t := t) hf.2.1 (by decide) (by decide) (by decide) k h1
      exact hne ((hX (k + j) (by omega)).symm.trans (h2 j hj))
    · refine pre_no (q := LIC1) rfl (by decide) (by decide) h64 ?_ (by rw [hz]; exact hk)
      rw [hz]
      rintro ⟨h1, h2⟩
      obtain ⟨j, hj, hne⟩ := word_no (t := t) hf.2.2 (by decide) (by decide) (by decide) k h1
      exact hne ((hX (k + j) (by omega)).symm.trans (h2 j hj))
/-- The tail's guard, for every place from q on. -/
structure Dq (s : ByteArray) (q : Nat) : Prop where
  nb : NoB s q
  nu : NoU s q
  ns : ∀ j, q ≤ j → bt s j ≠ 47
  nq : ∀ j, q ≤ j → bt s j ≠ 34 ∧ bt s j ≠ 39
theorem dom_dq {t : ByteArray} (h : Dom t) : Dq t 0 where
  nb := fun j _ => by
    by_cases hj : j < t.size
    · exact (h.1 j hj).2.1
    · rw [bt_end t (by omega)]; decide
  nu := fun i _ h3 a b c d => h.2 i h3 ⟨a, b, c, d⟩
  ns := fun j _ => by
    by_cases hj : j < t.size
    · exact (h.1 j hj).1
    · rw [bt_end t (by omega)]; decide
  nq := fun j _ => by
    by_cases hj : j < t.size
    · exact (h.1 j hj).2.2
    · rw [bt_end t (by omega)]; decide
theorem dq_sh {s t : ByteArray} {m : Nat} (h : Sh s t m) (d : Dq t 0) : Dq s m where
  nb := fun j hj => by
    obtain ⟨i, rfl⟩ : ∃ i, j = m + i := ⟨j - m, by omega⟩
    rw [h.b]; exact d.nb i (by omega)
  nu := fun j hj h3 => by
    obtain ⟨i, rfl⟩ : ∃ i, j = m + i := ⟨j - m, by omega⟩
    rw [Nat.add_assoc, Nat.add_assoc, Nat.add_assoc, h.b, h.b, h.b, h.b]
    exact d.nu i (by omega) (by rw [h.sz] at h3; omega)
  ns := fun j hj => by
    obtain ⟨i, rfl⟩ : ∃ i, j = m + i := ⟨j - m, by omega⟩
    rw [h.b]; exact d.ns i (by omega)
  nq := fun j hj => by
    obtain ⟨i, rfl⟩ : ∃ i, j = m + i := ⟨j - m, by omega⟩
    rw [h.b]; exact d.nq i (by omega)
theorem Dq.mono {s : ByteArray} {q k : Nat} (h : Dq s q) (hk : q ≤ k) : Dq s k :=
  ⟨NoB.mono h.nb hk, fun i hi => h.nu i (by omega), fun j hj => h.ns j (by omega), fun j hj => h.nq j (by omega)⟩
/-- The lexer behind next. -/
def Aft (g : Nat) (s : ByteArray) (q : Nat) (t : Nat × Int × Int × Int) (w : World) : Prop := ∃ u r0 r1, At g u r0 r1 s t.1 (q : Int) t.2.1 t.2.2.1 t.2.2.2 w
theorem nextL (g : Nat) (s : ByteArray) (q : Nat) (wr : World) (hb : Bef g s q wr wr) (hq : q ≤ s.size) (hs : s.size ≤ 1048580) (hT : Lib.Utf8Tabs 1 2 wr) (hw : 3 ≤ wr.heap.size) (hg : 3 ≤ g) (d : Dq s q) :
    Calls Tryd.prog 37 #[.pointer (some ⟨g, 0, none⟩)] wr fun e w' => e = .returned (.tuple #[]) ∧ (Aft g s q (tok s q) w' ∧ Fr g wr w') := by
  refine Zj.next37 g wr _ ((next51 g s q wr wr ⟨hb, hq, hs, hT, hw, hg, d.nb, d.nu, d.ns⟩ d.nq).mono ?_)
  rintro e w' ⟨rfl, u, r0, r1, a, f⟩
  exact ⟨rfl, ⟨u, r0, r1, a⟩, f⟩
theorem Aft.get {g : Nat} {s : ByteArray} {q E : Nat} {U K F : Int} {w : World} (h : Aft g s q (E, U, K, F) w) : ∃ u r0 r1, At g u r0 r1 s E (q : Int) U K F w := h
theorem below_fr {w w1 w2 : World} {g : Nat} (hb : Below w.heap.size w w1) (hg : w.heap.size ≤ g) (f : Fr g w1 w2) : Below w.heap.size w w2 :=
  ⟨f.os.trans hb.os, f.tape.trans hb.tape, f.output.trans hb.output, Nat.le_trans hb.size f.size, fun b h => (f.block b (Nat.lt_of_lt_of_le h hb.size) (by omega)).trans (hb.block b h)⟩
theorem At.far {g g' : Nat} {u : ByteArray} {r0 r1 : Int} {s : ByteArray} {q : Nat} {ts un kd fl : Int} {w w' : World} (h : At g u r0 r1 s q ts un kd fl w) (hne : g ≠ g') (f : Fr g' w w') : At g u r0 r1 s q ts un kd fl w' := own_fr' h hne f
/-- One lexer at a place, its last token ended there. -/
def Pl (g : Nat) (s : ByteArray) (q : Nat) (w : World) : Prop := ∃ (u : ByteArray) (r0 r1 : Int) (ts : Nat) (un kd fl : Int), ts ≤ q ∧ At g u r0 r1 s q ts un kd fl w
theorem Pl.bef {g : Nat} {s : ByteArray} {q : Nat} {w : World} (h : Pl g s q w) : Bef g s q w w := Or.inl ⟨Fr.refl g w, h⟩
theorem Pl.far {g g' : Nat} {s : ByteArray} {q : Nat} {w w' : World} (h : Pl g s q w) (hne : g ≠ g') (f : Fr g' w w') : Pl g s q w' := by
  obtain ⟨u, r0, r1, ts, un, kd, fl, a, b⟩ := h
  exact ⟨u, r0, r1, ts, un, kd, fl, a, Zt.At.far b hne f⟩
theorem Aft.pl {g : Nat} {s : ByteArray} {q E : Nat} {U K F : Int} {w : World} (h : Aft g s q (E, U, K, F) w) (hq : q ≤ E) : Pl g s E w := by
  obtain ⟨u, r0, r1, a⟩ := h
  exact ⟨u, r0, r1, q, U, K, F, hq, a⟩
theorem Aft.below {g : Nat} {s : ByteArray} {q : Nat} {T : Nat × Int × Int × Int} {w w' : World} (h : Aft g s q T w) (hb : Below w.heap.size w w') : Aft g s q T w' := by
  obtain ⟨u, r0, r1, a⟩ := h
  exact ⟨u, r0, r1, a.below hb⟩
theorem Aft.far {g g' : Nat} {s : ByteArray} {q : Nat} {T : Nat × Int × Int × Int} {w w' : World} (h : Aft g s q T w) (hne : g ≠ g') (f : Fr g' w w') : Aft g s q T w' := by
  obtain ⟨u, r0, r1, a⟩ := h
  exact ⟨u, r0, r1, Zt.At.far a hne f⟩
theorem Aft.drewN {g : Nat} {s : ByteArray} {q : Nat} {T : Nat × Int × Int × Int} {w : World} (h : Aft g s q T w) (n : Nat) : Aft g s q T (w.drewN n) := by
  obtain ⟨u, r0, r1, a⟩ := h
  exact ⟨u, r0, r1, a.drewN n⟩
theorem tokL (g : Nat) (s : ByteArray) (q E : Nat) (U K F : Int) (w : World) (h : Aft g s q (E, U, K, F) w) (q' : Int) (l : Int) (hq : (q : Int) = q') (hl : (E : Int) - (q : Int) = l) :
    Calls Tryd.prog 38 #[.pointer (some ⟨g, 0, none⟩)] w fun e w' => e = .returned (.agg #[.int .i32 q', .int .i32 l, .int .u16 U, .int .u8 K, .int .u8 F]) ∧ Below w.heap.size w w' := by
  subst hq hl
  obtain ⟨u, r0, r1, a⟩ := h
  exact Zj.tok38 g u r0 r1 s E q U K F w a
theorem nlL (g : Nat) (s : ByteArray) (q E : Nat) (U K F : Int) (w : World) (h : Aft g s q (E, U, K, F) w) :
    Calls Tryd.prog 39 #[.pointer (some ⟨g, 0, none⟩)] w fun e w' => e = .returned (.int .i64 (cnt s (E + wdOf s E) : Nat)) ∧ w = w' := by
  obtain ⟨u, r0, r1, a⟩ := h
  exact Zj.nl39 g u r0 r1 s E q U K F w a
/-- A fresh lexer, put at the text's first code point. -/
theorem firstL (g : Nat) (s : ByteArray) (w : World) (h : On g ⟨#[]⟩ 0 0 s 0 0 0 0 0 0 0 w) (hT : Lib.Utf8Tabs 1 2 w) (hw : 3 ≤ w.heap.size) (hs : s.size ≤ 1048580) :
    Calls Tryd.prog 36 #[.pointer (some ⟨g, 0, none⟩)] w fun e w' => e = .returned (.tuple #[]) ∧ (At g ⟨#[]⟩ 0 0 s 0 0 0 0 0 w' ∧ Fr g w w') := by
  refine Zj.step36 g w _ ((stepO g ⟨#[]⟩ 0 0 s 0 0 0 0 0 0 0 w h hT hw hs (Nat.zero_le _) (by decide) (by decide)).mono ?_)
  rintro e w' ⟨rfl, a, f⟩
  exact ⟨rfl, a, f⟩
/-- The head of a round of the law. -/
structure Rd (w : World) (ga gb : Nat) (s t : ByteArray) (m p k : Nat) (wr : World) : Prop where
  kp : k ≤ p
  pt : p ≤ t.size
  ba : Bef ga s (m + p) wr wr
  bb : Pl gb t p wr
  be : Below w.heap.size w wr
theorem cnt_all (t : ByteArray) : t.size + wdOf t t.size = t.size := by rw [(cp_out (Nat.le_refl _)).2]; rfl
theorem cnt_cut (s : ByteArray) : ∀ (m n : Nat), n ≤ m → m ≤ s.size → cnt (s.extract 0 m) n = cnt s n
  | _, 0, _, _ => rfl
  | m, n + 1, h, hm => by
    rw [cnt_succ, cnt_succ, cnt_cut s m n (by omega) hm, bt_extract _ _ _ _ (by omega), Nat.zero_add]
theorem nl_law {s t : ByteArray} {m : Nat} (h : Sh s t m) : ((cnt s (m + t.size + wdOf s (m + t.size)) : Nat) : Int) = ((cnt t (t.size + wdOf t t.size) : Nat) : Int) + ((cnt (s.extract 0 m) (s.extract 0 m).size : Nat) : Int) := by
  have hz : (s.extract 0 m).size = m := by rw [size_extract, h.sz]; omega
  rw [h.wd, Nat.add_assoc, cnt_all, hz, cnt_cut s m m (Nat.le_refl _) (by rw [h.sz]; omega), h.cnt]
  omega
theorem nl_law2 {s t : ByteArray} {m : Nat} (h : Sh s t m) (hs : s.size ≤ 1048580) : (((cnt s (m + t.size + wdOf s (m + t.size)) : Nat) : Int) == wrap64 (((cnt t (t.size + wdOf t t.size) : Nat) : Int) + ((cnt (s.extract 0 m) (min m s.size) : Nat) : Int))) = true := by
  have e := nl_law h
  have hz : (s.extract 0 m).size = min m s.size := by rw [size_extract]; omega
  rw [hz] at e
  have hz2 : min m s.size ≤ s.size := by omega
  have c1 := cnt_le t (t.size + wdOf t t.size)
  rw [cnt_all] at c1
  have c2 := cnt_le (s.extract 0 m) (min m s.size)
  have hsz := h.sz
  rw [beq_iff_eq, e, cnt_all]
  unfold wrap64
  omega
end Go.Proofs.YtcljenkgbbbfpaaDoor.Zt
