/-
  Proved: the tracker inside the lexer: what a call of scanTo leaves of its place and lines. Conditions: those that each theorem names as its
  hypotheses, and no others.
-/
import Derived.Test.YtcljenkgbbbfpaaDoorLu
import Derived.Test.YtcljenkgbbbfpaaDoorCe
import Derived.Test.YtcljenkgbbbfpaaDoorDw
import Derived.Deep.DeepCutAuto
import Derived.Test.YtcljenkgbbbfpaaDoorLg
namespace Go.Proofs.YtcljenkgbbbfpaaDoor.Tk
open Go.RowKit Go.PlainAid Str Mem Ho De Lu Lg Dw
set_option linter.unusedVariables false
set_option linter.unusedSimpArgs false
theorem cont (s : ByteArray) (j p : Nat) (hj : j < s.size) (h1 : j < p) (h2 : p < j + rw' s j) : 128 ≤ bt s p := by
  have hb := bt_get s p (by have := rd_bounds s j (by omega); omega)
  obtain ⟨m, hm, rfl⟩ : ∃ m, 1 ≤ m ∧ p = j + m := ⟨p - j, by omega, by omega⟩
  have key : m < (Utf8.decode s j).2 → (s.get! (j + m)).toNat / 64 = 2 := by
    intro h
    unfold Utf8.decode at h
    simp only [] at h
    repeat' split at h
    all_goals first
      | omega
      | (rename_i c _; simp only [Bool.and_eq_true, beq_iff_eq, decide_eq_true_eq] at c; rcases (show m = 1 ∨ m = 2 ∨ m = 3 by omega) with rfl | rfl | rfl <;> first | omega | exact absurd h (by decide))
      | skip
  have := key (by unfold rw' at h2; rw [rd_at hj] at h2; omega)
  have hg : s.get! (j + m) = s[j + m]'(by have := rd_bounds s j (by omega); omega) := getElem!_pos s.data (j + m) _
  rw [hg] at this
  omega

/-- The tracker inside the lexer at block g: its text, its place, its line, the line's start and end. -/
structure Tr (w : World) (g : Nat) (cs : Array Value) (s : ByteArray) (o ln ls le : Nat) (he : Bool) : Prop where
  own : Own w g 64 cs
  sz : cs.size = 41
  c22 : cs[22]? = some (.string s)
  c23 : ∃ a, cs[23]? = some (.string a)
  c24 : ∃ a, cs[24]? = some (.string a)
  c25 : cs[25]? = some (.int .i32 o)
  c26 : cs[26]? = some (.int .i32 ln)
  c27 : cs[27]? = some (.int .i32 ls)
  c28 : cs[28]? = some (.int .i32 le)
  c29 : cs[29]? = some (.bool true)
  c30 : cs[30]? = some (.bool he)
  c31 : cs[31]? = some (.bool true)
def Same (cs cs' : Array Value) : Prop := ∀ i, i < 25 ∨ 30 < i → cs'[i]? = cs[i]?
theorem Same.refl (cs : Array Value) : Same cs cs := fun _ _ => rfl
theorem Same.set {cs cs' : Array Value} (h : Same cs cs') (i : Nat) (hi : 25 ≤ i ∧ i ≤ 30) (v : Value) : Same cs (cs'.setIfInBounds i v) := fun k hk => (at_set _ _ _ _ (by omega)).trans (h k hk)
theorem Same.trans {a b c : Array Value} (h : Same a b) (k : Same b c) : Same a c := fun i hi => (k i hi).trans (h i hi)
theorem Tr.below {w w' : World} {g : Nat} {cs : Array Value} {s : ByteArray} {o ln ls le : Nat} {he : Bool} (h : Tr w g cs s o ln ls le he) (hb : Below w.heap.size w w') : Tr w' g cs s o ln ls le he :=
  ⟨h.own.below hb h.own.lt, h.sz, h.c22, h.c23, h.c24, h.c25, h.c26, h.c27, h.c28, h.c29, h.c30, h.c31⟩
theorem Tr.drewN {w : World} {g : Nat} {cs : Array Value} {s : ByteArray} {o ln ls le : Nat} {he : Bool} (h : Tr w g cs s o ln ls le he) (n : Nat) : Tr (w.drewN n) g cs s o ln ls le he :=
  ⟨h.own.drewN n, h.sz, h.c22, h.c23, h.c24, h.c25, h.c26, h.c27, h.c28, h.c29, h.c30, h.c31⟩
theorem Tr.set25 {w : World} {g : Nat} {cs : Array Value} {s : ByteArray} {o ln ls le : Nat} {he : Bool} (h : Tr w g cs s o ln ls le he) (x : Nat) : Tr (w.setCell ⟨g, 25, none⟩ (.int .i32 x)) g (cs.setIfInBounds 25 (.int .i32 x)) s x ln ls le he :=
  ⟨h.own.set 25 _, by simpa using h.sz, (at_set _ _ _ _ (by omega)).trans h.c22, h.c23.imp fun _ e => (at_set _ _ _ _ (by omega)).trans e, h.c24.imp fun _ e => (at_set _ _ _ _ (by omega)).trans e, at_same _ _ _ (by rw [h.sz]; omega), (at_set _ _ _ _ (by omega)).trans h.c26, (at_set _ _ _ _ (by omega)).trans h.c27, (at_set _ _ _ _ (by omega)).trans h.c28, (at_set _ _ _ _ (by omega)).trans h.c29, (at_set _ _ _ _ (by omega)).trans h.c30, (at_set _ _ _ _ (by omega)).trans h.c31⟩
theorem Tr.set26 {w : World} {g : Nat} {cs : Array Value} {s : ByteArray} {o ln ls le : Nat} {he : Bool} (h : Tr w g cs s o ln ls le he) (x : Nat) : Tr (w.setCell ⟨g, 26, none⟩ (.int .i32 x)) g (cs.setIfInBounds 26 (.int .i32 x)) s o x ls le he :=
  ⟨h.own.set 26 _, by simpa using h.sz, (at_set _ _ _ _ (by omega)).trans h.c22, h.c23.imp fun _ e => (at_set _ _ _ _ (by omega)).trans e, h.c24.imp fun _ e => (at_set _ _ _ _ (by omega)).trans e, (at_set _ _ _ _ (by omega)).trans h.c25, at_same _ _ _ (by rw [h.sz]; omega), (at_set _ _ _ _ (by omega)).trans h.c27, (at_set _ _ _ _ (by omega)).trans h.c28, (at_set _ _ _ _ (by omega)).trans h.c29, (at_set _ _ _ _ (by omega)).trans h.c30, (at_set _ _ _ _ (by omega)).trans h.c31⟩
theorem Tr.set28 {w : World} {g : Nat} {cs : Array Value} {s : ByteArray} {o ln ls le : Nat} {he : Bool} (h : Tr w g cs s o ln ls le he) (x : Nat) : Tr (w.setCell ⟨g, 28, none⟩ (.int .i32 x)) g (cs.setIfInBounds 28 (.int .i32 x)) s o ln ls x he :=
  ⟨h.own.set 28 _, by simpa using h.sz, (at_set _ _ _ _ (by omega)).trans h.c22, h.c23.imp fun _ e => (at_set _ _ _ _ (by omega)).trans e, h.c24.imp fun _ e => (at_set _ _ _ _ (by omega)).trans e, (at_set _ _ _ _ (by omega)).trans h.c25, (at_set _ _ _ _ (by omega)).trans h.c26, (at_set _ _ _ _ (by omega)).trans h.c27, at_same _ _ _ (by rw [h.sz]; omega), (at_set _ _ _ _ (by omega)).trans h.c29, (at_set _ _ _ _ (by omega)).trans h.c30, (at_set _ _ _ _ (by omega)).trans h.c31⟩
theorem Tr.set30 {w : World} {g : Nat} {cs : Array Value} {s : ByteArray} {o ln ls le : Nat} {he : Bool} (h : Tr w g cs s o ln ls le he) (x : Bool) : Tr (w.setCell ⟨g, 30, none⟩ (.bool x)) g (cs.setIfInBounds 30 (.bool x)) s o ln ls le x :=
  ⟨h.own.set 30 _, by simpa using h.sz, (at_set _ _ _ _ (by omega)).trans h.c22, h.c23.imp fun _ e => (at_set _ _ _ _ (by omega)).trans e, h.c24.imp fun _ e => (at_set _ _ _ _ (by omega)).trans e, (at_set _ _ _ _ (by omega)).trans h.c25, (at_set _ _ _ _ (by omega)).trans h.c26, (at_set _ _ _ _ (by omega)).trans h.c27, (at_set _ _ _ _ (by omega)).trans h.c28, (at_set _ _ _ _ (by omega)).trans h.c29, at_same _ _ _ (by rw [h.sz]; omega), (at_set _ _ _ _ (by omega)).trans h.c31⟩
/-- A new line: the four stores. -/
theorem Tr.nl {w : World} {g : Nat} {cs : Array Value} {s : ByteArray} {o ln ls le : Nat} {he : Bool} (h : Tr w g cs s o ln ls le he) (x : Nat) :
    Tr (((w.setCell ⟨g, 29, none⟩ (.bool true)).setCell ⟨g, 30, none⟩ (.bool false)).setCell ⟨g, 27, none⟩ (.int .i32 x)) g (((cs.setIfInBounds 29 (.bool true)).setIfInBounds 30 (.bool false)).setIfInBounds 27 (.int .i32 x)) s o ln x le false := by
  have z : (((cs.setIfInBounds 29 (.bool true)).setIfInBounds 30 (.bool false)).setIfInBounds 27 (.int .i32 x)).size = 41 := by simpa using h.sz
  have k : ∀ i, i ≠ 27 → i ≠ 29 → i ≠ 30 → (((cs.setIfInBounds 29 (.bool true)).setIfInBounds 30 (.bool false)).setIfInBounds 27 (.int .i32 x))[i]? = cs[i]? := fun i a b c =>
    (at_set _ _ _ _ (Ne.symm a)).trans ((at_set _ _ _ _ (Ne.symm c)).trans (at_set _ _ _ _ (Ne.symm b)))
  exact ⟨((h.own.set 29 _).set 30 _).set 27 _, z, (k 22 (by omega) (by omega) (by omega)).trans h.c22, h.c23.imp fun _ e => (k 23 (by omega) (by omega) (by omega)).trans e, h.c24.imp fun _ e => (k 24 (by omega) (by omega) (by omega)).trans e,
    (k 25 (by omega) (by omega) (by omega)).trans h.c25, (k 26 (by omega) (by omega) (by omega)).trans h.c26, at_same _ _ _ (by simp; rw [h.sz]; omega), (k 28 (by omega) (by omega) (by omega)).trans h.c28,
    (at_set _ _ _ _ (by omega)).trans ((at_set _ _ _ _ (by omega)).trans (at_same _ _ _ (by rw [h.sz]; omega))), (at_set _ _ _ _ (by omega)).trans (at_same _ _ _ (by simp; rw [h.sz]; omega)), (k 31 (by omega) (by omega) (by omega)).trans h.c31⟩
/-- What a call of the tracker leaves. -/
structure Tk (g : Nat) (cs : Array Value) (s : ByteArray) (w w' : World) (cs' : Array Value) (o ln ls le : Nat) (he : Bool) : Prop where
  tr : Tr w' g cs' s o ln ls le he
  same : Same cs cs'
  gr : w.grownBy w' (some g)
  ho : o ≤ s.size
  hln : ln ≤ o
  hls : ls ≤ o
  hle : he = true → ls ≤ le ∧ le ≤ s.size
theorem tabs_gr {g : Nat} {w w' : World} (h : Lib.Utf8Tabs 1 2 w) (hg : 3 ≤ g) (hw : 3 ≤ w.heap.size) (f : w.grownBy w' (some g)) : Lib.Utf8Tabs 1 2 w' :=
  tabs_of h (B := 3) (by omega) ⟨f.os, f.tape, f.output, f.size, fun b hb => f.block b (by omega) (fun e => by injection e with e; omega)⟩

/-- What scanTo leaves: the place lies at the rune's end that passes off. -/
def Scan (g : Nat) (cs : Array Value) (s : ByteArray) (off : Nat) (w : World) (e : Ending) (w' : World) : Prop :=
  e = .returned (.tuple #[]) ∧ ∃ cs' o ln ls le he, Tk g cs s w w' cs' o ln ls le he ∧ off ≤ o ∧ ∀ p, off ≤ p → p < o → 128 ≤ bt s p
structure Nx (g : Nat) (cs : Array Value) (s : ByteArray) (o m : Nat) (w wn : World) : Prop where
  ex : ∃ cs' ln ls le he, Tr wn g cs' s o ln ls le he ∧ Same cs cs' ∧ ln ≤ m ∧ ls ≤ m ∧ (he = true → ls ≤ le ∧ le ≤ s.size)
  gr : w.grownBy wn (some g)
theorem grown_cell {w W : World} {g : Nat} (h : w.grownBy W (some g)) (i : Nat) (v : Value) : w.grownBy (W.setCell ⟨g, i, none⟩ v) (some g) := grown_trans h (grown_set W g i v)
theorem grown_nl {w W : World} {g : Nat} (h : w.grownBy W (some g)) (x : Nat) : w.grownBy (((W.setCell ⟨g, 29, none⟩ (.bool true)).setCell ⟨g, 30, none⟩ (.bool false)).setCell ⟨g, 27, none⟩ (.int .i32 x)) (some g) := grown_cell (grown_cell (grown_cell h _ _) _ _) _ _
theorem Same.nl {cs cs' : Array Value} (h : Same cs cs') (x : Nat) : Same cs (((cs'.setIfInBounds 29 (.bool true)).setIfInBounds 30 (.bool false)).setIfInBounds 27 (.int .i32 x)) := ((h.set 29 (by omega) _).set 30 (by omega) _).set 27 (by omega) _
theorem Nx.line {w w1 : World} {g : Nat} {cs cs1 : Array Value} {s : ByteArray} {o ln ls le j K : Nat} {he : Bool} (h : Tr w1 g cs1 s o ln ls le he) (hs : Same cs cs1) (hg : w.grownBy w1 (some g)) (hl : ln ≤ j) (hk : 1 ≤ K) :
    Nx g cs s o (j + K) w ((((w1.setCell ⟨g, 29, none⟩ (.bool true)).setCell ⟨g, 30, none⟩ (.bool false)).setCell ⟨g, 27, none⟩ (.int .i32 ((j : Int) + (K : Int)))).setCell ⟨g, 26, none⟩ (.int .i32 ((ln : Int) + 1))) :=
  ⟨⟨_, ln + 1, j + K, le, false, (h.nl (j + K)).set26 (ln + 1), (hs.nl (j + K)).set 26 (by omega) _, by omega, Nat.le_refl _, fun e => by cases e⟩, grown_cell (grown_nl hg (j + K)) 26 _⟩
theorem Nx.plain {w w1 : World} {g : Nat} {cs cs1 : Array Value} {s : ByteArray} {o ln ls le j K : Nat} {he : Bool} (h : Tr w1 g cs1 s o ln ls le he) (hs : Same cs cs1) (hg : w.grownBy w1 (some g)) (hl : ln ≤ j) (hk : 1 ≤ K) :
    Nx g cs s o (j + K) w (((w1.setCell ⟨g, 29, none⟩ (.bool true)).setCell ⟨g, 30, none⟩ (.bool false)).setCell ⟨g, 27, none⟩ (.int .i32 ((j : Int) + (K : Int)))) :=
  ⟨⟨_, ln, j + K, le, false, h.nl (j + K), hs.nl (j + K), by omega, Nat.le_refl _, fun e => by cases e⟩, grown_nl hg (j + K)⟩
theorem Nx.none {w w1 : World} {g : Nat} {cs cs1 : Array Value} {s : ByteArray} {o ln ls le j K : Nat} {he : Bool} (h : Tr w1 g cs1 s o ln ls le he) (hs : Same cs cs1) (hg : w.grownBy w1 (some g)) (hl : ln ≤ j) (hl2 : ls ≤ j) (hE : he = true → ls ≤ le ∧ le ≤ s.size) : Nx g cs s o (j + K) w w1 :=
  ⟨⟨_, ln, ls, le, he, h, hs, by omega, by omega, hE⟩, hg⟩
set_option maxRecDepth 100000 in
set_option maxHeartbeats 4000000 in
theorem scan110 (g : Nat) (cs : Array Value) (s : ByteArray) (off o ln ls le : Nat) (he : Bool) (w : World) (h : Tk g cs s w w cs o ln ls le he) (ho : o ≤ off) (hoff : off ≤ s.size) (hs : s.size ≤ 1048576) (hT : Lib.Utf8Tabs 1 2 w) (hg : 3 ≤ g) (hw : 3 ≤ w.heap.size) :
    Calls Tryd.prog 110 #[.pointer (some ⟨g, 22, none⟩), .int .i32 off] w (Scan g cs s off w) := by
  have HH := Lib.hid h
  have HT := Lib.hid hT
  have c22 : w.cell? ⟨g, 22, none⟩ = some (.string s) := (h.tr.own.cell 22).trans h.tr.c22
  have c25 : w.cell? ⟨g, 25, none⟩ = some (.int .i32 o) := (h.tr.own.cell 25).trans h.tr.c25
  clear h hT
  by_cases hlt : o < off
  · have t0 : decide ((o : Int) < (off : Int)) = true := decide_eq_true (by omega)
    go_enter Tryd.func110, Tryd.ntmps110
    go_wp2_with fail
    clear c22 c25 t0
    go_loopw [5] (fun i wr => ∃ (j : Nat) (cs' : Array Value) (ln ls le : Nat) (he : Bool), i = .int .i32 j ∧ j < off ∧ ln ≤ j ∧ ls ≤ j ∧ Hid (Tr wr g cs' s o ln ls le he) ∧ Hid (Same cs cs') ∧ Hid (w.grownBy wr (some g)) ∧ Hid (he = true → ls ≤ le ∧ le ≤ s.size)) (fun i _ => off - (intOf i).toNat)
    case atStart => exact ⟨o, cs, ln, ls, le, he, rfl, hlt, HH.out.hln, HH.out.hls, Lib.hid HH.out.tr, Lib.hid HH.out.same, Lib.hid HH.out.gr, Lib.hid HH.out.hle⟩
    case round =>
      clear HH
      obtain ⟨j, cs1, ln1, ls1, le1, he1, rfl, hj, hln, hls, HR, HS, HG, HE⟩ := hrel
      obtain ⟨wo, rfl⟩ : ∃ wo : World, wo = wr := ⟨_, rfl⟩
      have i0 : (0 : Int) ≤ (j : Int) := by omega
      have i1 : (j : Int) ≤ (s.size : Int) := by omega
      go_wp2_with fail
      refine (dec s j _ rfl _ (tabs_gr HT.out hg hw HG.out)).mono ?_
      rintro e w1 ⟨rfl, hb1⟩
      have tr1 := HR.out.below hb1
      have gr1 : w.grownBy w1 (some g) := grown_trans HG.out (grown_of_below hb1 (some g))
      have hK1 := rw_pos (s := s) (i := j) (by omega)
      have hK2 := (rd_bounds s j (by omega)).2.2
      have HC : Hid (∀ p, off ≤ p → p < j + rw' s j → 128 ≤ bt s p) := Lib.hid fun p a b => cont s j p (by omega) (by omega) b
      generalize rc s j = R at *
      generalize rw' s j = K at *
      have d29 : w1.cell? ⟨g, 29, none⟩ = some (.bool true) := (tr1.own.cell 29).trans tr1.c29
      have d30 : w1.cell? ⟨g, 30, none⟩ = some (.bool he1) := (tr1.own.cell 30).trans tr1.c30
      have d27 : w1.cell? ⟨g, 27, none⟩ = some (.int .i32 ls1) := (tr1.own.cell 27).trans tr1.c27
      have d25 : w1.cell? ⟨g, 25, none⟩ = some (.int .i32 o) := (tr1.own.cell 25).trans tr1.c25
      have d26 : w1.cell? ⟨g, 26, none⟩ = some (.int .i32 ln1) := (tr1.own.cell 26).trans tr1.c26
      have fz : ∀ i, w1.frozen? ⟨g, i, none⟩ = false := tr1.own.frozen
      have HT1 := Lib.hid tr1
      have HG1 := Lib.hid gr1
      clear tr1 gr1 hb1 HR HG
      by_cases h10 : R = 10
      focus
        subst h10
        by_cases hj0 : j = 0
        focus
          have y0 : ((j : Int) + (K : Int) == (K : Int)) = true := by simp; omega
          clear hj0
          go_upto_region 19 with fail
          have HN := Lib.hid (Nx.line HT1.out HS.out HG1.out hln hK1)
          clear d25 d26 d27 d29 d30 fz HT1 HG1
          generalize World.setCell _ _ _ = wn at HN ⊢
        rotate_left
        focus
          have y0 : ((j : Int) + (K : Int) == (K : Int)) = false := by simp; omega
          have hl1 : j - 1 < s.size := by omega
          have hl2 : 0 < j := by omega
          have hgb := get_bt s
          clear hj0
          by_cases hcr : bt s (j - 1) = 13
          focus
            have e1 : (bt s (j - 1) == 13) = true := beq_iff_eq.2 hcr
            have e2 : (bt s (j - 1) != 13) = false := by simp [bne, e1]
            clear hcr
            go_upto_region 19 with fail
            have HN := Lib.hid (Nx.plain HT1.out HS.out HG1.out hln hK1)
            clear d25 d26 d27 d29 d30 fz HT1 HG1
            generalize World.setCell _ _ _ = wn at HN ⊢
          rotate_left
          focus
            have e1 : (bt s (j - 1) == 13) = false := beq_eq_false_iff_ne.2 hcr
            have e2 : (bt s (j - 1) != 13) = true := by simp [bne, e1]
            clear hcr
            go_upto_region 19 with fail
            have HN := Lib.hid (Nx.line HT1.out HS.out HG1.out hln hK1)
            clear d25 d26 d27 d29 d30 fz HT1 HG1
            generalize World.setCell _ _ _ = wn at HN ⊢
      rotate_left 3
      focus
        have x0 : (R == 10) = false := beq_eq_false_iff_ne.2 h10
        clear h10
        by_cases h13 : R = 13
        focus
          subst h13
          clear x0
          go_upto_region 19 with fail
          have HN := Lib.hid (Nx.line HT1.out HS.out HG1.out hln hK1)
          clear d25 d26 d27 d29 d30 fz HT1 HG1
          generalize World.setCell _ _ _ = wn at HN ⊢
        rotate_left
        focus
          have x1 : (R == 13) = false := beq_eq_false_iff_ne.2 h13
          clear h13
          by_cases h14 : R = 8232
          focus
            subst h14
            clear x0 x1
            go_upto_region 19 with fail
            have HN := Lib.hid (Nx.line HT1.out HS.out HG1.out hln hK1)
            clear d25 d26 d27 d29 d30 fz HT1 HG1
            generalize World.setCell _ _ _ = wn at HN ⊢
          rotate_left
          focus
            have x2 : (R == 8232) = false := beq_eq_false_iff_ne.2 h14
            clear h14
            by_cases h15 : R = 8233
            focus
              subst h15
              clear x0 x1 x2
              go_upto_region 19 with fail
              have HN := Lib.hid (Nx.line HT1.out HS.out HG1.out hln hK1)
              clear d25 d26 d27 d29 d30 fz HT1 HG1
              generalize World.setCell _ _ _ = wn at HN ⊢
            rotate_left
            focus
              have x3 : (R == 8233) = false := beq_eq_false_iff_ne.2 h15
              clear h15
              go_upto_region 19 with fail
              have HN := Lib.hid (Nx.none (K := K) HT1.out HS.out HG1.out hln hls HE.out)
              clear d25 d26 d27 d29 d30 fz HT1 HG1
              generalize w1 = wn at HN ⊢
              clear x0 x1 x2 x3
      all_goals
        obtain ⟨cs2, ln2, ls2, le2, he2, hT2, hS2, a1, a2, a3⟩ := HN.out.ex
        have HT2 := Lib.hid hT2
        have HS2 := Lib.hid hS2
        have HE2 := Lib.hid a3
        have e25 : wn.cell? ⟨g, 25, none⟩ = some (.int .i32 o) := (hT2.own.cell 25).trans hT2.c25
        have fz := hT2.own.frozen 25
        clear hT2 hS2 a3 HE HS
        by_cases hge : off ≤ j + K
        · have tg : decide ((off : Int) ≤ (j : Int) + (K : Int)) = true := decide_eq_true (by omega)
          go_wp2_with fail
          go_end0
          exact ⟨rfl, _, j + K, ln2, ls2, le2, he2, ⟨HT2.out.set25 (j + K), HS2.out.set 25 (by omega) _, grown_cell HN.out.gr _ _, by omega, a1, a2, HE2.out⟩, hge, HC.out⟩
        · have tg : decide ((off : Int) ≤ (j : Int) + (K : Int)) = false := decide_eq_false (by omega)
          go_wp2_with fail
          go_roundw
          case rel => exact ⟨j + K, cs2, ln2, ls2, le2, he2, by go_num, by omega, a1, a2, HT2, HS2, Lib.hid HN.out.gr, HE2⟩
          case measure => simp [intOf]; omega
  · obtain rfl : o = off := by omega
    have t0 : decide ((o : Int) < (o : Int)) = false := decide_eq_false (by omega)
    go_enter Tryd.func110, Tryd.ntmps110
    go_wp2_with fail
    go_end0
    exact ⟨rfl, cs, _, _, _, _, _, HH.out, Nat.le_refl _, fun p a b => absurd b (by omega)⟩
end Go.Proofs.YtcljenkgbbbfpaaDoor.Tk
