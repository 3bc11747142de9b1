/-
  Proved: one step of the lexer with its newline counted, and where the lexer stands. Conditions: those that each theorem names as its hypotheses, and
  no others.
-/
import Derived.Test.YtcljenkgbbbfpaaDoorCu
import Derived.Deep.DeepCutAuto
import Derived.BigQuiet
namespace Go.Proofs.YtcljenkgbbbfpaaDoor.Za
open Go.RowKit Go.PlainAid Str Mem De Lu Dw Cu Rws
set_option linter.unusedVariables false
set_option linter.unusedSimpArgs false
variable {B : Nat → Option Value}
theorem _root_.Go.Proofs.YtcljenkgbbbfpaaDoor.Lu.LX.as' {w : World} {g : Nat} {s : ByteArray} {nl cur cp ts tl nl' cur' cp' : Int} {cs : Array Value} (h : LX B w g s nl cur cp ts tl cs) (e1 : cur = cur') (e2 : cp = cp') (e3 : nl = nl') : LX B w g s nl' cur' cp' ts tl cs := by subst e1 e2 e3; exact h
/-- One step, the newline counted exactly. -/
def SteppedX (B : Nat → Option Value) (w : World) (g : Nat) (s : ByteArray) (k : Nat) (nl ts : Int) (e : Ending) (w' : World) : Prop :=
  ∃ cs', e = .returned (.tuple #[]) ∧ LX B w' g s (nl + if cpOf s k = 10 then 1 else 0) ((k + wdOf s k : Nat) : Int) (cpOf s k) ts ((k : Int) - ts) cs' ∧ Fr g w w'
set_option maxRecDepth 100000 in
set_option maxHeartbeats 8000000 in
theorem stepX (g : Nat) (s : ByteArray) (k : Nat) (nl cp ts tl : Int) (cs : Array Value) (w : World) (h : LX B w g s nl (k : Int) cp ts tl cs) (hT : Lib.Utf8Tabs 1 2 w) (hw2 : 3 ≤ w.heap.size) (hs : s.size ≤ 1048580) (hk : k ≤ s.size) (hn0 : 0 ≤ nl) (hn1 : nl ≤ 1000000000) (ht0 : 0 ≤ ts) (ht1 : ts ≤ 2000000) :
    Calls Tryd.prog 41 #[.pointer (some ⟨g, 0, none⟩)] w (SteppedX B w g s k nl ts) := by
  have c10 := (h.own.cell 10).trans h.c10
  have c33 := (h.own.cell 33).trans h.c33
  have hg := h.own.lt
  have hi0 : (0 : Int) ≤ (k : Int) := by omega
  have hi1 : (k : Int) ≤ (s.size : Int) := by omega
  go_enter Tryd.func41, Tryd.ntmps41
  go_wp2_with fail
  go_region_held3 (fun W => W.cell? ⟨g, 10, none⟩ = some (.string s) ∧ W.cell? ⟨g, 33, none⟩ = some (.int .i64 (k : Int)) ∧ Below w.heap.size w W)
    (first | with_reducible exact keepL hg hb1 (by assumption) | exact ⟨c10, c33, below_drew (Below.refl _ _)⟩)
    (first | (go_at_call 52; refine (Tryd.utf8_DecodeRuneInString _ _ (tabs_below hT hw2 (And.right (And.right (by assumption))))).mono ?_; rintro e w1 ⟨rfl, hb1⟩))
  have h1 := h.drew.below hb1
  have hbw : Below w.heap.size w w1 := (below_drew (Below.refl _ _)).trans (hb1.mono (Nat.le_refl _))
  obtain ⟨hR, hK⟩ := dec_bounds (s.extract k s.size)
  rw [size_extract] at hK
  have HCP := Lib.hid (show cpOf s k = if (Lib.decodeGo (s.extract k s.size)).2 = 0 then (-1 : Int) else ((Lib.decodeGo (s.extract k s.size)).1 : Int) from rfl)
  have HWD := Lib.hid (show wdOf s k = (Lib.decodeGo (s.extract k s.size)).2 from rfl)
  generalize (Lib.decodeGo (s.extract k s.size)).1 = R at *
  generalize (Lib.decodeGo (s.extract k s.size)).2 = K at *
  have o := h1.own
  have d32 := (o.cell 32).trans h1.c32
  have d33 := (o.cell 33).trans h1.c33
  have d35 := (o.cell 35).trans h1.c35
  have d36 := (o.cell 36).trans h1.c36
  have d37 := (o.cell 37).trans h1.c37
  have f32 := o.frozen 32
  have f33 := o.frozen 33
  have f35 := o.frozen 35
  have f37 := o.frozen 37
  have HL := Lib.hid h1
  have HB := Lib.hid hbw
  clear h h1 hbw hb1 o c10 c33 hT
  by_cases hK0 : K = 0
  · have t1 : ((K : Int) == 0) = true := by simp [hK0]
    have HK0 := Lib.hid hK0
    clear hK0
    go_wp2_with fail
    go_region
    go_wp2
    go_end0
    refine ⟨_, rfl, (((((HL.out.set35 _).set37 _).set33 _).drew).as' (by have := HWD.out; omega) (by rw [HCP.out, if_pos HK0.out]) (by rw [HCP.out, if_pos HK0.out, if_neg (by decide)]; omega)), Fr.of HB.out ((((Wr.refl g w1).set 35 _).set 37 _).set 33 _).drew⟩
  · have t1 : ((K : Int) == 0) = false := by simp [hK0]
    have HK0 := Lib.hid hK0
    clear hK0
    by_cases h10 : R = 10
    · have t2 : ((R : Int) == 10) = true := by simp [h10]
      have H10 := Lib.hid h10
      clear h10
      go_wp2_with fail
      go_region
      go_wp2
      go_end0
      refine ⟨_, rfl, ((((((HL.out.set32 _).set35 _).set37 _).set33 _).drew).as' (by have := HWD.out; omega) (by rw [HCP.out, if_neg HK0.out]) (by rw [HCP.out, if_neg HK0.out, if_pos (by have := H10.out; omega)])), Fr.of HB.out (((((Wr.refl g w1).set 32 _).set 35 _).set 37 _).set 33 _).drew⟩
    · have t2 : ((R : Int) == 10) = false := by simp; omega
      have H10 := Lib.hid h10
      clear h10
      go_wp2_with fail
      go_region
      go_wp2
      go_end0
      refine ⟨_, rfl, (((((HL.out.set35 _).set37 _).set33 _).drew).as' (by have := HWD.out; omega) (by rw [HCP.out, if_neg HK0.out]) (by rw [HCP.out, if_neg HK0.out, if_neg (by have := H10.out; omega)]; omega)), Fr.of HB.out ((((Wr.refl g w1).set 35 _).set 37 _).set 33 _).drew⟩
/-- The lexer of the law, cell for cell: the source mapping (u, r0, r1), the newlines, the place, the code point, the token. -/
def lz (u : ByteArray) (r0 r1 : Int) (s : ByteArray) (nl cur cp ts tl un kd fl : Int) : Array Value := #[.bool false, .nilFunc, .nilFunc, .nilFunc, .nilFunc, .int .i8 0, .map none, .string ⟨#[]⟩, .string ⟨#[]⟩, .string ⟨#[]⟩, .string s, .string ⟨#[]⟩, .string ⟨#[]⟩, .string ⟨#[]⟩, .string ⟨#[]⟩, .int .u8 0, .int .u32 0, .slice none 0 0, .slice none 0 0, .string u, .int .i32 r0, .int .i32 r1, .string ⟨#[]⟩, .string ⟨#[]⟩, .string ⟨#[]⟩, .int .i32 0, .int .i32 0, .int .i32 0, .int .i32 0, .bool false, .bool false, .bool false, .int .i64 nl, .int .i64 cur, .int .i32 0, .int .i32 cp, .int .i32 ts, .int .i32 tl, .int .u16 un, .int .u8 kd, .int .u8 fl]
theorem lz_sets (u : ByteArray) (r0 r1 : Int) (s : ByteArray) (nl cur cp ts tl un kd fl nl' cur' cp' tl' : Int) : ((((lz u r0 r1 s nl cur cp ts tl un kd fl).setIfInBounds 32 (.int .i64 nl')).setIfInBounds 33 (.int .i64 cur')).setIfInBounds 35 (.int .i32 cp')).setIfInBounds 37 (.int .i32 tl') = lz u r0 r1 s nl' cur' cp' ts tl' un kd fl := by
  simp only [lz, List.setIfInBounds_toArray, List.set_cons_zero, List.set_cons_succ]
theorem lz_cur (u : ByteArray) (r0 r1 : Int) (s : ByteArray) (nl cur cp ts tl un kd fl x : Int) : (lz u r0 r1 s nl cur cp ts tl un kd fl).setIfInBounds 33 (.int .i64 x) = lz u r0 r1 s nl x cp ts tl un kd fl := by
  simp only [lz, List.setIfInBounds_toArray, List.set_cons_zero, List.set_cons_succ]
theorem lz_tok (u : ByteArray) (r0 r1 : Int) (s : ByteArray) (nl cur cp ts tl un kd fl x : Int) : (((((lz u r0 r1 s nl cur cp ts tl un kd fl).setIfInBounds 36 (.int .i32 x)).setIfInBounds 37 (.int .i32 0)).setIfInBounds 38 (.int .u16 0)).setIfInBounds 39 (.int .u8 0)).setIfInBounds 40 (.int .u8 0) = lz u r0 r1 s nl cur cp x 0 0 0 0 := by
  simp only [lz, List.setIfInBounds_toArray, List.set_cons_zero, List.set_cons_succ]
theorem lz_un (u : ByteArray) (r0 r1 : Int) (s : ByteArray) (nl cur cp ts tl un kd fl x : Int) : (lz u r0 r1 s nl cur cp ts tl un kd fl).setIfInBounds 38 (.int .u16 x) = lz u r0 r1 s nl cur cp ts tl x kd fl := by
  simp only [lz, List.setIfInBounds_toArray, List.set_cons_zero, List.set_cons_succ]
theorem lz_kind (u : ByteArray) (r0 r1 : Int) (s : ByteArray) (nl cur cp ts tl un kd fl x : Int) : (lz u r0 r1 s nl cur cp ts tl un kd fl).setIfInBounds 39 (.int .u8 x) = lz u r0 r1 s nl cur cp ts tl un x fl := by
  simp only [lz, List.setIfInBounds_toArray, List.set_cons_zero, List.set_cons_succ]
theorem lz_flag (u : ByteArray) (r0 r1 : Int) (s : ByteArray) (nl cur cp ts tl un kd fl x : Int) : (lz u r0 r1 s nl cur cp ts tl un kd fl).setIfInBounds 40 (.int .u8 x) = lz u r0 r1 s nl cur cp ts tl un kd x := by
  simp only [lz, List.setIfInBounds_toArray, List.set_cons_zero, List.set_cons_succ]
theorem lz_map (u : ByteArray) (r0 r1 : Int) (s : ByteArray) (nl cur cp ts tl un kd fl : Int) (v : ByteArray) (x y : Int) : (((lz u r0 r1 s nl cur cp ts tl un kd fl).setIfInBounds 19 (.string v)).setIfInBounds 20 (.int .i32 x)).setIfInBounds 21 (.int .i32 y) = lz v x y s nl cur cp ts tl un kd fl := by
  simp only [lz, List.setIfInBounds_toArray, List.set_cons_zero, List.set_cons_succ]
/-- The cells of the lexer that its methods read and write. -/
structure Cl (g : Nat) (u : ByteArray) (r0 r1 : Int) (s : ByteArray) (nl cur cp ts tl un kd fl : Int) (w : World) : Prop where
  c0 : w.cell? ⟨g, 0, none⟩ = some (.bool false)
  c10 : w.cell? ⟨g, 10, none⟩ = some (.string s)
  c17 : w.cell? ⟨g, 17, none⟩ = some (.slice none 0 0)
  c18 : w.cell? ⟨g, 18, none⟩ = some (.slice none 0 0)
  c19 : w.cell? ⟨g, 19, none⟩ = some (.string u)
  c20 : w.cell? ⟨g, 20, none⟩ = some (.int .i32 r0)
  c21 : w.cell? ⟨g, 21, none⟩ = some (.int .i32 r1)
  c32 : w.cell? ⟨g, 32, none⟩ = some (.int .i64 nl)
  c33 : w.cell? ⟨g, 33, none⟩ = some (.int .i64 cur)
  c35 : w.cell? ⟨g, 35, none⟩ = some (.int .i32 cp)
  c36 : w.cell? ⟨g, 36, none⟩ = some (.int .i32 ts)
  c37 : w.cell? ⟨g, 37, none⟩ = some (.int .i32 tl)
  c38 : w.cell? ⟨g, 38, none⟩ = some (.int .u16 un)
  c39 : w.cell? ⟨g, 39, none⟩ = some (.int .u8 kd)
  c40 : w.cell? ⟨g, 40, none⟩ = some (.int .u8 fl)
  fz : ∀ j, w.frozen? ⟨g, j, none⟩ = false
theorem cl {g : Nat} {u : ByteArray} {r0 r1 : Int} {s : ByteArray} {nl cur cp ts tl un kd fl : Int} {w : World} (h : Own w g 64 (lz u r0 r1 s nl cur cp ts tl un kd fl)) : Cl g u r0 r1 s nl cur cp ts tl un kd fl w :=
  ⟨(h.cell 0).trans rfl, (h.cell 10).trans rfl, (h.cell 17).trans rfl, (h.cell 18).trans rfl, (h.cell 19).trans rfl, (h.cell 20).trans rfl, (h.cell 21).trans rfl, (h.cell 32).trans rfl, (h.cell 33).trans rfl, (h.cell 35).trans rfl, (h.cell 36).trans rfl, (h.cell 37).trans rfl, (h.cell 38).trans rfl, (h.cell 39).trans rfl, (h.cell 40).trans rfl, h.frozen⟩
/-- The newlines among the first n bytes. -/
def cnt (s : ByteArray) : Nat → Nat
  | 0 => 0
  | n + 1 => cnt s n + if bt s n = 10 then 1 else 0
theorem cnt_le (s : ByteArray) : ∀ n, cnt s n ≤ n
  | 0 => Nat.le_refl _
  | n + 1 => by have := cnt_le s n; unfold cnt; split <;> omega
theorem cnt_succ (s : ByteArray) (n : Nat) : cnt s (n + 1) = cnt s n + if bt s n = 10 then 1 else 0 := rfl
theorem cnt_skip {s : ByteArray} {a : Nat} : ∀ n, (∀ j, a ≤ j → j < a + n → bt s j ≠ 10) → cnt s (a + n) = cnt s a
  | 0, _ => rfl
  | n + 1, h => by
    rw [show a + (n + 1) = (a + n) + 1 from rfl, cnt_succ, if_neg (h _ (by omega) (by omega)), Nat.add_zero]
    exact cnt_skip n fun j h1 h2 => h j h1 (by omega)
theorem get_bang (s : ByteArray) (i : Nat) : (s.get! i).toNat = (bt s i).toNat := by
  by_cases h : i < s.size
  · rw [bt_get s i h]
    have : s.get! i = s[i]'h := by
      show s.data[i]! = _
      rw [getElem!_pos s.data i (by simpa using h)]
      rfl
    rw [this]; omega
  · rw [bt_end s (by omega)]
    have : s.get! i = 0 := by
      show s.data[i]! = _
      rw [getElem!_neg s.data i (by simpa using h)]
      rfl
    rw [this]; rfl
theorem cont_aux (n b0 b1 b2 b3 : Nat) : (2 ≤ (Lib.decodeN n b0 b1 b2 b3).2 → 128 ≤ b1) ∧ (3 ≤ (Lib.decodeN n b0 b1 b2 b3).2 → 128 ≤ b2) ∧ (4 ≤ (Lib.decodeN n b0 b1 b2 b3).2 → 128 ≤ b3) := by
  unfold Lib.decodeN
  repeat' split
  all_goals (simp only []; omega)
/-- The bytes behind a rune's first. -/
theorem cont {s : ByteArray} {i : Nat} (h : i < s.size) (j : Nat) (h1 : 1 ≤ j) (h2 : j < rw' s i) : 128 ≤ bt s (i + j) := by
  have h4 := Ce.rw_le4 s i
  unfold rw' at h2 h4
  rw [rd_at h, Lib.decode_at, get_bang, get_bang, get_bang, get_bang] at h2 h4
  obtain ⟨a, b, c⟩ := cont_aux (s.size - i) (bt s i).toNat (bt s (i + 1)).toNat (bt s (i + 2)).toNat (bt s (i + 3)).toNat
  have hj : j = 1 ∨ j = 2 ∨ j = 3 := by omega
  rcases hj with rfl | rfl | rfl
  · have := a (by omega); omega
  · have := b (by omega); omega
  · have := c (by omega); omega
theorem cnt_step {s : ByteArray} {q : Nat} (h : q < s.size) : cnt s (q + wdOf s q) = cnt s q + if cpOf s q = 10 then 1 else 0 := by
  rw [(cp_in h).1, (cp_in h).2]
  by_cases ha : bt s q < 128
  · rw [(rd_asc h ha).1, (rd_asc h ha).2]; rfl
  · have hb := rd_high h (by omega)
    rw [if_neg (by omega), Nat.add_zero]
    refine cnt_skip _ fun j a b => ?_
    by_cases e : j = q
    · subst e; omega
    · have := cont h (j - q) (by omega) (by omega)
      rw [show q + (j - q) = j by omega] at this
      omega
/-- The lexer stands at q: it has read the code point there. -/
def At (g : Nat) (u : ByteArray) (r0 r1 : Int) (s : ByteArray) (q : Nat) (ts : Int) (un kd fl : Int) (w : World) : Prop :=
  Own w g 64 (lz u r0 r1 s (cnt s (q + wdOf s q) : Nat) ((q + wdOf s q : Nat) : Int) (cpOf s q) ts ((q : Int) - ts) un kd fl)
/-- It has been put to k, nothing read there. -/
def On (g : Nat) (u : ByteArray) (r0 r1 : Int) (s : ByteArray) (k : Nat) (cp ts tl un kd fl : Int) (w : World) : Prop :=
  Own w g 64 (lz u r0 r1 s (cnt s k : Nat) (k : Int) cp ts tl un kd fl)
def Stp (g : Nat) (u : ByteArray) (r0 r1 : Int) (s : ByteArray) (k : Nat) (ts un kd fl : Int) (w : World) (e : Ending) (w' : World) : Prop :=
  e = .returned (.tuple #[]) ∧ At g u r0 r1 s k ts un kd fl w' ∧ Fr g w w'
theorem stepO (g : Nat) (u : ByteArray) (r0 r1 : Int) (s : ByteArray) (k : Nat) (cp ts tl un kd fl : Int) (w : World) (h : On g u r0 r1 s k cp ts tl un kd fl w) (hT : Lib.Utf8Tabs 1 2 w) (hw : 3 ≤ w.heap.size) (hs : s.size ≤ 1048580) (hk : k ≤ s.size) (ht0 : 0 ≤ ts) (ht1 : ts ≤ 2000000) :
    Calls Tryd.prog 41 #[.pointer (some ⟨g, 0, none⟩)] w (Stp g u r0 r1 s k ts un kd fl w) := by
  have hc := cnt_le s k
  refine (stepX (B := fun i : Nat => (lz u r0 r1 s (cnt s k : Nat) k cp ts tl un kd fl)[i]?) g s k (cnt s k : Nat) cp ts tl _ w ⟨h, rfl, rfl, rfl, rfl, rfl, rfl, rfl, fun i _ _ _ _ => rfl⟩ hT hw hs hk (by omega) (by omega) ht0 ht1).mono ?_
  rintro e w' ⟨cs', rfl, hl, hf⟩
  refine ⟨rfl, ?_, hf⟩
  have hn : ((cnt s k : Nat) : Int) + (if cpOf s k = 10 then (1 : Int) else 0) = ((cnt s (k + wdOf s k) : Nat) : Int) := by
    by_cases hlt : k < s.size
    · rw [cnt_step hlt]; split <;> omega
    · rw [(cp_out (by omega)).1, (cp_out (by omega)).2, if_neg (by decide)]; simp
  rw [hn] at hl
  have e : cs' = lz u r0 r1 s (cnt s (k + wdOf s k) : Nat) ((k + wdOf s k : Nat) : Int) (cpOf s k) ts ((k : Int) - ts) un kd fl := by
    refine Array.ext_getElem? fun i => ?_
    by_cases h32 : i = 32
    · subst h32; exact hl.c32
    by_cases h33 : i = 33
    · subst h33; exact hl.c33
    by_cases h35 : i = 35
    · subst h35; exact hl.c35
    by_cases h37 : i = 37
    · subst h37; exact hl.c37
    rw [hl.rest i h32 h33 h35 h37, ← lz_sets u r0 r1 s (cnt s k : Nat) k cp ts tl un kd fl (cnt s (k + wdOf s k) : Nat) _ (cpOf s k) _, at_set _ _ _ _ (Ne.symm h37), at_set _ _ _ _ (Ne.symm h35), at_set _ _ _ _ (Ne.symm h33), at_set _ _ _ _ (Ne.symm h32)]
  unfold At
  rw [← e]
  exact hl.own
/-- From one place to the next. -/
theorem stepZ (g : Nat) (u : ByteArray) (r0 r1 : Int) (s : ByteArray) (q : Nat) (ts un kd fl : Int) (w : World) (h : At g u r0 r1 s q ts un kd fl w) (hq : q ≤ s.size) (hT : Lib.Utf8Tabs 1 2 w) (hw : 3 ≤ w.heap.size) (hs : s.size ≤ 1048580) (ht0 : 0 ≤ ts) (ht1 : ts ≤ 2000000) :
    Calls Tryd.prog 41 #[.pointer (some ⟨g, 0, none⟩)] w (Stp g u r0 r1 s (q + wdOf s q) ts un kd fl w) :=
  stepO g u r0 r1 s (q + wdOf s q) _ ts _ un kd fl w h hT hw hs (cp_rng s q hq).2.2 ht0 ht1
theorem At.cl {g : Nat} {u : ByteArray} {r0 r1 : Int} {s : ByteArray} {q : Nat} {ts un kd fl : Int} {w : World} (h : At g u r0 r1 s q ts un kd fl w) : Cl g u r0 r1 s (cnt s (q + wdOf s q) : Nat) ((q + wdOf s q : Nat) : Int) (cpOf s q) ts ((q : Int) - ts) un kd fl w := Za.cl h
theorem At.lt {g : Nat} {u : ByteArray} {r0 r1 : Int} {s : ByteArray} {q : Nat} {ts un kd fl : Int} {w : World} (h : At g u r0 r1 s q ts un kd fl w) : g < w.heap.size := Own.lt h
theorem At.below {g : Nat} {u : ByteArray} {r0 r1 : Int} {s : ByteArray} {q : Nat} {ts un kd fl : Int} {w w' : World} (h : At g u r0 r1 s q ts un kd fl w) (hb : Below w.heap.size w w') : At g u r0 r1 s q ts un kd fl w' := Own.below h hb h.lt
theorem At.drewN {g : Nat} {u : ByteArray} {r0 r1 : Int} {s : ByteArray} {q : Nat} {ts un kd fl : Int} {w : World} (h : At g u r0 r1 s q ts un kd fl w) (n : Nat) : At g u r0 r1 s q ts un kd fl (w.drewN n) := Own.drewN h n
theorem At.kind {g : Nat} {u : ByteArray} {r0 r1 : Int} {s : ByteArray} {q : Nat} {ts un kd fl : Int} {w : World} (h : At g u r0 r1 s q ts un kd fl w) (x : Int) : At g u r0 r1 s q ts un x fl (w.setCell ⟨g, 39, none⟩ (.int .u8 x)) := by
  have e := Own.set h 39 (.int .u8 x)
  rw [lz_kind] at e
  exact e
theorem At.flag {g : Nat} {u : ByteArray} {r0 r1 : Int} {s : ByteArray} {q : Nat} {ts un kd fl : Int} {w : World} (h : At g u r0 r1 s q ts un kd fl w) (x : Int) : At g u r0 r1 s q ts un kd x (w.setCell ⟨g, 40, none⟩ (.int .u8 x)) := by
  have e := Own.set h 40 (.int .u8 x)
  rw [lz_flag] at e
  exact e
theorem At.unit {g : Nat} {u : ByteArray} {r0 r1 : Int} {s : ByteArray} {q : Nat} {ts un kd fl : Int} {w : World} (h : At g u r0 r1 s q ts un kd fl w) (x : Int) : At g u r0 r1 s q ts x kd fl (w.setCell ⟨g, 38, none⟩ (.int .u16 x)) := by
  have e := Own.set h 38 (.int .u16 x)
  rw [lz_un] at e
  exact e
theorem At.on {g : Nat} {u : ByteArray} {r0 r1 : Int} {s : ByteArray} {q : Nat} {ts un kd fl : Int} {w : World} (h : At g u r0 r1 s q ts un kd fl w) (k : Nat) (hk : q + wdOf s q ≤ k) (hn : ∀ j, q + wdOf s q ≤ j → j < k → bt s j ≠ 10) : On g u r0 r1 s k (cpOf s q) ts ((q : Int) - ts) un kd fl (w.setCell ⟨g, 33, none⟩ (.int .i64 (k : Int))) := by
  have e := Own.set h 33 (.int .i64 (k : Int))
  rw [lz_cur, ← cnt_skip (s := s) (a := q + wdOf s q) (k - (q + wdOf s q)) (fun j a b => hn j a (by omega)), show q + wdOf s q + (k - (q + wdOf s q)) = k by omega] at e
  exact e
theorem At.tok {g : Nat} {u : ByteArray} {r0 r1 : Int} {s : ByteArray} {q : Nat} {ts un kd fl : Int} {w : World} (h : At g u r0 r1 s q ts un kd fl w) : At g u r0 r1 s q q 0 0 0 (((((w.setCell ⟨g, 36, none⟩ (.int .i32 (q : Int))).setCell ⟨g, 37, none⟩ (.int .i32 0)).setCell ⟨g, 38, none⟩ (.int .u16 0)).setCell ⟨g, 39, none⟩ (.int .u8 0)).setCell ⟨g, 40, none⟩ (.int .u8 0)) := by
  have e := ((((Own.set h 36 (.int .i32 (q : Int))).set 37 (.int .i32 0)).set 38 (.int .u16 0)).set 39 (.int .u8 0)).set 40 (.int .u8 0)
  rw [lz_tok] at e
  unfold At
  rw [Int.sub_self]
  exact e
theorem _root_.Go.Proofs.YtcljenkgbbbfpaaDoor.Lu.Fr.setc {g : Nat} {w w' : World} (h : Fr g w w') (i : Nat) (v : Value) : Fr g w (w'.setCell ⟨g, i, none⟩ v) :=
  ⟨h.os, h.tape, h.output, by rw [World.size_setCell]; exact h.size, fun k hk hne => (Below.heap_setCell w' ⟨g, i, none⟩ v k hne).trans (h.block k hk hne)⟩
theorem _root_.Go.Proofs.YtcljenkgbbbfpaaDoor.Lu.Fr.bel {g : Nat} {w w' w2 : World} (h : Fr g w w') (hb : Below w'.heap.size w' w2) : Fr g w w2 :=
  Fr.trans h ⟨hb.os, hb.tape, hb.output, hb.size, fun k hk _ => hb.block k hk⟩
end Go.Proofs.YtcljenkgbbbfpaaDoor.Za
