/-
  Contract for the laws on symbol links: zzBuild lays the symbols source by source. Conditions: sizes alone.
-/
import Derived.Test.YtbppncnhdhogbaaDoorFy
namespace Go.Proofs.YtbppncnhdhogbaaDoor.Fe
open Go.RowKit Go.PlainAid Mem Rws Rt Fa Pl Fb Rq Fc Fy
set_option linter.unusedVariables false
/-- What zzBuild lays. -/
def bd (T : Nat → Int) (X Y : Nat → Nat) (nu : Nat) (U : Nat → Int) (nf : Nat) (K : Nat → Int) (nm : Bool) : Dat where
  N := fun i => if nm then nmS i else ⟨#[]⟩
  X := fun i => if T i < 0 then 4294967295 else (X (T i).toNat : Int)
  Y := fun i => if T i < 0 then 4294967295 else (Y (T i).toNat : Int)
  U := atN nu U
  K := atN nf K
def zD : Dat := ⟨fun _ => ⟨#[]⟩, fun _ => 0, fun _ => 0, fun _ => 0, fun _ => 0⟩
def mix (D : Dat) (C : Nat → Nat) (k j l : Nat) : Value := if l / 10 < j then syAt D C k l else syc zD 0 (l % 10)
theorem mix_end (D : Dat) (C : Nat → Nat) (k l : Nat) (h : l < C k * 10) : mix D C k (C k) l = syAt D C k l := by unfold mix; rw [if_pos (by omega)]
theorem mix_at (D : Dat) (C : Nat → Nat) (k j q : Nat) (hq : q < 10) : mix D C k j (j * 10 + q) = syc zD 0 q := by
  unfold mix; rw [if_neg (by omega), show (j * 10 + q) % 10 = q by omega]
theorem over_one (F : Nat → Value) (o l : Nat) (v : Value) : over F o [v] l = if l = o then v else F l := by
  unfold over
  by_cases h : l = o
  · subst h; rw [if_pos ⟨by omega, by simp⟩, if_pos rfl]; simp
  · rw [if_neg (by simp; omega), if_neg h]
theorem mix_out (D : Dat) (C : Nat → Nat) (k j r q : Nat) (hq : q < 10) (h : r ≠ j) : mix D C k (j + 1) (r * 10 + q) = mix D C k j (r * 10 + q) := by
  unfold mix
  rw [show (r * 10 + q) / 10 = r by omega]
  by_cases h1 : r < j
  · rw [if_pos (by omega), if_pos h1]
  · rw [if_neg (by omega), if_neg h1]
theorem mix_in (D : Dat) (C : Nat → Nat) (k j q : Nat) (hq : q < 10) : mix D C k (j + 1) (j * 10 + q) = syc D (P C k + j) q := by
  unfold mix
  rw [if_pos (by omega), syAt_eq _ _ _ _ _ hq]
/-- One symbol's fields stored, one after the other. -/
def lay (F : Nat → Value) (o : Nat) (x y u f s : Value) : Nat → Value := over (over (over (over (over F (o + 2) [x]) (o + 3) [y]) (o + 4) [u]) (o + 7) [f]) (o + 1) [s]
theorem mix_step (D : Dat) (C : Nat → Nat) (k j l : Nat) : lay (mix D C k j) (j * 10) (.int .u32 (D.X (P C k + j))) (.int .u32 (D.Y (P C k + j))) (.int .u32 (D.U (P C k + j))) (.int .u16 (D.K (P C k + j))) (.string (D.N (P C k + j))) l = mix D C k (j + 1) l := by
  obtain ⟨r, q, hq, rfl⟩ : ∃ r q, q < 10 ∧ l = r * 10 + q := ⟨l / 10, l % 10, by omega, by omega⟩
  unfold lay
  rw [over_one, over_one, over_one, over_one, over_one]
  by_cases h : r = j
  · subst h
    rw [mix_in _ _ _ _ _ hq]
    obtain rfl | rfl | rfl | rfl | rfl | rfl | rfl | rfl | rfl | rfl : q = 0 ∨ q = 1 ∨ q = 2 ∨ q = 3 ∨ q = 4 ∨ q = 5 ∨ q = 6 ∨ q = 7 ∨ q = 8 ∨ q = 9 := by omega
    · rw [if_neg (by omega), if_neg (by omega), if_neg (by omega), if_neg (by omega), if_neg (by omega), mix_at _ _ _ _ _ hq]; rfl
    · rw [if_pos rfl]; rfl
    · rw [if_neg (by omega), if_neg (by omega), if_neg (by omega), if_neg (by omega), if_pos rfl]; rfl
    · rw [if_neg (by omega), if_neg (by omega), if_neg (by omega), if_pos rfl]; rfl
    · rw [if_neg (by omega), if_neg (by omega), if_pos rfl]; rfl
    · rw [if_neg (by omega), if_neg (by omega), if_neg (by omega), if_neg (by omega), if_neg (by omega), mix_at _ _ _ _ _ hq]; rfl
    · rw [if_neg (by omega), if_neg (by omega), if_neg (by omega), if_neg (by omega), if_neg (by omega), mix_at _ _ _ _ _ hq]; rfl
    · rw [if_neg (by omega), if_pos rfl]; rfl
    · rw [if_neg (by omega), if_neg (by omega), if_neg (by omega), if_neg (by omega), if_neg (by omega), mix_at _ _ _ _ _ hq]; rfl
    · rw [if_neg (by omega), if_neg (by omega), if_neg (by omega), if_neg (by omega), if_neg (by omega), mix_at _ _ _ _ _ hq]; rfl
  · rw [mix_out _ _ _ _ _ _ hq h, if_neg (by omega), if_neg (by omega), if_neg (by omega), if_neg (by omega), if_neg (by omega)]
/-- The same without the name: it is empty. -/
theorem mix_step' (D : Dat) (C : Nat → Nat) (k j l : Nat) (hN : D.N (P C k + j) = ⟨#[]⟩) : over (over (over (over (mix D C k j) (j * 10 + 2) [.int .u32 (D.X (P C k + j))]) (j * 10 + 3) [.int .u32 (D.Y (P C k + j))]) (j * 10 + 4) [.int .u32 (D.U (P C k + j))]) (j * 10 + 7) [.int .u16 (D.K (P C k + j))] l = mix D C k (j + 1) l := by
  rw [← mix_step]
  unfold lay
  rw [over_one _ (j * 10 + 1)]
  by_cases h : l = j * 10 + 1
  · subst h
    rw [if_pos rfl, hN, over_one, over_one, over_one, over_one, if_neg (by omega), if_neg (by omega), if_neg (by omega), if_neg (by omega), mix_at _ _ _ _ _ (by omega)]
    rfl
  · rw [if_neg h]
theorem Cells.set1 {w : World} {g k : Nat} {t : TypeId} {F : Nat → Value} (h : Cells w g t k F) (o : Nat) (v : Value) : Cells (w.setCell ⟨g, o, none⟩ v) g t k (over F o [v]) := h.set o [v]
/-- Sources before k are laid. -/
structure Bo (w : World) (Z G V m : Nat) (C g : Nat → Nat) (D : Dat) (k : Nat) (wr : World) : Prop where
  top : Cells wr G 64 m (fun s => if s < k then .slice (some ⟨g s, 0, none⟩) (C s) (C s) else .slice none 0 0)
  row : ∀ s, s < k → Cells wr (g s) 58 (C s * 10) (syAt D C s)
  glo : ∀ s, s < k → Z ≤ g s
  inj : ∀ s s', s < k → s' < k → g s = g s' → s = s'
  var : Own wr V 40 #[.slice (some ⟨G, 0, none⟩) m m]
  res : ∃ x, Own wr w.heap.size 40 #[x]
  b : Below w.heap.size w wr
  hG : w.heap.size < G ∧ G < Z
  hV : w.heap.size < V ∧ V < Z
  vg : V ≠ G
  z : Z ≤ wr.heap.size
/-- The source k laid in the block h, and written into the map. -/
theorem Bo.next {w : World} {Z G V m : Nat} {C g : Nat → Nat} {D : Dat} {k : Nat} {wo wr : World} (h : Bo w Z G V m C g D k wo) (hk : k < m) (hb : Below wo.heap.size wo wr) (hc : Cells wr wo.heap.size 58 (C k * 10) (syAt D C k)) :
    Bo w Z G V m C (fun s => if s = k then wo.heap.size else g s) D (k + 1) (wr.setCell ⟨G, k, none⟩ (.slice (some ⟨wo.heap.size, 0, none⟩) (C k) (C k))) := by
  have hgl : ∀ s, s < k → g s < wo.heap.size := fun s hs => (h.row s hs).lt
  have hz := h.z
  have hG := h.hG
  have hV := h.hV
  obtain ⟨x, hres⟩ := h.res
  refine ⟨?_, fun s hs => ?_, fun s hs => ?_, fun s s' hs hs' e => ?_, ?_, ⟨x, ?_⟩, ?_, h.hG, h.hV, h.vg, ?_⟩
  · refine (Cells.set1 (h.top.below hb (by omega)) k _).congr fun l hl => ?_
    rw [over_one]
    by_cases e : l = k
    · subst e; rw [if_pos rfl, if_pos (by omega), if_pos rfl]
    · rw [if_neg e]
      by_cases hlk : l < k
      · rw [if_pos hlk, if_pos (by omega), if_neg e]
      · rw [if_neg hlk, if_neg (by omega)]
  · by_cases e : s = k
    · subst e
      simp only [if_true]
      exact Cells.fari hc (by omega) _ _
    · simp only [if_neg e]
      have := hgl s (by omega)
      have hlo := h.glo s (by omega)
      exact Cells.fari ((h.row s (by omega)).below hb this) (by omega) _ _
  · by_cases e : s = k
    · simp only [if_pos e]; omega
    · simp only [if_neg e]; exact h.glo s (by omega)
  · by_cases e1 : s = k
    · by_cases e2 : s' = k
      · omega
      · simp only [if_pos e1, if_neg e2] at e
        have := hgl s' (by omega)
        omega
    · by_cases e2 : s' = k
      · simp only [if_neg e1, if_pos e2] at e
        have := hgl s (by omega)
        omega
      · simp only [if_neg e1, if_neg e2] at e
        exact h.inj s s' (by omega) (by omega) e
  · exact (h.var.below hb (by omega)).far (p := ⟨G, k, none⟩) (by show V ≠ G; exact h.vg) _
  · exact (hres.below hb (by omega)).far (p := ⟨G, k, none⟩) (by show w.heap.size ≠ G; omega) _
  · exact ((h.b.trans (hb.mono h.b.size)).setCell (by show w.heap.size ≤ G; omega) _)
  · have := hb.size
    rw [World.size_setCell]; omega
theorem Bo.done {w : World} {Z G V m : Nat} {C g : Nat → Nat} {D : Dat} {wr : World} (h : Bo w Z G V m C g D m wr) : Sy w.heap.size G m C g D wr :=
  ⟨h.top.congr fun s hs => by rw [if_pos hs], h.row, by have := h.hG; omega, fun s hs => by have := h.hG; have := h.hV; have := h.glo s hs; omega, h.inj⟩
theorem Bo.done1 {w : World} {Z G V m : Nat} {C g : Nat → Nat} {D : Dat} {wr : World} (h : Bo w Z G V m C g D m wr) (v : Value) : Sy w.heap.size G m C g D (wr.setCell ⟨w.heap.size, 0, none⟩ v) :=
  ⟨Cells.fari h.done.top (by have := h.hG; omega) _ _, fun s hs => Cells.fari (h.row s hs) (by have := h.hG; have := h.glo s hs; omega) _ _, h.done.lo, h.done.glo, h.done.inj⟩
/-- The four stores of a round, and the block of its own link. -/
def st4 (w2 : World) (h jj : Nat) (x y u f : Int) (o : Obj) : World := ((((w2.setCell ⟨h, jj * 10 + 2, none⟩ (.int .u32 x)).setCell ⟨h, jj * 10 + 2 + 1, none⟩ (.int .u32 y)).setCell ⟨h, jj * 10 + 4, none⟩ (.int .u32 u)).setCell ⟨h, jj * 10 + 7, none⟩ (.int .u16 f)).alloc o
theorem st4_cells {w2 : World} {D : Dat} {C : Nat → Nat} {h k jj : Nat} (hc : Cells w2 h 58 (C k * 10) (mix D C k jj)) (x y u f : Int) (o : Obj) :
    Cells (st4 w2 h jj x y u f o) h 58 (C k * 10) (over (over (over (over (mix D C k jj) (jj * 10 + 2) [.int .u32 x]) (jj * 10 + 3) [.int .u32 y]) (jj * 10 + 4) [.int .u32 u]) (jj * 10 + 7) [.int .u16 f]) :=
  Cells.alloc (Cells.set1 (Cells.set1 (Cells.set1 (Cells.set1 hc (jj * 10 + 2) (.int .u32 x)) (jj * 10 + 3) (.int .u32 y)) (jj * 10 + 4) (.int .u32 u)) (jj * 10 + 7) (.int .u16 f)) o
theorem st4_below {B : Nat} {wo w2 : World} (hb : Below B wo w2) (h jj : Nat) (hB : B ≤ h) (x y u f : Int) (o : Obj) (hs : B ≤ w2.heap.size) : Below B wo (st4 w2 h jj x y u f o) :=
  Below.alloc ((((hb.setCell hB _).setCell hB _).setCell hB _).setCell hB _) (by simpa using hs) o
theorem fin1 {w2 : World} {D : Dat} {C : Nat → Nat} {h k jj i : Nat} (hc : Cells w2 h 58 (C k * 10) (mix D C k jj)) (hi : P C k + jj = i) {x y u f : Int} (hx : D.X i = x) (hy : D.Y i = y) (hu : D.U i = u) (hf : D.K i = f) (hN : D.N i = ⟨#[]⟩) (o : Obj) :
    Cells (st4 w2 h jj x y u f o) h 58 (C k * 10) (mix D C k (jj + 1)) := by
  subst hi hx hy hu hf
  exact (st4_cells hc _ _ _ _ o).congr fun l hl => mix_step' D C k jj l hN
theorem fin2 {w2 w5 : World} {D : Dat} {C : Nat → Nat} {h k jj i : Nat} (hc : Cells w2 h 58 (C k * 10) (mix D C k jj)) (hi : P C k + jj = i) {x y u f : Int} {s : ByteArray} (hx : D.X i = x) (hy : D.Y i = y) (hu : D.U i = u) (hf : D.K i = f) (hN : D.N i = s) (o : Obj)
    (hb : Below (st4 w2 h jj x y u f o).heap.size (st4 w2 h jj x y u f o) w5) :
    Cells (w5.setCell ⟨h, jj * 10 + 1, none⟩ (.string s)) h 58 (C k * 10) (mix D C k (jj + 1)) := by
  subst hi hx hy hu hf hN
  have h4 := st4_cells hc (D.X (P C k + jj)) (D.Y (P C k + jj)) (D.U (P C k + jj)) (D.K (P C k + jj)) o
  exact (Cells.set1 (h4.below hb h4.lt) _ _).congr fun l hl => mix_step D C k jj l
/-- What zzBuild answers. -/
def BuiltOf (m : Nat) (C : Nat → Nat) (D : Dat) (w : World) (e : Ending) (w' : World) : Prop := ∃ G g, e = .returned (smV G m) ∧ Sy w.heap.size G m C g D w' ∧ Below w.heap.size w w'
theorem made_sym (w : World) (C : Nat → Nat) (D : Dat) (k : Nat) : Cells (w.alloc (.cells (madeCells #[.pointer none, .string ⟨#[]⟩, .int .u32 0, .int .u32 0, .int .u32 0, .int .u32 0, .int .u32 0, .int .u16 0, .int .u8 0, .int .u8 0] (C k * 10)) 58)) w.heap.size 58 (C k * 10) (mix D C k 0) :=
  ⟨_, Own.new _ _ _, size_madeCells _ _, fun l hl => by
    rw [made_at _ _ _ hl]
    unfold mix
    rw [if_neg (by omega)]
    have hq : l % 10 < 10 := by omega
    show some ((#[.pointer none, .string ⟨#[]⟩, .int .u32 0, .int .u32 0, .int .u32 0, .int .u32 0, .int .u32 0, .int .u16 0, .int .u8 0, .int .u8 0] : Array Value)[l % 10]!) = _
    generalize l % 10 = q at hq
    obtain rfl | rfl | rfl | rfl | rfl | rfl | rfl | rfl | rfl | rfl : q = 0 ∨ q = 1 ∨ q = 2 ∨ q = 3 ∨ q = 4 ∨ q = 5 ∨ q = 6 ∨ q = 7 ∨ q = 8 ∨ q = 9 := by omega
    all_goals rfl⟩
set_option maxRecDepth 100000 in
set_option maxHeartbeats 16000000 in
theorem build14 (Ac : Option Addr) (m cc : Nat) (C : Nat → Nat) (Ar : Option Addr) (n cr : Nat) (X Y : Nat → Nat) (At : Option Addr) (ct : Nat) (T : Nat → Int) (Au : Option Addr) (nu cu : Nat) (U : Nat → Int) (Af : Option Addr) (nf cf : Nat) (K : Nat → Int) (nm : Bool) (w : World)
    (hC : Rd w w.heap.size 1 Ac m (fun j => .int .i64 (C j))) (hR : Rd w w.heap.size 2 Ar n (pr X Y)) (hTr : Rd w w.heap.size 1 At n (fun j => .int .i64 (T j))) (hU : Rd w w.heap.size 1 Au nu (fun j => .int .u32 (U j))) (hK : Rd w w.heap.size 1 Af nf (fun j => .int .u16 (K j)))
    (hP : P C m = n) (hT : ∀ j, j < n → -1 ≤ T j ∧ T j < (n : Int)) (hX : ∀ j, j < n → X j ≤ 5000 ∧ Y j ≤ 5000) (hn : n ≤ 4096) (hm : m ≤ 4097) (hnu : nu ≤ 1048576) (hnf : nf ≤ 1048576) :
    Calls Tryd.prog 14 #[.slice Ac m cc, .slice Ar n cr, .slice At n ct, .slice Au nu cu, .slice Af nf cf, .bool nm] w (BuiltOf m C (bd T X Y nu U nf K nm) w) := by
  have H18 : Hid (∀ (i : Nat) (W : World), i ≤ 4096 → Below w.heap.size w W → Calls Tryd.prog 18 #[.slice Au nu cu, .int .i64 (i : Int)] W fun e w' => e = .returned (.int .u32 (atN nu U i)) ∧ W = w') := Lib.hid fun i W hi hb => at18 Au nu cu i U W ((hU.below hb).mono hb.size) hnu hi
  have H19 : Hid (∀ (i : Nat) (W : World), i ≤ 4096 → Below w.heap.size w W → Calls Tryd.prog 19 #[.slice Af nf cf, .int .i64 (i : Int)] W fun e w' => e = .returned (.int .u16 (atN nf K i)) ∧ W = w') := Lib.hid fun i W hi hb => at19 Af nf cf i K W ((hK.below hb).mono hb.size) hnf hi
  have HC := Lib.hid hC
  have HR := Lib.hid hR
  have HTR := Lib.hid hTr
  have HP := Lib.hid hP
  have HT := Lib.hid hT
  have HX := Lib.hid hX
  generalize hD : bd T X Y nu U nf K nm = D
  have HDU : Hid (∀ i, D.U i = atN nu U i) := Lib.hid fun i => by rw [← hD]; rfl
  have HDK : Hid (∀ i, D.K i = atN nf K i) := Lib.hid fun i => by rw [← hD]; rfl
  have HDN : Hid (∀ i, D.N i = if nm then nmS i else ⟨#[]⟩) := Lib.hid fun i => by rw [← hD]; rfl
  have HDneg : Hid (∀ i, T i < 0 → D.X i = 4294967295 ∧ D.Y i = 4294967295) := Lib.hid fun i h => by
    rw [← hD]
    exact ⟨if_pos h, if_pos h⟩
  have HDpos : Hid (∀ (i t : Nat), T i = (t : Int) → D.X i = (X t : Int) ∧ D.Y i = (Y t : Int)) := Lib.hid fun i t h => by
    rw [← hD]
    show (if T i < 0 then (4294967295 : Int) else (X (T i).toNat : Int)) = _ ∧ (if T i < 0 then (4294967295 : Int) else (Y (T i).toNat : Int)) = _
    rw [if_neg (by omega), if_neg (by omega), h, Int.toNat_natCast]
    exact ⟨rfl, rfl⟩
  clear hD
  clear hC hR hTr hU hK hP hT hX
  go_enter Tryd.func14, Tryd.ntmps14
  go_wp2_with fail
  refine (new24 m hm _).mono ?_
  rintro e w1 ⟨G, rfl, hG, hcG, hb1⟩
  have HCG := Lib.hid hcG
  have HB1 := Lib.hid hb1
  clear hcG hb1
  unfold smV
  go_wp2_with fail
  have hG' : w.heap.size + 1 ≤ G := by simpa using hG
  have hGl : G < w1.heap.size := HCG.out.lt
  have HS : Hid (Bo w (w1.heap.size + 1) G w1.heap.size m C (fun _ => 0) D 0 (w1.alloc (.cells #[.slice (some ⟨G, 0, none⟩) m m] 40))) := Lib.hid
    ⟨(HCG.out.alloc _).congr (fun l hl => by rw [if_neg (by omega)]), fun s hs => absurd hs (Nat.not_lt_zero s), fun s hs => absurd hs (Nat.not_lt_zero s), fun s s' hs => absurd hs (Nat.not_lt_zero s), Own.new _ _ _,
      ⟨_, ((Own.new w 40 _).below HB1.out (by simp)).alloc _⟩, ((Below.refl _ _).alloc (Nat.le_refl _) _).trans ((HB1.out.mono (by simp)).trans (Below.alloc (Below.refl _ _) (by omega) _)), ⟨by omega, by omega⟩, ⟨by omega, by omega⟩, by omega, by simp⟩
  clear hG HCG HB1
  go_loopw [14, 15] (fun p i wr => ∃ (k : Nat) (g : Nat → Nat), k ≤ m ∧ i = .int .i64 k ∧ p = .int .i64 (P C k) ∧ Hid (Bo w (w1.heap.size + 1) G w1.heap.size m C g D k wr)) (fun _ i _ => m - (intOf i).toNat)
  case atStart => exact ⟨0, _, by omega, rfl, rfl, HS⟩
  case round =>
    clear HS
    obtain ⟨k, g, hk, rfl, rfl, HB⟩ := hrel
    obtain ⟨wo, rfl⟩ : ∃ wo : World, wo = wr := ⟨_, rfl⟩
    by_cases hlt : k < m
    · obtain ⟨bc, oc, rfl, hbc, hcc⟩ := HC.out (by omega)
      have hck : wo.cell? ⟨bc, oc + k, none⟩ = some (.int .i64 (C k)) := (HB.out.b.cell (p := ⟨bc, oc + k, none⟩) hbc).trans (hcc k (by omega))
      have hPk := P_at C hlt
      have hPn := HP.out
      have hCk : P C k + C k ≤ n := by omega
      have hmk := run_mkc (P := Tryd.prog) 64 58 _ _ rfl _ _ Tryd.underlying64 info58 (C k) (C k) (Nat.le_refl _) (by omega) (by omega)
      have HCC := Lib.hid hcc
      have hwz : w.heap.size ≤ wo.heap.size := HB.out.b.size
      have HMS : Hid (∀ W : World, Cells (W.alloc (.cells (madeCells #[.pointer none, .string ⟨#[]⟩, .int .u32 0, .int .u32 0, .int .u32 0, .int .u32 0, .int .u32 0, .int .u16 0, .int .u8 0, .int .u8 0] (C k * 10)) 58)) W.heap.size 58 (C k * 10) (mix D C k 0)) := Lib.hid fun W => made_sym W C D k
      clear hcc hPk hPn
      go_wp2_with fail
      go_loopw [14, 17] (fun p j wr => ∃ jj : Nat, jj ≤ C k ∧ j = .int .i64 jj ∧ p = .int .i64 ((P C k + jj : Nat) : Int) ∧ Hid (Cells wr wo.heap.size 58 (C k * 10) (mix D C k jj) ∧ Below wo.heap.size wo wr)) (fun _ j _ => C k - (intOf j).toNat)
      case atStart => exact ⟨0, by omega, rfl, rfl, Lib.hid ⟨HMS.out wo, by go_grown⟩⟩
      case round =>
        clear HMS hmk hck
        obtain ⟨jj, hjj, rfl, rfl, HI⟩ := hrel
        obtain ⟨wi, rfl⟩ : ∃ wi : World, wi = wr := ⟨_, rfl⟩
        have hbw : Below w.heap.size w wi := HB.out.b.trans (HI.out.2.mono hwz)
        have hck : wi.cell? ⟨bc, oc + k, none⟩ = some (.int .i64 (C k)) := (hbw.cell (p := ⟨bc, oc + k, none⟩) hbc).trans (HCC.out k (by omega))
        have HBW := Lib.hid hbw
        clear hbw
        by_cases hjl : jj < C k
        · obtain ⟨i, hi⟩ : ∃ i, P C k + jj = i := ⟨_, rfl⟩
          have hin : i < n := by omega
          rw [hi]
          have HII := Lib.hid hi
          clear hi
          have t1 : decide (jj < C k) = true := decide_eq_true hjl
          go_wp2_with fail
          refine (inv25 _).mono ?_
          rintro e w2 ⟨rfl, hb2⟩
          have hbw2 := HBW.out.trans (hb2.mono HBW.out.size)
          have HC2 := Lib.hid (HI.out.1.below hb2 HI.out.1.lt)
          have HB2 := Lib.hid (HI.out.2.trans (hb2.mono HI.out.2.size))
          have hz2 := HB2.out.size
          have HBW2 := Lib.hid hbw2
          obtain ⟨bt_, ot, rfl, hbt, hct⟩ := HTR.out (by omega)
          have hTi : w2.cell? ⟨bt_, ot + i, none⟩ = some (.int .i64 (T i)) := (hbw2.cell (p := ⟨bt_, ot + i, none⟩) hbt).trans (hct i (by omega))
          obtain ⟨br, or, rfl, hbr, hcr⟩ := HR.out (by omega)
          have hRc : Hid (∀ t : Nat, t < n → w2.cell? ⟨br, or + t * 2, none⟩ = some (.int .u32 (X t)) ∧ w2.cell? ⟨br, or + t * 2 + 1, none⟩ = some (.int .u32 (Y t))) := Lib.hid fun t ht =>
            ⟨(hbw2.cell (p := ⟨br, or + t * 2, none⟩) hbr).trans ((hcr (t * 2) (by omega)).trans (by rw [(pr_at X Y t).1])), (hbw2.cell (p := ⟨br, or + t * 2 + 1, none⟩) hbr).trans ((hcr (t * 2 + 1) (by omega)).trans (by rw [(pr_at X Y t).2]))⟩
          have c1 := HC2.out.cell (l := jj * 10 + 1) (by omega)
          have c2 := HC2.out.cell (l := jj * 10 + 2) (by omega)
          have c3 := HC2.out.cell (l := jj * 10 + 3) (by omega)
          have c4 := HC2.out.cell (l := jj * 10 + 4) (by omega)
          have c7 := HC2.out.cell (l := jj * 10 + 7) (by omega)
          have f1 := HC2.out.frozen (jj * 10 + 1)
          have f2 := HC2.out.frozen (jj * 10 + 2)
          have f3 := HC2.out.frozen (jj * 10 + 3)
          have f4 := HC2.out.frozen (jj * 10 + 4)
          have f7 := HC2.out.frozen (jj * 10 + 7)
          have hlt2 := HC2.out.lt
          have hbrl : br < w2.heap.size := by have := HBW2.out.size; omega
          have hbtl : bt_ < w2.heap.size := by have := HBW2.out.size; omega
          clear hct hcr hbw2 hb2 hck HI
          unfold refV
          have eu : Hid (D.U i = atN nu U i) := Lib.hid (HDU.out i)
          have ef : Hid (D.K i = atN nf K i) := Lib.hid (HDK.out i)
          by_cases hneg : T i < 0
          · have ex := Lib.hid (HDneg.out i hneg).1
            have ey := Lib.hid (HDneg.out i hneg).2
            have t2 : decide (0 ≤ T i) = false := decide_eq_false (by omega)
            clear hRc
            go_wp2_with fail
            refine (H18.out i _ (by omega) (((HBW2.out.setCell hwz _).setCell hwz _).alloc (by simp; omega) _)).mono ?_
            rintro e w9 ⟨rfl, rfl⟩
            go_wp2_with fail
            refine (H19.out i _ (by omega) ((((HBW2.out.setCell hwz _).setCell hwz _).setCell hwz _).alloc (by simp; omega) _)).mono ?_
            rintro e w9 ⟨rfl, rfl⟩
            cases nm
            · have hN : Hid (D.N i = ⟨#[]⟩) := Lib.hid (by rw [HDN.out]; rfl)
              go_wp2_with fail
              go_roundw
              case rel => exact ⟨jj + 1, by omega, by go_num, by have := HII.out; go_num, Lib.hid ⟨fin1 HC2.out HII.out ex.out ey.out eu.out ef.out hN.out _, st4_below HB2.out _ _ (Nat.le_refl _) _ _ _ _ _ hz2⟩⟩
              case measure => simp [intOf]; omega
            · have hN : Hid (D.N i = nmS i) := Lib.hid (by rw [HDN.out]; rfl)
              go_wp2_with fail
              refine (name20 i (by omega) _).mono ?_
              rintro e w5 ⟨rfl, hb5⟩
              have HX5 := Lib.hid hb5
              have h4 := st4_cells HC2.out 4294967295 4294967295 (atN nu U i) (atN nf K i) (Obj.cells #[Value.int IntKind.u32 4294967295, Value.int IntKind.u32 4294967295] 43)
              have h5 := h4.below hb5 h4.lt
              have d1 := h5.cell (l := jj * 10 + 1) (by omega)
              have e1 := h5.frozen (jj * 10 + 1)
              clear hb5 h4 h5 c1 c2 c3 c4 c7 f1 f2 f3 f4 f7
              go_wp2_with fail
              go_roundw
              case rel => exact ⟨jj + 1, by omega, by go_num, by have := HII.out; go_num, Lib.hid ⟨fin2 HC2.out HII.out ex.out ey.out eu.out ef.out hN.out _ HX5.out, ((st4_below HB2.out _ _ (Nat.le_refl _) 4294967295 4294967295 (atN nu U i) (atN nf K i) _ hz2).trans (HX5.out.mono (st4_below HB2.out _ _ (Nat.le_refl _) 4294967295 4294967295 (atN nu U i) (atN nf K i) _ hz2).size)).setCell (Nat.le_refl _) _⟩⟩
              case measure => simp [intOf]; omega
          · obtain ⟨t, ht⟩ : ∃ t : Nat, T i = (t : Int) := ⟨(T i).toNat, by omega⟩
            have htn : t < n := by have := (HT.out i hin).2; omega
            have ex := Lib.hid (HDpos.out i t ht).1
            have ey := Lib.hid (HDpos.out i t ht).2
            obtain ⟨r1, r2⟩ := hRc.out t htn
            obtain ⟨hx1, hy1⟩ := HX.out t htn
            rw [ht] at hTi
            clear hRc ht hneg
            go_wp2_with fail
            refine (H18.out i _ (by omega) (((HBW2.out.setCell hwz _).setCell hwz _).alloc (by simp; omega) _)).mono ?_
            rintro e w9 ⟨rfl, rfl⟩
            go_wp2_with fail
            refine (H19.out i _ (by omega) ((((HBW2.out.setCell hwz _).setCell hwz _).setCell hwz _).alloc (by simp; omega) _)).mono ?_
            rintro e w9 ⟨rfl, rfl⟩
            cases nm
            · have hN : Hid (D.N i = ⟨#[]⟩) := Lib.hid (by rw [HDN.out]; rfl)
              go_wp2_with fail
              go_roundw
              case rel => exact ⟨jj + 1, by omega, by go_num, by have := HII.out; go_num, Lib.hid ⟨fin1 HC2.out HII.out ex.out ey.out eu.out ef.out hN.out _, st4_below HB2.out _ _ (Nat.le_refl _) _ _ _ _ _ hz2⟩⟩
              case measure => simp [intOf]; omega
            · have hN : Hid (D.N i = nmS i) := Lib.hid (by rw [HDN.out]; rfl)
              go_wp2_with fail
              refine (name20 i (by omega) _).mono ?_
              rintro e w5 ⟨rfl, hb5⟩
              have HX5 := Lib.hid hb5
              have h4 := st4_cells HC2.out (X t : Int) (Y t : Int) (atN nu U i) (atN nf K i) (Obj.cells #[Value.int IntKind.u32 (X t : Int), Value.int IntKind.u32 (Y t : Int)] 43)
              have h5 := h4.below hb5 h4.lt
              have d1 := h5.cell (l := jj * 10 + 1) (by omega)
              have e1 := h5.frozen (jj * 10 + 1)
              clear hb5 h4 h5 c1 c2 c3 c4 c7 f1 f2 f3 f4 f7
              go_wp2_with fail
              go_roundw
              case rel => exact ⟨jj + 1, by omega, by go_num, by have := HII.out; go_num, Lib.hid ⟨fin2 HC2.out HII.out ex.out ey.out eu.out ef.out hN.out _ HX5.out, ((st4_below HB2.out _ _ (Nat.le_refl _) (X t : Int) (Y t : Int) (atN nu U i) (atN nf K i) _ hz2).trans (HX5.out.mono (st4_below HB2.out _ _ (Nat.le_refl _) (X t : Int) (Y t : Int) (atN nu U i) (atN nf K i) _ hz2).size)).setCell (Nat.le_refl _) _⟩⟩
              case measure => simp [intOf]; omega
        · obtain rfl : jj = C k := by omega
          have HC2 : Hid (Cells wi wo.heap.size 58 (C k * 10) (syAt D C k)) := Lib.hid (HI.out.1.congr fun l hl => mix_end D C k l hl)
          have HB2 := Lib.hid HI.out.2
          have hVl := HB.out.var.lt
          have hv := (HB.out.var.below HB2.out hVl).cell 0
          have hGt := HB.out.top.below HB2.out HB.out.top.lt
          have hg := hGt.cell (l := k) hlt
          have hgf := hGt.frozen k
          simp only [List.getElem?_toArray, List.getElem?_cons_zero] at hv
          have t1 : decide (C k < C k) = false := decide_eq_false (by omega)
          clear HI hGt
          go_wp2_with fail
          go_roundw
          case rel => exact ⟨k + 1, _, by omega, by go_num, rfl, Lib.hid (HB.out.next hlt HB2.out HC2.out)⟩
          case measure => simp [intOf]; omega
    · obtain rfl : k = m := by omega
      have hv := HB.out.var.cell 0
      obtain ⟨x0, hres⟩ := HB.out.res
      have hr := hres.cell 0
      have hrf := hres.frozen 0
      have hVn : w1.heap.size ≠ w.heap.size := by have := HB.out.hV; omega
      simp only [List.getElem?_toArray, List.getElem?_cons_zero] at hv hr
      have hr2 : (wo.setCell ⟨w.heap.size, 0, none⟩ (.slice (some ⟨G, 0, none⟩) k k)).cell? ⟨w.heap.size, 0, none⟩ = some (.slice (some ⟨G, 0, none⟩) k k) := ((hres.set 0 _).cell 0).trans (by simp)
      clear hres
      go_wp2_with fail
      exact bodyPost_ret (v := smV G k) (by simp [results, Tryd.results14, go_sem, hr2, smV]) rfl ⟨G, g, rfl, HB.out.done1 _, HB.out.b.setCell (Nat.le_refl _) _⟩
end Go.Proofs.YtbppncnhdhogbaaDoor.Fe
