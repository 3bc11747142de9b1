/-
  Words for symbols in memory (a slice of slices of ten-cell structs) and contracts of the readers of one symbol. Conditions: sizes alone.
-/
import Derived.Test.YtbppncnhdhogbaaDoorFc
import Derived.Test.YtbppncnhdhogbaaDoorIt
import Derived.Deep.QuietTactic
import Derived.BigQuiet
import Derived.Deep.RegionHeld3
namespace Go.Proofs.YtbppncnhdhogbaaDoor.Fy
open Go.RowKit Go.PlainAid Mem Rws Rt Fa Pl Fb Rq Fc
set_option linter.unusedVariables false
/-- What symbols hold, by flat index. -/
structure Dat where
  N : Nat → ByteArray
  X : Nat → Int
  Y : Nat → Int
  U : Nat → Int
  K : Nat → Int
def syc (D : Dat) (i f : Nat) : Value := match f with
  | 0 => .pointer none
  | 1 => .string (D.N i)
  | 2 => .int .u32 (D.X i)
  | 3 => .int .u32 (D.Y i)
  | 4 => .int .u32 (D.U i)
  | 5 => .int .u32 0
  | 6 => .int .u32 0
  | 7 => .int .u16 (D.K i)
  | _ => .int .u8 0
def syAt (D : Dat) (C : Nat → Nat) (s l : Nat) : Value := syc D (P C s + l / 10) (l % 10)
theorem syAt_eq (D : Dat) (C : Nat → Nat) (s r q : Nat) (hq : q < 10) : syAt D C s (r * 10 + q) = syc D (P C s + r) q := by
  unfold syAt
  rw [show (r * 10 + q) / 10 = r by omega, show (r * 10 + q) % 10 = q by omega]
structure Sy (B G m : Nat) (C g : Nat → Nat) (D : Dat) (w : World) : Prop where
  top : Cells w G 64 m (fun s => .slice (some ⟨g s, 0, none⟩) (C s) (C s))
  row : ∀ s, s < m → Cells w (g s) 58 (C s * 10) (syAt D C s)
  lo : B ≤ G
  glo : ∀ s, s < m → B ≤ g s ∧ g s ≠ G
  inj : ∀ s s', s < m → s' < m → g s = g s' → s = s'
theorem Sy.below {B B' G m : Nat} {C g : Nat → Nat} {D : Dat} {w w' : World} (h : Sy B G m C g D w) (hb : Below B' w w') (hB : w.heap.size ≤ B') : Sy B G m C g D w' :=
  ⟨h.top.below hb (Nat.lt_of_lt_of_le h.top.lt hB), fun s hs => (h.row s hs).below hb (Nat.lt_of_lt_of_le (h.row s hs).lt hB), h.lo, h.glo, h.inj⟩
theorem Sy.drewN {B G m : Nat} {C g : Nat → Nat} {D : Dat} {w : World} (h : Sy B G m C g D w) (n : Nat) : Sy B G m C g D (w.drewN n) := h.below (B' := w.heap.size) (below_drewN (Below.refl _ _) n) (Nat.le_refl _)
theorem Sy.drew {B G m : Nat} {C g : Nat → Nat} {D : Dat} {w : World} (h : Sy B G m C g D w) : Sy B G m C g D w.drew := h.below (B' := w.heap.size) (below_drew (Below.refl _ _)) (Nat.le_refl _)
theorem Sy.alloc {B G m : Nat} {C g : Nat → Nat} {D : Dat} {w : World} (h : Sy B G m C g D w) (o : Obj) : Sy B G m C g D (w.alloc o) := h.below (B' := w.heap.size) (by go_grown) (Nat.le_refl _)
theorem Sy.cell {B G m : Nat} {C g : Nat → Nat} {D : Dat} {w : World} (h : Sy B G m C g D w) {i s r : Nat} (hL : Lc C m i s r) (q : Nat) (hq : q < 10) : w.cell? ⟨g s, r * 10 + q, none⟩ = some (syc D i q) := by
  obtain ⟨h1, h2, h3⟩ := hL
  rw [(h.row s h1).cell (l := r * 10 + q) (by omega), syAt_eq _ _ _ _ _ hq, h3]
theorem Sy.frozen {B G m : Nat} {C g : Nat → Nat} {D : Dat} {w : World} (h : Sy B G m C g D w) {s : Nat} (hs : s < m) (l : Nat) : w.frozen? ⟨g s, l, none⟩ = false := (h.row s hs).frozen l
theorem Sy.topc {B G m : Nat} {C g : Nat → Nat} {D : Dat} {w : World} (h : Sy B G m C g D w) {s : Nat} (hs : s < m) : w.cell? ⟨G, s, none⟩ = some (.slice (some ⟨g s, 0, none⟩) (C s) (C s)) := h.top.cell hs
/-- Some fields of one symbol stored. -/
theorem Sy.store {B G m : Nat} {C g : Nat → Nat} {D D' : Dat} {w : World} (h : Sy B G m C g D w) {i s r : Nat} (hL : Lc C m i s r) (f : Nat) (vs : List Value) (hf : f + vs.length ≤ 10)
    (h1 : ∀ t, t < vs.length → vs.getD t undef = syc D' i (f + t)) (h2 : ∀ q, q < f ∨ f + vs.length ≤ q → syc D' i q = syc D i q) (h3 : ∀ j q, j ≠ i → syc D' j q = syc D j q) :
    Sy B G m C g D' (w.setCells (g s) (r * 10 + f) vs) := by
  have hs := hL.1
  refine ⟨h.top.far (Ne.symm (h.glo s hs).2) _ _, fun s' hs' => ?_, h.lo, h.glo, h.inj⟩
  by_cases e : s' = s
  · subst e
    refine ((h.row s' hs).set (r * 10 + f) vs).congr fun l hl => ?_
    obtain ⟨r', q, hq, rfl⟩ : ∃ r' q, q < 10 ∧ l = r' * 10 + q := ⟨l / 10, l % 10, by omega, by omega⟩
    rw [syAt_eq _ _ _ _ _ hq]
    unfold over
    by_cases er : r' = r
    · subst er
      rw [hL.2.2]
      by_cases hin : f ≤ q ∧ q < f + vs.length
      · rw [if_pos (by omega), show r' * 10 + q - (r' * 10 + f) = q - f by omega, h1 _ (by omega), show f + (q - f) = q by omega]
      · rw [if_neg (by omega), syAt_eq _ _ _ _ _ hq, hL.2.2, h2 q (by omega)]
    · have hne : P C s' + r' ≠ i := by
        have := hL.2.2
        omega
      rw [if_neg (by omega), syAt_eq _ _ _ _ _ hq, h3 _ _ hne]
  · have hg : g s' ≠ g s := fun e2 => e (h.inj s' s hs' hs e2)
    refine ((h.row s' hs').far hg _ _).congr fun l hl => ?_
    obtain ⟨r', q, hq, rfl⟩ : ∃ r' q, q < 10 ∧ l = r' * 10 + q := ⟨l / 10, l % 10, by omega, by omega⟩
    rw [syAt_eq _ _ _ _ _ hq, syAt_eq _ _ _ _ _ hq]
    refine (h3 _ _ fun e2 => ?_).symm
    exact e (loc_uniq (loc_mk hs' (by omega)) (e2 ▸ hL)).1
def Dat.link (D : Dat) (i : Nat) (x y : Int) : Dat := { D with X := up D.X i x, Y := up D.Y i y }
theorem up_at (F : Nat → Int) (i : Nat) (x : Int) : up F i x i = x := if_pos rfl
theorem up_ne (F : Nat → Int) {i j : Nat} (x : Int) (h : j ≠ i) : up F i x j = F j := if_neg h
theorem Sy.link {B G m : Nat} {C g : Nat → Nat} {D : Dat} {w : World} (h : Sy B G m C g D w) {i s r : Nat} (hL : Lc C m i s r) (x y : Int) :
    Sy B G m C g (D.link i x y) (w.setCells (g s) (r * 10 + 2) [.int .u32 x, .int .u32 y]) := by
  refine h.store hL 2 _ (by simp) (fun t ht => ?_) (fun q hq => ?_) (fun j q hj => ?_)
  · have ht' : t < 2 := ht
    obtain rfl | rfl : t = 0 ∨ t = 1 := by omega
    · show Value.int .u32 x = Value.int .u32 (up D.X i x i); rw [up_at]
    · show Value.int .u32 y = Value.int .u32 (up D.Y i y i); rw [up_at]
  · have hq' : q < 2 ∨ 4 ≤ q := hq
    unfold syc Dat.link
    split <;> first | rfl | omega
  · unfold syc Dat.link
    split <;> first | rfl | (simp only; rw [up_ne _ _ hj])
theorem info58 : (Tryd.prog.info? 58).map (fun i => (i.zero, i.size, i.bytes)) = some (some (.agg #[.pointer none, .string ⟨#[]⟩, .int .u32 0, .int .u32 0, .int .u32 0, .int .u32 0, .int .u32 0, .int .u16 0, .int .u8 0, .int .u8 0]), 10, 48) := by kernel_rfl
def smV (G m : Nat) : Value := .agg #[.slice (some ⟨G, 0, none⟩) m m]
def refV (x y : Int) : Value := .agg #[.int .u32 x, .int .u32 y]
set_option maxRecDepth 100000 in
set_option maxHeartbeats 4000000 in
theorem get26 {B G m : Nat} {C g : Nat → Nat} {D : Dat} {w : World} (h : Sy B G m C g D w) {i s r : Nat} (hL : Lc C m i s r) (hm : m ≤ 4097) (hC : C s ≤ 4096) :
    Calls Tryd.prog 26 #[smV G m, refV s r] w fun e w' => e = .returned (.pointer (some ⟨g s, r * 10, none⟩)) ∧ Below w.heap.size w w' := by
  have hs := hL.1
  have hr := hL.2.1
  have hG := h.topc hs
  have hGl := h.top.lt
  have hne : G ≠ w.heap.size := by omega
  have hne2 : G ≠ w.heap.size + 1 := by omega
  have i0 : (0 : Int) ≤ (s : Int) := by omega
  have i1 : (s : Int) < (m : Int) := by omega
  have j0 : (0 : Int) ≤ (r : Int) := by omega
  have j1 : (r : Int) < (C s : Int) := by omega
  clear h hL
  unfold smV refV
  go_enter Tryd.func26, Tryd.ntmps26
  go_wp2_with fail
  go_quiet (fail)
  go_wp2_with fail
  go_ret
  exact ⟨rfl, below_drewN (by go_grown) _⟩
def symV (D : Dat) (i : Nat) : Value := .agg #[.pointer none, .string (D.N i), .int .u32 (D.X i), .int .u32 (D.Y i), .int .u32 (D.U i), .int .u32 0, .int .u32 0, .int .u16 (D.K i), .int .u8 0, .int .u8 0]
set_option maxRecDepth 100000 in
set_option maxHeartbeats 4000000 in
theorem cell21 {B G m : Nat} {C g : Nat → Nat} {D : Dat} {w : World} (h : Sy B G m C g D w) {i s r : Nat} (hL : Lc C m i s r) (hm : m ≤ 4097) (hC : C s ≤ 4096) :
    Calls Tryd.prog 21 #[smV G m, refV s r] w fun e w' => e = .returned (symV D i) ∧ Below w.heap.size w w' := by
  have hs := hL.1
  have hr := hL.2.1
  have hG := h.topc hs
  have hGl := h.top.lt
  have c0 : w.cell? ⟨g s, r * 10, none⟩ = some (.pointer none) := h.cell hL 0 (by omega)
  have c1 : w.cell? ⟨g s, r * 10 + 1, none⟩ = some (.string (D.N i)) := h.cell hL 1 (by omega)
  have c2 : w.cell? ⟨g s, r * 10 + 2, none⟩ = some (.int .u32 (D.X i)) := h.cell hL 2 (by omega)
  have c3 : w.cell? ⟨g s, r * 10 + 3, none⟩ = some (.int .u32 (D.Y i)) := h.cell hL 3 (by omega)
  have c4 : w.cell? ⟨g s, r * 10 + 4, none⟩ = some (.int .u32 (D.U i)) := h.cell hL 4 (by omega)
  have c5 : w.cell? ⟨g s, r * 10 + 5, none⟩ = some (.int .u32 0) := h.cell hL 5 (by omega)
  have c6 : w.cell? ⟨g s, r * 10 + 6, none⟩ = some (.int .u32 0) := h.cell hL 6 (by omega)
  have c7 : w.cell? ⟨g s, r * 10 + 7, none⟩ = some (.int .u16 (D.K i)) := h.cell hL 7 (by omega)
  have c8 : w.cell? ⟨g s, r * 10 + 8, none⟩ = some (.int .u8 0) := h.cell hL 8 (by omega)
  have c9 : w.cell? ⟨g s, r * 10 + 9, none⟩ = some (.int .u8 0) := h.cell hL 9 (by omega)
  have hgl : g s < w.heap.size := (h.row s hs).lt
  have hl1 : G < w.heap.size + 1 := by omega
  have hl2 : G < w.heap.size + 1 + 1 := by omega
  have hl1' : g s < w.heap.size + 1 := by omega
  have hl2' : g s < w.heap.size + 1 + 1 := by omega
  have i0 : (0 : Int) ≤ (s : Int) := by omega
  have i1 : (s : Int) < (m : Int) := by omega
  have j0 : (0 : Int) ≤ (r : Int) := by omega
  have j1 : (r : Int) < (C s : Int) := by omega
  clear h hL
  unfold smV refV symV
  go_enter Tryd.func21, Tryd.ntmps21
  go_wp2_with fail
  go_region
  go_wp2_with fail
  go_returns
  exact ⟨rfl, below_drew (by go_grown)⟩
theorem info64 : (Tryd.prog.info? 64).map (fun i => (i.zero, i.size, i.bytes)) = some (some (.slice none 0 0), 1, 24) := by kernel_rfl
/-- A new map of m sources. -/
def NewMap (m : Nat) (w : World) (e : Ending) (w' : World) : Prop := ∃ G, e = .returned (smV G m) ∧ w.heap.size ≤ G ∧ Cells w' G 64 m (fun _ => .slice none 0 0) ∧ Below w.heap.size w w'
set_option maxRecDepth 100000 in
set_option maxHeartbeats 4000000 in
theorem new24 (m : Nat) (hm : m ≤ 4097) (w : World) : Calls Tryd.prog 24 #[.int .i64 (m : Int)] w (NewMap m w) := by
  have hmk := run_mkc (P := Tryd.prog) 38 64 _ #[.slice none 0 0] rfl _ _ Tryd.underlying38 info64 m m (Nat.le_refl _) (by omega) (by omega)
  have HC : ∀ W : World, Hid (Cells (W.alloc (.cells (madeCells #[.slice none 0 0] (m * 1)) 64)) W.heap.size 64 m (fun _ => .slice none 0 0)) := fun W => Lib.hid ⟨_, Own.new _ _ _, by simp [size_madeCells], fun l hl => by
    rw [made_at _ _ _ (by omega)]
    show some ((#[Value.slice none 0 0] : Array Value)[l % 1]!) = _
    rw [Nat.mod_one]
    rfl⟩
  simp only [Nat.mul_one] at HC
  go_enter Tryd.func24, Tryd.ntmps24
  go_wp2_with fail
  try go_region
  try go_wp2_with fail
  go_returns
  have h := (HC (w.alloc (Obj.cells #[Value.slice (some { block := w.heap.size + 1, off := 0 }) m m] 40))).out
  rw [World.size_alloc] at h
  exact ⟨w.heap.size + 1, rfl, by omega, h, by go_grown⟩
set_option maxRecDepth 100000 in
theorem inv25 (w : World) : Calls Tryd.prog 25 #[] w fun e w' => e = .returned (refV 4294967295 4294967295) ∧ Below w.heap.size w w' := by
  unfold refV
  go_enter Tryd.func25, Tryd.ntmps25
  go_wp2_with fail
  try go_region
  try go_wp2_with fail
  go_returns
  exact ⟨rfl, by first | go_grown | exact below_drew (by go_grown)⟩
/-- The i-th number, or 0. -/
def atN (n : Nat) (Z : Nat → Int) (i : Nat) : Int := if i < n then Z i else 0
theorem at18 (A : Option Addr) (n c i : Nat) (Z : Nat → Int) (w : World) (hA : Rd w w.heap.size 1 A n (fun j => .int .u32 (Z j))) (hn : n ≤ 1048576) (hi : i ≤ 4096) :
    Calls Tryd.prog 18 #[.slice A n c, .int .i64 (i : Int)] w fun e w' => e = .returned (.int .u32 (atN n Z i)) ∧ w = w' := by
  by_cases h : i < n
  · obtain ⟨b, off, rfl, hb, hc⟩ := hA (by omega)
    have hck : w.cell? ⟨b, off + i, none⟩ = some (.int .u32 (Z i)) := hc i (by omega)
    have e : Hid (atN n Z i = Z i) := Lib.hid (if_pos h)
    have t : decide (i < n) = true := decide_eq_true h
    clear hc hA
    go_enter Tryd.func18, Tryd.ntmps18
    go_wp2
    go_ret
    exact ⟨by rw [e.out]; rfl, rfl⟩
  · have e : Hid (atN n Z i = 0) := Lib.hid (if_neg h)
    have t : decide (i < n) = false := decide_eq_false h
    clear hA
    go_enter Tryd.func18, Tryd.ntmps18
    go_wp2
    go_ret
    exact ⟨by rw [e.out]; rfl, rfl⟩
theorem at19 (A : Option Addr) (n c i : Nat) (Z : Nat → Int) (w : World) (hA : Rd w w.heap.size 1 A n (fun j => .int .u16 (Z j))) (hn : n ≤ 1048576) (hi : i ≤ 4096) :
    Calls Tryd.prog 19 #[.slice A n c, .int .i64 (i : Int)] w fun e w' => e = .returned (.int .u16 (atN n Z i)) ∧ w = w' := by
  by_cases h : i < n
  · obtain ⟨b, off, rfl, hb, hc⟩ := hA (by omega)
    have hck : w.cell? ⟨b, off + i, none⟩ = some (.int .u16 (Z i)) := hc i (by omega)
    have e : Hid (atN n Z i = Z i) := Lib.hid (if_pos h)
    have t : decide (i < n) = true := decide_eq_true h
    clear hc hA
    go_enter Tryd.func19, Tryd.ntmps19
    go_wp2
    go_ret
    exact ⟨by rw [e.out]; rfl, rfl⟩
  · have e : Hid (atN n Z i = 0) := Lib.hid (if_neg h)
    have t : decide (i < n) = false := decide_eq_false h
    clear hA
    go_enter Tryd.func19, Tryd.ntmps19
    go_wp2
    go_ret
    exact ⟨by rw [e.out]; rfl, rfl⟩
theorem digsOf_len : ∀ (m : Nat) (acc : List Int), (It.digsOf m acc).length ≤ m + acc.length := by
  intro m
  induction m using Nat.strongRecOn with
  | ind m ih =>
    intro acc
    rw [It.digsOf]
    split
    · omega
    · have := ih (m / 10) (by omega) ((48 + (m : Int) % 10) :: acc)
      simp at this ⊢
      omega
theorem itD_len (i : Nat) : (It.itD (i : Int)).length ≤ i + 1 := by
  by_cases h : (i : Int) ≤ 0
  · rw [It.itD_zero h]; simp
  · rw [It.itD_pos (by omega)]
    have := digsOf_len (i : Int).toNat []
    simp at this ⊢
    omega
/-- The name of symbol i. -/
def nmS (i : Nat) : ByteArray := ⟨#[115]⟩ ++ strOfNums (It.itD (i : Int))
theorem name20 (i : Nat) (hi : i ≤ 4096) (w : World) : Calls Tryd.prog 20 #[.int .i64 (i : Int)] w fun e w' => e = .returned (.string (nmS i)) ∧ Below w.heap.size w w' := by
  have hl := itD_len i
  have hsz : (strOfNums (It.itD (i : Int))).size ≤ 5000 := by rw [strOfNums_size]; omega
  have e : Hid (nmS i = ⟨#[115]⟩ ++ strOfNums (It.itD (i : Int))) := Lib.hid rfl
  go_enter Tryd.func20, Tryd.ntmps20
  go_wp2_with (go_at_call 28; refine (It.itoa_any (i : Int) (by omega) (by omega) _).mono ?_; rintro e w1 ⟨rfl, hb⟩)
  go_ret
  exact ⟨by rw [e.out]; rfl, hb⟩
set_option maxRecDepth 100000 in
set_option maxHeartbeats 4000000 in
theorem flat17 (Ac : Option Addr) (m cc : Nat) (C : Nat → Nat) (As : Option Addr) (cs : Nat) (i s r : Nat) (hL : Lc C m i s r) (w : World) (hA : Rd w w.heap.size 1 Ac m (fun j => .int .i64 (C j))) (hS : Rd w w.heap.size 1 As m (fun j => .int .i64 (P C j))) (hm : m ≤ 4097) (hP : P C m ≤ 4096) :
    Calls Tryd.prog 17 #[refV s r, .slice Ac m cc, .slice As m cs] w fun e w' => e = .returned (.int .i64 (i : Int)) ∧ Below w.heap.size w w' := by
  obtain ⟨h1, h2, h3⟩ := hL
  obtain ⟨b, off, rfl, hb, hc⟩ := hA (by omega)
  obtain ⟨b', off', rfl, hb', hc'⟩ := hS (by omega)
  have k1 : w.cell? ⟨b, off + s, none⟩ = some (.int .i64 (C s)) := hc s (by omega)
  have k2 : w.cell? ⟨b', off' + s, none⟩ = some (.int .i64 (P C s)) := hc' s (by omega)
  have hpa := P_at C h1
  have h3' := Lib.hid h3
  have t1 : decide (m ≤ s) = false := decide_eq_false (by omega)
  have t2 : decide (C s ≤ r) = false := decide_eq_false (by omega)
  clear hc hc' hA hS h3
  unfold refV
  go_enter Tryd.func17, Tryd.ntmps17
  go_wp2_with fail
  go_ret
  exact ⟨by rw [← h3'.out]; rfl, by go_grown⟩
end Go.Proofs.YtbppncnhdhogbaaDoor.Fy
