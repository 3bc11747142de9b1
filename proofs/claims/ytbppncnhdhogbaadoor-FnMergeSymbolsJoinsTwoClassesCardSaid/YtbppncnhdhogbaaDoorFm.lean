/-
  Contracts for the laws on symbol links: MergeContentsWith joins use counts, flags and the name. Conditions: two symbols, sizes.
-/
import Derived.Test.YtbppncnhdhogbaaDoorFf
namespace Go.Proofs.YtbppncnhdhogbaaDoor.Fm
open Go.RowKit Go.PlainAid Mem Rws Rt Fa Pl Fb Rq Fc Fy Fe Fr Ff
set_option linter.unusedVariables false
def hasB (f a : Int) : Bool := bits .and .u16 f a != 0
def orB (f a : Int) : Int := bits .or .u16 f a
theorem has29 (f a : Int) (w : World) : Calls Tryd.prog 29 #[.int .u16 f, .int .u16 a] w fun e w' => e = .returned (.bool (hasB f a)) ∧ w = w' := by
  go_enter Tryd.func29, Tryd.ntmps29
  go_wp2
  go_ret
  exact ⟨rfl, rfl⟩
def upN (F : Nat → ByteArray) (o : Nat) (x : ByteArray) (j : Nat) : ByteArray := if j = o then x else F j
def Dat.setU (D : Dat) (i : Nat) (u : Int) : Dat := { D with U := up D.U i u }
def Dat.setK (D : Dat) (i : Nat) (u : Int) : Dat := { D with K := up D.K i u }
def Dat.setN (D : Dat) (i : Nat) (s : ByteArray) : Dat := { D with N := upN D.N i s }
theorem Sy.setU {B G m : Nat} {C g : Nat → Nat} {D : Dat} {w : World} (h : Sy B G m C g D w) {i s r : Nat} (hL : Lc C m i s r) (u : Int) : Sy B G m C g (Dat.setU D i u) (w.setCell ⟨g s, r * 10 + 4, none⟩ (.int .u32 u)) := by
  refine Sy.store (D' := Dat.setU D i u) h hL 4 [.int .u32 u] (by simp) (fun t ht => ?_) (fun q hq => ?_) (fun j q hj => ?_)
  · have ht' : t < 1 := ht
    obtain rfl : t = 0 := by omega
    show Value.int .u32 u = Value.int .u32 (up D.U i u i); rw [up_at]
  · have hq' : q < 4 ∨ 5 ≤ q := hq
    unfold syc Dat.setU
    split <;> first | rfl | omega
  · unfold syc Dat.setU
    split <;> first | rfl | (simp only; rw [up_ne _ _ hj])
theorem Sy.setK {B G m : Nat} {C g : Nat → Nat} {D : Dat} {w : World} (h : Sy B G m C g D w) {i s r : Nat} (hL : Lc C m i s r) (u : Int) : Sy B G m C g (Dat.setK D i u) (w.setCell ⟨g s, r * 10 + 7, none⟩ (.int .u16 u)) := by
  refine Sy.store (D' := Dat.setK D i u) h hL 7 [.int .u16 u] (by simp) (fun t ht => ?_) (fun q hq => ?_) (fun j q hj => ?_)
  · have ht' : t < 1 := ht
    obtain rfl : t = 0 := by omega
    show Value.int .u16 u = Value.int .u16 (up D.K i u i); rw [up_at]
  · have hq' : q < 7 ∨ 8 ≤ q := hq
    unfold syc Dat.setK
    split <;> first | rfl | omega
  · unfold syc Dat.setK
    split <;> first | rfl | (simp only; rw [up_ne _ _ hj])
theorem Sy.setN {B G m : Nat} {C g : Nat → Nat} {D : Dat} {w : World} (h : Sy B G m C g D w) {i s r : Nat} (hL : Lc C m i s r) (u : ByteArray) : Sy B G m C g (Dat.setN D i u) (w.setCell ⟨g s, r * 10 + 1, none⟩ (.string u)) := by
  refine Sy.store (D' := Dat.setN D i u) h hL 1 [.string u] (by simp) (fun t ht => ?_) (fun q hq => ?_) (fun j q hj => ?_)
  · have ht' : t < 1 := ht
    obtain rfl : t = 0 := by omega
    show Value.string u = Value.string (upN D.N i u i); unfold upN; rw [if_pos rfl]
  · have hq' : q < 1 ∨ 2 ≤ q := hq
    unfold syc Dat.setN
    split <;> first | rfl | omega
  · unfold syc Dat.setN
    split <;> first | rfl | (simp only; unfold upN; rw [if_neg hj])
/-- The new symbol's flags behind the joining. -/
def mgK (kn ko : Int) : Int := if hasB ko 2 then orB (if hasB ko 1 && !hasB kn 1 then orB kn 1 else kn) 2 else (if hasB ko 1 && !hasB kn 1 then orB kn 1 else kn)
/-- The symbol j with the contents of i joined to it. -/
def mg (D : Dat) (j i : Nat) : Dat where
  N := upN D.N j (if hasB (D.K i) 1 && !hasB (D.K j) 1 then D.N i else D.N j)
  X := D.X
  Y := D.Y
  U := up D.U j ((D.U j + D.U i) % 4294967296)
  K := up D.K j (mgK (D.K j) (D.K i))
theorem up_same (F : Nat → Int) (j : Nat) : up F j (F j) = F := by funext x; unfold up; split <;> simp_all
theorem up_up (F : Nat → Int) (j : Nat) (a b : Int) : up (up F j a) j b = up F j b := by funext x; unfold up; split <;> rfl
theorem upN_same (F : Nat → ByteArray) (j : Nat) : upN F j (F j) = F := by funext x; unfold upN; split <;> simp_all
theorem mg_ff {D : Dat} {j i : Nat} (h1 : (hasB (D.K i) 1 && !hasB (D.K j) 1) = false) (h2 : hasB (D.K i) 2 = false) : Dat.setU D j ((D.U j + D.U i) % 4294967296) = mg D j i := by
  unfold mg mgK Dat.setU
  simp only [h1, h2, if_false, Bool.false_eq_true, up_same, upN_same]
theorem mg_ft {D : Dat} {j i : Nat} (h1 : (hasB (D.K i) 1 && !hasB (D.K j) 1) = false) (h2 : hasB (D.K i) 2 = true) : Dat.setK (Dat.setU D j ((D.U j + D.U i) % 4294967296)) j (orB (D.K j) 2) = mg D j i := by
  unfold mg mgK Dat.setU Dat.setK
  simp only [h1, h2, if_false, if_true, Bool.false_eq_true, upN_same]
theorem mg_tf {D : Dat} {j i : Nat} (h1 : (hasB (D.K i) 1 && !hasB (D.K j) 1) = true) (h2 : hasB (D.K i) 2 = false) : Dat.setK (Dat.setN (Dat.setU D j ((D.U j + D.U i) % 4294967296)) j (D.N i)) j (orB (D.K j) 1) = mg D j i := by
  unfold mg mgK Dat.setU Dat.setK Dat.setN
  simp only [h1, h2, if_false, if_true, Bool.false_eq_true]
theorem mg_tt {D : Dat} {j i : Nat} (h1 : (hasB (D.K i) 1 && !hasB (D.K j) 1) = true) (h2 : hasB (D.K i) 2 = true) : Dat.setK (Dat.setK (Dat.setN (Dat.setU D j ((D.U j + D.U i) % 4294967296)) j (D.N i)) j (orB (D.K j) 1)) j (orB (orB (D.K j) 1) 2) = mg D j i := by
  unfold mg mgK Dat.setU Dat.setK Dat.setN
  simp only [h1, h2, if_true, up_up]
theorem tst {a b b1 b2 c : Bool} (h1 : a = b1) (h2 : b = b2) (hb : (b1 && !b2) = c) : (a && !b) = c := by rw [h1, h2, hb]
theorem Sy.cast {B G m : Nat} {C g : Nat → Nat} {D D' : Dat} {w : World} (e : D = D') (h : Sy B G m C g D w) : Sy B G m C g D' w := e ▸ h
/-- What MergeContentsWith does. -/
def Joined (B G m : Nat) (C g : Nat → Nat) (D : Dat) (j i : Nat) (w : World) (e : Ending) (w' : World) : Prop := e = .returned (.tuple #[]) ∧ Sy B G m C g (mg D j i) w' ∧ Sd m g w w'
set_option maxRecDepth 100000 in
set_option maxHeartbeats 16000000 in
theorem join27 {B G m : Nat} {C g : Nat → Nat} {D : Dat} {w : World} (h : Sy B G m C g D w) {i j si ri sj rj : Nat} (hi : Lc C m i si ri) (hj : Lc C m j sj rj) (hne : i ≠ j) :
    Calls Tryd.prog 27 #[.pointer (some ⟨g sj, rj * 10, none⟩), .pointer (some ⟨g si, ri * 10, none⟩)] w (Joined B G m C g D j i w) := by
  have c1 : w.cell? ⟨g sj, rj * 10 + 4, none⟩ = some (.int .u32 (D.U j)) := h.cell hj 4 (by omega)
  have c2 : w.cell? ⟨g si, ri * 10 + 4, none⟩ = some (.int .u32 (D.U i)) := h.cell hi 4 (by omega)
  have f1 := h.frozen hj.1 (rj * 10 + 4)
  have HI := Lib.hid hi
  have HJ := Lib.hid hj
  have HS1 : Hid (Sy B G m C g (Dat.setU D j ((D.U j + D.U i) % 4294967296)) (w.setCell ⟨g sj, rj * 10 + 4, none⟩ (.int .u32 ((D.U j + D.U i) % 4294967296))).drew) := Lib.hid (Sy.setU h hj _).drew
  have HD1 : Hid (Sd m g w (w.setCell ⟨g sj, rj * 10 + 4, none⟩ (.int .u32 ((D.U j + D.U i) % 4294967296))).drew) := Lib.hid (((Sd.of (Below.refl _ w)).set hj.1 _ _).trans (Sd.of (below_drew (Below.refl _ _))))
  have hrr : g si = g sj → ¬ ri = rj := fun e e2 => by
    have := h.inj si sj hi.1 hj.1 e
    subst this
    have h1 := hi.2.2
    have h2 := hj.2.2
    rw [e2] at h1
    exact hne (h1.symm.trans h2)
  have HRR := Lib.hid hrr
  clear h hi hj hrr
  go_enter Tryd.func27, Tryd.ntmps27
  go_wp2_with fail
  go_region
  clear c1 c2 f1
  generalize (w.setCell _ _).drew = W1 at *
  have k1 : W1.cell? ⟨g si, ri * 10 + 7, none⟩ = some (.int .u16 (D.K i)) := HS1.out.cell HI.out 7 (by omega)
  have k2 : W1.cell? ⟨g sj, rj * 10 + 7, none⟩ = some (.int .u16 (D.K j)) := HS1.out.cell HJ.out 7 (by omega)
  have n1 : W1.cell? ⟨g si, ri * 10 + 1, none⟩ = some (.string (D.N i)) := HS1.out.cell HI.out 1 (by omega)
  have n2 : W1.cell? ⟨g sj, rj * 10 + 1, none⟩ = some (.string (D.N j)) := HS1.out.cell HJ.out 1 (by omega)
  have f7 := HS1.out.frozen HJ.out.1 (rj * 10 + 7)
  have f1 := HS1.out.frozen HJ.out.1 (rj * 10 + 1)
  cases b3 : hasB (D.K i) 2
  all_goals cases b1 : hasB (D.K i) 1
  all_goals cases b2 : hasB (D.K j) 1
  all_goals
    have B1 := Lib.hid b1
    have B2 := Lib.hid b2
    have B3 := Lib.hid b3
    clear b1 b2 b3
    by_cases hg : g si = g sj
  all_goals
    first
      | (have hr := HRR.out hg
         rw [hg] at k1 n1 ⊢)
      | skip
    go_wp2_with (go_at_call 29; refine (has29 _ _ _).mono ?_; rintro e w9 ⟨rfl, rfl⟩; first | rw [B1.out] | rw [B2.out] | rw [B3.out])
    go_end0
    first
      | exact ⟨rfl, Sy.cast (mg_ff (tst B1.out B2.out rfl) B3.out) HS1.out, HD1.out⟩
      | exact ⟨rfl, Sy.cast (mg_ft (tst B1.out B2.out rfl) B3.out) (Sy.setK HS1.out HJ.out _), HD1.out.set HJ.out.1 _ _⟩
      | exact ⟨rfl, Sy.cast (mg_tf (tst B1.out B2.out rfl) B3.out) (Sy.setK (Sy.setN HS1.out HJ.out _) HJ.out _), (HD1.out.set HJ.out.1 _ _).set HJ.out.1 _ _⟩
      | exact ⟨rfl, Sy.cast (mg_tt (tst B1.out B2.out rfl) B3.out) (Sy.setK (Sy.setK (Sy.setN HS1.out HJ.out _) HJ.out _) HJ.out _), ((HD1.out.set HJ.out.1 _ _).set HJ.out.1 _ _).set HJ.out.1 _ _⟩
end Go.Proofs.YtbppncnhdhogbaaDoor.Fm
