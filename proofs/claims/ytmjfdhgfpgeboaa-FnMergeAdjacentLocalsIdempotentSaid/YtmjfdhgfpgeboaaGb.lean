/-
  Contracts: the makers of an expression statement and of a local statement. Conditions: sizes alone.
-/
import Derived.Test.YtmjfdhgfpgeboaaGm
namespace Go.Proofs.Ytmjfdhgfpgeboaa.Gb
open Go.RowKit Go.PlainAid Mem Sz Ga Gm
set_option linter.unusedVariables false

theorem new_own {w : World} {t : TypeId} {cs : Array Value} {g : Nat} (hg : g = w.heap.size) : Own (w.alloc (.cells cs t)) g t cs := by rw [hg]; exact Own.new w t cs

def MadeE (l : Int) (w : World) (e : Ending) (w' : World) : Prop :=
  ∃ p, e = .returned (.agg #[.iface 41 (.pointer (some ⟨p, 0, none⟩)), .int .i32 l]) ∧ w.heap.size ≤ p ∧ p < w'.heap.size ∧ Own w' p 47 exprC ∧ Below w.heap.size w w'
set_option maxRecDepth 100000 in
set_option maxHeartbeats 1000000 in
theorem expr11 (l : Int) (w : World) : Calls Try.prog 11 #[.int .i32 l] w (MadeE l w) := by
  go_enter Try.func11, Try.ntmps11
  go_wp2
  go_returns
  refine ⟨_, rfl, by omega, ?_, ?_, by go_grown⟩
  · simp
  · exact new_own (by simp)

def MadeL (l kd : Int) (ex : Bool) (nd : Nat) (w : World) (e : Ending) (w' : World) : Prop :=
  ∃ p, e = .returned (.agg #[.iface 60 (.pointer (some ⟨p, 0, none⟩)), .int .i32 l]) ∧ LocS w' w.heap.size w'.heap.size w.heap.size w'.heap.size nd p kd ex ∧ Below w.heap.size w w'
def declZ : Array Value := #[.nilIface, .int .i32 0, .nilIface, .int .i32 0]
theorem info59 : (Try.prog.info? 59).map (fun i => (i.zero, i.size, i.bytes)) = some (some (.agg declZ), 4, 48) := by kernel_rfl

/-- The declarations made so far: the first k are set, the others are zero. -/
structure Half (w : World) (B n k : Nat) (cs : Array Value) : Prop where
  size : cs.size = n * 4
  set : ∀ j, j < k → ∃ (q : Nat) (a b : Int), cs[j * 4]? = some (.iface 49 (.pointer (some ⟨q, 0, none⟩))) ∧ B ≤ q ∧ q < w.heap.size ∧ Own w q 53 #[.int .u32 a, .int .u32 b]
  any : ∀ j, j < n → ∃ u, cs[j * 4]? = some u
  two : ∀ j, j < n → cs[j * 4 + 1]? = some (.int .i32 0) ∧ cs[j * 4 + 2]? = some .nilIface ∧ cs[j * 4 + 3]? = some (.int .i32 0)
theorem Half.start (w : World) (B n : Nat) : Half w B n 0 (madeCells declZ (n * 4)) where
  size := by simp [size_madeCells]
  set := fun j hj => absurd hj (by omega)
  any := fun j hj => ⟨_, made_at declZ (n * 4) (j * 4) (by omega)⟩
  two := fun j hj => by
    refine ⟨?_, ?_, ?_⟩
    · rw [made_at declZ (n * 4) (j * 4 + 1) (by omega)]
      have : (j * 4 + 1) % 4 = 1 := by omega
      simp [declZ, this]
    · rw [made_at declZ (n * 4) (j * 4 + 2) (by omega)]
      have : (j * 4 + 2) % 4 = 2 := by omega
      simp [declZ, this]
    · rw [made_at declZ (n * 4) (j * 4 + 3) (by omega)]
      have : (j * 4 + 3) % 4 = 3 := by omega
      simp [declZ, this]
theorem Half.step {w w' : World} {B n k q : Nat} {a b : Int} {cs : Array Value} (h : Half w B n k cs) (hk : k < n) (hB : B ≤ q) (hq : q < w'.heap.size) (ho : Own w' q 53 #[.int .u32 a, .int .u32 b])
    (hs : w.heap.size ≤ w'.heap.size) (hw : ∀ g, B ≤ g → g < w.heap.size → Own w g 53 #[.int .u32 a, .int .u32 b] → True)
    (keep : ∀ (g : Nat) (x y : Int), g < w.heap.size → Own w g 53 #[.int .u32 x, .int .u32 y] → Own w' g 53 #[.int .u32 x, .int .u32 y]) :
    Half w' B n (k + 1) ((cs.setIfInBounds (k * 4) (.iface 49 (.pointer (some ⟨q, 0, none⟩)))).setIfInBounds (k * 4 + 1) (.int .i32 0)) := by
  have hsz := h.size
  refine ⟨by simpa using h.size, fun j hj => ?_, fun j hj => ?_, fun j hj => ⟨?_, ?_, ?_⟩⟩
  · by_cases e : j = k
    · subst e
      refine ⟨q, a, b, ?_, hB, hq, ho⟩
      rw [Array.getElem?_setIfInBounds_ne (by omega), Array.getElem?_setIfInBounds_self_of_lt (by omega)]
    · obtain ⟨q', a', b', h1, h2, h3, h4⟩ := h.set j (by omega)
      refine ⟨q', a', b', ?_, h2, by omega, keep q' a' b' h3 h4⟩
      rw [Array.getElem?_setIfInBounds_ne (by omega), Array.getElem?_setIfInBounds_ne (by omega)]
      exact h1
  · by_cases e : j = k
    · subst e
      rw [Array.getElem?_setIfInBounds_ne (by omega), Array.getElem?_setIfInBounds_self_of_lt (by omega)]
      exact ⟨_, rfl⟩
    · rw [Array.getElem?_setIfInBounds_ne (by omega), Array.getElem?_setIfInBounds_ne (by omega)]
      exact h.any j hj
  · by_cases e : j = k
    · subst e
      rw [Array.getElem?_setIfInBounds_self_of_lt (by simp; omega)]
    · rw [Array.getElem?_setIfInBounds_ne (by omega), Array.getElem?_setIfInBounds_ne (by omega)]
      exact (h.two j hj).1
  · rw [Array.getElem?_setIfInBounds_ne (by omega), Array.getElem?_setIfInBounds_ne (by omega)]
    exact (h.two j hj).2.1
  · rw [Array.getElem?_setIfInBounds_ne (by omega), Array.getElem?_setIfInBounds_ne (by omega)]
    exact (h.two j hj).2.2
theorem Half.decls {w : World} {B n : Nat} {cs : Array Value} (h : Half w B n n cs) : Decls w B w.heap.size n cs.toList := fun j hj => by
  obtain ⟨q, a, b, h1, h2, h3, h4⟩ := h.set j hj
  obtain ⟨t1, t2, t3⟩ := h.two j hj
  exact ⟨q, a, b, 0, 0, by simpa using h1, by simpa using t1, by simpa using t2, by simpa using t3, h2, h3, h4⟩

theorem set0 {w : World} {g : Nat} {t : TypeId} {a0 a1 : Value} (h : Own w g t #[a0, a1]) (o : Obj) (v : Value) : ((w.alloc o).setCell ⟨g, 0, none⟩ v).cell? ⟨g, 0, none⟩ = some v := (((h.alloc o).set 0 v).cell 0).trans rfl
theorem set1 {w : World} {g : Nat} {t : TypeId} {a0 a1 : Value} (h : Own w g t #[a0, a1]) (o : Obj) (v u : Value) : (((w.alloc o).setCell ⟨g, 0, none⟩ v).setCell ⟨g, 1, none⟩ u).cell? ⟨g, 1, none⟩ = some u := ((((h.alloc o).set 0 v).set 1 u).cell 1).trans rfl
set_option maxRecDepth 100000 in
set_option maxHeartbeats 4000000 in
theorem local12 (l kd : Int) (ex : Bool) (f : Int) (nd : Nat) (hn : nd ≤ 255) (w : World) : Calls Try.prog 12 #[.int .i32 l, .int .u8 kd, .bool ex, .int .u32 f, .int .i64 nd] w (MadeL l kd ex nd w) := by
  have hmk := run_mkc (P := Try.prog) 48 59 (.agg declZ) declZ (by rfl) _ _ Try.underlying48 info59 nd nd (Nat.le_refl _) (by omega) (by omega)
  go_enter Try.func12, Try.ntmps12
  go_wp2
  clear hmk
  go_loopw [12] (fun i wr => ∃ (k : Nat) (cs : Array Value), k ≤ nd ∧ i = .int .i64 k ∧ Own wr w.heap.size 37 #[.nilIface, .int .i32 0] ∧ Own wr (w.heap.size + 1) 59 cs ∧ Hid (Half wr w.heap.size nd k cs) ∧ Hid (Below w.heap.size w wr)) (fun i _ => nd - (intOf i).toNat)
  case atStart => exact ⟨0, _, by omega, rfl, (Own.new w 37 _).alloc _, new_own (by simp), Lib.hid (Half.start _ _ _), Lib.hid (by go_grown)⟩
  case round =>
    obtain ⟨k, cs, hk, rfl, hR, hD, HH, HB⟩ := hrel
    obtain ⟨wo, rfl⟩ : ∃ wo : World, wo = wr := ⟨_, rfl⟩
    have hzD := hD.lt
    by_cases hlt : k < nd
    · obtain ⟨u0, hu0⟩ := HH.out.any k hlt
      have hu1 := (HH.out.two k hlt).1
      have c0 := (hD.cell (k * 4)).trans hu0
      have c1 := (hD.cell (k * 4 + 1)).trans hu1
      have f0 := hD.frozen (k * 4)
      have f1 := hD.frozen (k * 4 + 1)
      have hne : w.heap.size + 1 ≠ wo.heap.size := by omega
      have q0 : (0 : Int) ≤ (k : Int) := by omega
      have q1 : (k : Int) < (nd : Int) := by omega
      have HD := Lib.hid hD
      have HR := Lib.hid hR
      clear hD hR hu0 hu1
      go_wp2
      go_roundw
      case rel =>
        refine ⟨k + 1, _, by omega, by go_num, ((HR.out.far (p := ⟨w.heap.size + 1, _, none⟩) (by show w.heap.size ≠ w.heap.size + 1; omega) _).far (p := ⟨w.heap.size + 1, _, none⟩) (by show w.heap.size ≠ w.heap.size + 1; omega) _).alloc _, ((HD.out.set (k * 4) _).set (k * 4 + 1) _).alloc _, Lib.hid (HH.out.step (q := wo.heap.size) hlt HB.out.size (by simp) (new_own (by simp)) (by simp) (fun _ _ _ _ => trivial) (fun g x y hg ho => ?_)), Lib.hid ?_⟩
        · have hgD : g ≠ w.heap.size + 1 := fun e => by
            subst e
            have h1 := HD.out
            unfold Own at h1 ho
            rw [h1] at ho
            simp at ho
          exact ((ho.far (p := ⟨w.heap.size + 1, _, none⟩) hgD _).far (p := ⟨w.heap.size + 1, _, none⟩) hgD _).alloc _
        · exact ((HB.out.setCell (p := ⟨w.heap.size + 1, _, none⟩) (by show w.heap.size ≤ w.heap.size + 1; omega) _).setCell (p := ⟨w.heap.size + 1, _, none⟩) (by show w.heap.size ≤ w.heap.size + 1; omega) _).alloc (by simp; exact HB.out.size) _
      case measure => simp [intOf]; omega
    · have z0 : decide (k < nd) = false := decide_eq_false hlt
      obtain rfl : k = nd := by omega
      have r0 : ∀ o, (wo.alloc o).cell? ⟨w.heap.size, 0, none⟩ = some .nilIface := fun o => ((hR.alloc o).cell 0).trans rfl
      have r1 : ∀ o, (wo.alloc o).cell? ⟨w.heap.size, 1, none⟩ = some (.int .i32 0) := fun o => ((hR.alloc o).cell 1).trans rfl
      have f0 : ∀ o, (wo.alloc o).frozen? ⟨w.heap.size, 0, none⟩ = false := fun o => (hR.alloc o).frozen 0
      have f1 : ∀ o, (wo.alloc o).frozen? ⟨w.heap.size, 1, none⟩ = false := fun o => (hR.alloc o).frozen 1
      have s0 := set0 hR
      have s1 := set1 hR
      have HR := Lib.hid hR
      have HD := Lib.hid hD
      clear hR hD
      have hne : w.heap.size ≠ wo.heap.size := by omega
      go_wp2
      (try simp only [Exit.inBlock, Exit.then])
      refine bodyPost_ret (by simp [results, Try.results12, go_sem, s0, s1]; try rfl) rfl ?_
      have hz := HB.out.size
      refine ⟨wo.heap.size, rfl, ⟨w.heap.size + 1, k, k, cs.toList, false, ?_, ?_, ?_, ?_, ?_, Nat.le_refl _, ?_, ?_, ?_⟩, ?_⟩
      · omega
      · simp
      · omega
      · simp; omega
      · omega
      · exact ((new_own rfl).far (p := ⟨w.heap.size, 0, none⟩) (by show _ ≠ w.heap.size; omega) _).far (p := ⟨w.heap.size, 1, none⟩) (by show _ ≠ w.heap.size; omega) _
      · refine row_of_own (((HD.out.alloc _).far (p := ⟨w.heap.size, 0, none⟩) (by show _ ≠ w.heap.size; omega) _).far (p := ⟨w.heap.size, 1, none⟩) (by show _ ≠ w.heap.size; omega) _) HH.out.size (by unfold maxLen; omega)
      · intro j hj
        obtain ⟨q, a, b, x, y, h1, h2, h3, h4, h5, h6, h7⟩ := HH.out.decls j hj
        have hq : q ≠ w.heap.size := fun e => by
          subst e
          have h8 := HR.out
          unfold Own at h7 h8
          rw [h8] at h7
          simp at h7
        exact ⟨q, a, b, x, y, h1, h2, h3, h4, h5, by simp; omega, ((h7.alloc _).far (p := ⟨w.heap.size, 0, none⟩) hq _).far (p := ⟨w.heap.size, 1, none⟩) hq _⟩
      · exact (((HB.out.alloc HB.out.size _).setCell (p := ⟨w.heap.size, 0, none⟩) (Nat.le_refl _) _).setCell (p := ⟨w.heap.size, 1, none⟩) (Nat.le_refl _) _)
end Go.Proofs.Ytmjfdhgfpgeboaa.Gb
