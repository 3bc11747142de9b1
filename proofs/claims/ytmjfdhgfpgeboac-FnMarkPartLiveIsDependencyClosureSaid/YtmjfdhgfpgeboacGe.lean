/-
  Proved: tsEmpty returns lists of false of the right lengths, each in a block of its own. Conditions: those that each theorem names as its
  hypotheses, and no others.
-/
import Derived.Test.YtmjfdhgfpgeboacGd
namespace Go.Proofs.Ytmjfdhgfpgeboac.Ge
open Go.RowKit Go.PlainAid Mem Ho Rws Orw Dg Fs Ga Gb Fil Gd
set_option linter.unusedVariables false
set_option linter.unusedSimpArgs false
/-- a block of bools -/
def Bo (w : World) (g n : Nat) (f : Nat → Bool) : Prop := ∃ cs, Own w g 4 cs ∧ cs.size = n ∧ ∀ i, i < n → cs[i]? = some (.bool (f i))
theorem Bo.keep {w w' : World} {g n : Nat} {f : Nat → Bool} (h : Bo w g n f) (k : ∀ cs, Own w g 4 cs → Own w' g 4 cs) : Bo w' g n f := by
  obtain ⟨cs, o, s, hc⟩ := h
  exact ⟨cs, k cs o, s, hc⟩
theorem Bo.below {w w' : World} {g n : Nat} {f : Nat → Bool} (h : Bo w g n f) (hb : Below w.heap.size w w') : Bo w' g n f := h.keep fun cs o => o.below hb o.lt
theorem Bo.lt {w : World} {g n : Nat} {f : Nat → Bool} (h : Bo w g n f) : g < w.heap.size := by
  obtain ⟨cs, o, s, hc⟩ := h
  exact o.lt
theorem Bo.cell {w : World} {g n i : Nat} {f : Nat → Bool} (h : Bo w g n f) (hi : i < n) : w.cell? ⟨g, i, none⟩ = some (.bool (f i)) := by
  obtain ⟨cs, o, s, hc⟩ := h
  rw [o.cell]; exact hc i hi
theorem Bo.frozen {w : World} {g n : Nat} {f : Nat → Bool} (h : Bo w g n f) (i : Nat) : w.frozen? ⟨g, i, none⟩ = false := by
  obtain ⟨cs, o, s, hc⟩ := h
  exact o.frozen i
theorem Bo.congr {w : World} {g n : Nat} {f f' : Nat → Bool} (h : Bo w g n f) (e : ∀ i, i < n → f i = f' i) : Bo w g n f' := by
  obtain ⟨cs, o, s, hc⟩ := h
  exact ⟨cs, o, s, fun i hi => by rw [hc i hi, e i hi]⟩
theorem Bo.set {w : World} {g n : Nat} {f : Nat → Bool} (h : Bo w g n f) (i : Nat) (b : Bool) : Bo (w.setCell ⟨g, i, none⟩ (.bool b)) g n (fun j => if j = i then b else f j) := by
  obtain ⟨cs, o, s, hc⟩ := h
  refine ⟨_, o.set i _, by simp [s], fun j hj => ?_⟩
  rw [Array.getElem?_setIfInBounds]
  by_cases e : i = j
  · subst e
    rw [if_pos rfl, if_pos (by omega)]
    simp
  · rw [if_neg e, hc j hj]
    have e2 : ¬ j = i := fun h => e h.symm
    simp [e2]
theorem Bo.far {w : World} {g n : Nat} {f : Nat → Bool} (h : Bo w g n f) {p : Addr} (hp : g ≠ p.block) (u : Value) : Bo (w.setCell p u) g n f := h.keep fun cs o => o.far hp u
theorem Bo.made {w : World} {g n : Nat} (o : Own w g 4 (madeCells #[.bool false] n)) : Bo w g n (fun _ => false) := by
  refine ⟨_, o, made_size _ _, fun i hi => ?_⟩
  rw [made_at _ _ _ hi]
  simp [Nat.mod_one]
/-- the state of the specification's closure -/
structure Sp (w : World) (lo fb pb n : Nat) (g : G) (qb : Nat → Nat) (l : L) : Prop where
  files : Bo w fb n (fun i => l (.file i))
  rows : ∃ cs, Own w pb 30 cs ∧ ∀ i, i < n → cs[i]? = some (.slice (some ⟨qb i, 0, none⟩) (g.np i) (g.np i))
  parts : ∀ i, i < n → Bo w (qb i) (g.np i) (fun j => l (.part i j))
  ne : ∀ i, i < n → qb i ≠ fb
  inj : ∀ i j, i < n → j < n → qb i = qb j → i = j
  low : lo ≤ fb ∧ lo ≤ pb ∧ ∀ i, i < n → lo ≤ qb i
theorem info4 : (Try.prog.info? 4).map (fun i => (i.zero, i.size, i.bytes)) = some (some (.bool false), 1, 1) := by kernel_rfl
theorem info30 : (Try.prog.info? 30).map (fun i => (i.zero, i.size, i.bytes)) = some (some (.slice none 0 0), 1, 24) := by kernel_rfl
def Emptied (w : World) (n : Nat) (F : Nat → Fl) (e : Ending) (w' : World) : Prop :=
  ∃ fb pb qb, e = .returned (.tuple #[.slice (some ⟨fb, 0, none⟩) n n, .slice (some ⟨pb, 0, none⟩) n n]) ∧ Sp w' w.heap.size fb pb n (gr n F) qb (fun _ => false) ∧ Below w.heap.size w w'
set_option maxRecDepth 100000 in
set_option maxHeartbeats 4000000 in
theorem empty9 (A : Option Addr) (n c : Nat) (F : Nat → Fl) (w : World) (hs : Src w A n F) (hn : n ≤ 1048576) (hp : ∀ i, i < n → (F i).np ≤ 1048576) : Calls Try.prog 9 #[.slice A n c] w (Emptied w n F) := by
  have HS := Lib.hid hs
  have HP := Lib.hid hp
  clear hs hp
  have hmk := run_mkc (P := Try.prog) 30 4 _ #[.bool false] rfl _ _ Try.underlying30 info4 n n (Nat.le_refl _) (by omega) (by omega)
  have hmk2 := run_mkc (P := Try.prog) 31 30 _ #[.slice none 0 0] rfl _ _ Try.underlying31 info30 n n (Nat.le_refl _) (by omega) (by omega)
  go_enter Try.func9, Try.ntmps9
  go_upto_region 4 with fail
  generalize hWm : World.alloc _ _ = Wm
  have HBm : Hid (Below w.heap.size w Wm) := Lib.hid (by rw [← hWm]; go_grown)
  have ho1 : Own Wm w.heap.size 4 (madeCells #[.bool false] n) := by rw [← hWm]; exact (Own.new _ _ _).alloc _
  have ho2 : Own Wm (w.heap.size + 1) 30 (madeCells #[.slice none 0 0] (n * 1)) := by
    rw [Nat.mul_one, ← hWm]
    have h := Own.new (w.alloc (.cells (madeCells #[.bool false] n) 4)) 30 (madeCells #[.slice none 0 0] n)
    rwa [show (w.alloc (Obj.cells (madeCells #[.bool false] n) 4)).heap.size = w.heap.size + 1 by simp] at h
  clear hWm hmk hmk2
  go_loopw [6] (fun i wr => ∃ (k : Nat) (qb : Nat → Nat) (cs : Array Value), i = .int .i64 k ∧ k ≤ n ∧ Hid (Fz wr (w.heap.size + 1) 30 1 n k (fun i => [.slice (some ⟨qb i, 0, none⟩) (F i).np (F i).np]) [.slice none 0 0] cs) ∧ Hid (Bo wr w.heap.size n (fun _ => false)) ∧ Hid (∀ i, i < k → Bo wr (qb i) (F i).np (fun _ => false)) ∧ Hid (∀ i, i < k → w.heap.size + 1 < qb i ∧ ∀ j, j < i → qb j < qb i) ∧ Hid (Below w.heap.size w wr)) (fun i _ => n - (intOf i).toNat)
  case atStart => exact ⟨0, fun _ => 0, _, rfl, by omega, Lib.hid (Fz.made ho2 rfl), Lib.hid (Bo.made ho1), Lib.hid (fun i hi => absurd hi (by omega)), Lib.hid (fun i hi => absurd hi (by omega)), HBm⟩
  case round =>
    clear HBm ho1 ho2
    obtain ⟨k, qb, cs, rfl, hk, HF, HO, HQ, HM, HB⟩ := hrel
    obtain ⟨wo, rfl⟩ : ∃ wo : World, wo = wr := ⟨_, rfl⟩
    by_cases hlt : k < n
    · obtain ⟨b, off, rfl, hbl, hcs⟩ := file_cell HS.out (by omega)
      have hf := (HB.out.cell (p := ⟨b, off + k, none⟩) hbl).trans (hcs k hlt)
      have hq := HP.out k hlt
      obtain ⟨np, hnp⟩ : ∃ np, np = (F k).np := ⟨_, rfl⟩
      rw [← hnp] at hf hq
      have HNP := Lib.hid hnp
      have hmk3 := run_mkc (P := Try.prog) 30 4 _ #[.bool false] rfl _ _ Try.underlying30 info4 np np (Nat.le_refl _) (by omega) (by omega)
      have hgl : w.heap.size + 1 < wo.heap.size := HF.out.own.lt
      have x1 : ∀ o, (wo.alloc o).cell? ⟨w.heap.size + 1, k, none⟩ = some (.slice none 0 0) := fun o => ((HF.out.own.alloc o).cell _).trans (by have := HF.out.rest k (Nat.le_refl _) hlt 0 (by decide); rwa [Nat.mul_one, Nat.add_zero] at this)
      have f1 : ∀ o, (wo.alloc o).frozen? ⟨w.heap.size + 1, k, none⟩ = false := fun o => (HF.out.own.alloc o).frozen _
      have q0 : (0 : Int) ≤ (k : Int) := by omega
      have q1 : (k : Int) < (n : Int) := by omega
      clear hcs hnp
      go_upto_region 5 with fail
      generalize hW3 : World.alloc (World.setCell _ _ _) _ = W3
      have HO3 : Hid (Own W3 (w.heap.size + 1) 30 (cs.setIfInBounds k (.slice (some ⟨wo.heap.size, 0, none⟩) np np))) := Lib.hid (by rw [← hW3]; exact (HF.out.own.set _ _).alloc _)
      have HB3 : Hid (Below w.heap.size w W3) := Lib.hid (by rw [← hW3]; exact (HB.out.setCell (p := ⟨w.heap.size + 1, k, none⟩) (by show w.heap.size ≤ w.heap.size + 1; omega) _).alloc (by rw [World.size_setCell]; exact HB.out.size) _)
      have HN3 : Hid (Bo W3 wo.heap.size np (fun _ => false)) := Lib.hid (by rw [← hW3]; exact Bo.made (by have h := Own.new (wo.setCell ⟨w.heap.size + 1, k, none⟩ (.slice (some ⟨wo.heap.size, 0, none⟩) np np)) 4 (madeCells #[.bool false] np); rwa [World.size_setCell] at h))
      have HK3 : Hid (∀ g cs, Own wo g 4 cs → Own W3 g 4 cs) := Lib.hid (fun g cs o => by rw [← hW3]; exact (o.far (p := ⟨w.heap.size + 1, k, none⟩) (own_ne o HF.out.own (by decide)) _).alloc _)
      clear hW3 x1 f1 hmk3 hf
      go_wp2_with fail
      go_roundw
      case rel =>
        refine ⟨k + 1, fun i => if i = k then wo.heap.size else qb i, _, by go_num, by omega, Lib.hid (Fz.step (F := fun i => [.slice (some ⟨if i = k then wo.heap.size else qb i, 0, none⟩) (F i).np (F i).np]) (HF.out.congr fun i hi => by simp only [if_neg (show i ≠ k by omega)]) HO3.out (by simp) (fun l hl => ?_) fun q hq => ?_), Lib.hid (HO.out.keep fun cs o => HK3.out _ _ o), Lib.hid fun i hi => ?_, Lib.hid fun i hi => ?_, HB3⟩
        · rw [Array.getElem?_setIfInBounds, if_neg (by omega)]
        · have hs2 := HF.out.size
          obtain rfl : q = 0 := by omega
          rw [Array.getElem?_setIfInBounds, if_pos (by omega), if_pos (by omega)]
          simp only [if_true]
          rw [← HNP.out]
          rfl
        · by_cases h : i = k
          · subst h
            simp only [if_true]
            rw [← HNP.out]
            exact HN3.out
          · simp only [if_neg h]
            exact (HQ.out i (by omega)).keep fun cs o => HK3.out _ _ o
        · by_cases h : i = k
          · subst h
            simp only [if_true]
            refine ⟨hgl, fun j hj => ?_⟩
            rw [if_neg (by omega)]
            exact (HQ.out j (by omega)).lt
          · simp only [if_neg h]
            refine ⟨(HM.out i (by omega)).1, fun j hj => ?_⟩
            rw [if_neg (by omega)]
            exact (HM.out i (by omega)).2 j hj
      case measure => simp [intOf]; omega
    · obtain rfl : n = k := by omega
      have z0 : decide ((n : Int) < n) = false := decide_eq_false (by omega)
      go_wp2_with fail
      go_returns
      refine ⟨w.heap.size, w.heap.size + 1, qb, rfl, ⟨HO.out, ⟨cs, HF.out.own, fun i hi => ?_⟩, HQ.out, fun i hi => ?_, fun i j hi hj e => ?_, by omega, by omega, fun i hi => ?_⟩, HB.out⟩
      · have := HF.out.done i hi 0 (by decide)
        rwa [Nat.mul_one, Nat.add_zero] at this
      · have := (HM.out i hi).1; omega
      · rcases Nat.lt_trichotomy i j with h | h | h
        · have := (HM.out j hj).2 i h; omega
        · exact h
        · have := (HM.out i hi).2 j h; omega
      · have := (HM.out i hi).1; omega
end Go.Proofs.Ytmjfdhgfpgeboac.Ge
