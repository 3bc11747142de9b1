/-
  Proved: the linker state as a structure of facts, and that marking a file or a part keeps it; IsValid of the zero Index32 is false. Conditions:
  those that each theorem names as its hypotheses, and no others.
-/
import Derived.Test.YtmjfdhgfpgeboacGe
import Derived.Test.YtmjfdhgfpgeboacGc
namespace Go.Proofs.Ytmjfdhgfpgeboac.Gg
open Go.RowKit Go.PlainAid Mem Ho Rws Orw Dg Fs Ga Gb Gc Fil Gd Ge
set_option linter.unusedVariables false
set_option linter.unusedSimpArgs false
/-- a part of the linker's -/
def prow (g : G) (db : Nat → Nat → Nat) (l : L) (i j : Nat) : List Value := [.slice none 0 0, .slice none 0 0, .slice none 0 0, .slice none 0 0, .map none, .map none, .map none, .slice (some ⟨db i j, 0, none⟩) (g.nd i j) (g.nd i j), .bool (!g.kp i j), .bool false, .bool (l (.part i j))]
/-- the linker's state -/
structure Ln (w : World) (lo lc op lf n : Nat) (g : G) (rb pt : Nat → Nat) (db : Nat → Nat → Nat) (l : L) : Prop where
  ctx : ∃ cs, Own w lc 205 cs ∧ cs[0]? = some (.pointer (some ⟨op, 0, none⟩)) ∧ cs[10]? = some (.slice (some ⟨lf, 0, none⟩) n n)
  opt : ∃ cs, Own w op 97 cs ∧ cs[94]? = some (.bool true)
  files : ∃ cs, Own w lf 180 cs ∧ ∀ i, i < n → cs[i * 24 + 2]? = some (.iface 120 (.pointer (some ⟨rb i, 0, none⟩))) ∧ cs[i * 24 + 23]? = some (.bool (l (.file i)))
  reprs : ∀ i, i < n → ∃ cs, Own w (rb i) 153 cs ∧ cs[20]? = some (.slice (some ⟨pt i, 0, none⟩) (g.np i) (g.np i)) ∧ cs[63]? = some (.int .u32 0)
  parts : ∀ i, i < n → ∃ cs, Own w (pt i) 119 cs ∧ ∀ j, j < g.np i → ∀ q, q < 11 → cs[j * 11 + q]? = (prow g db l i j)[q]?
  deps : ∀ i, i < n → ∀ j, j < g.np i → ∃ cs, Own w (db i j) 110 cs ∧ ∀ k, k < g.nd i j → cs[k * 2]? = some (.int .u32 ((g.dep i j k).1 : Int)) ∧ cs[k * 2 + 1]? = some (.int .u32 ((g.dep i j k).2 : Int))
  inj : ∀ i j, i < n → j < n → pt i = pt j → i = j
  low : lo ≤ lf ∧ ∀ i, i < n → lo ≤ pt i
  rep : ∃ cs, Own w (rb n) 120 cs ∧ ∀ i, i < n → cs[i]? = some (.pointer (some ⟨rb i, 0, none⟩))
theorem Ln.below {w w' : World} {lo lc op lf n : Nat} {g : G} {rb pt : Nat → Nat} {db : Nat → Nat → Nat} {l : L} (h : Ln w lo lc op lf n g rb pt db l) (hb : Below w.heap.size w w') : Ln w' lo lc op lf n g rb pt db l := by
  obtain ⟨c1, c2, c3, c4, c5, c6, c7, c8, c9⟩ := h
  exact ⟨c1.imp fun cs h => ⟨h.1.below hb h.1.lt, h.2⟩, c2.imp fun cs h => ⟨h.1.below hb h.1.lt, h.2⟩, c3.imp fun cs h => ⟨h.1.below hb h.1.lt, h.2⟩, fun i hi => (c4 i hi).imp fun cs h => ⟨h.1.below hb h.1.lt, h.2⟩,
    fun i hi => (c5 i hi).imp fun cs h => ⟨h.1.below hb h.1.lt, h.2⟩, fun i hi j hj => (c6 i hi j hj).imp fun cs h => ⟨h.1.below hb h.1.lt, h.2⟩, c7, c8, c9.imp fun cs h => ⟨h.1.below hb h.1.lt, h.2⟩⟩
theorem set_at {cs : Array Value} {i : Nat} {u v : Value} (h : cs[i]? = some u) : (cs.setIfInBounds i v)[i]? = some v := by
  have : i < cs.size := (Array.getElem?_eq_some_iff.1 h).1
  rw [Array.getElem?_setIfInBounds, if_pos rfl, if_pos this]
theorem set_ne {cs : Array Value} {i j : Nat} {v : Value} (h : i ≠ j) : (cs.setIfInBounds i v)[j]? = cs[j]? := by
  rw [Array.getElem?_setIfInBounds, if_neg h]
theorem Ln.markF {w : World} {lo lc op lf n : Nat} {g : G} {rb pt : Nat → Nat} {db : Nat → Nat → Nat} {l : L} (h : Ln w lo lc op lf n g rb pt db l) {a : Nat} (ha : a < n) : Ln (w.setCell ⟨lf, a * 24 + 23, none⟩ (.bool true)) lo lc op lf n g rb pt db (Dg.mark l (.file a)) := by
  obtain ⟨c1, c2, ⟨cf, of_, hf⟩, c4, c5, c6, c7, c8, c9⟩ := h
  have far : ∀ {p t cs}, Own w p t cs → t ≠ 180 → Own (w.setCell ⟨lf, a * 24 + 23, none⟩ (.bool true)) p t cs := fun o ht => o.far (p := ⟨lf, a * 24 + 23, none⟩) (own_ne o of_ ht) _
  refine ⟨c1.imp fun cs h => ⟨far h.1 (by decide), h.2⟩, c2.imp fun cs h => ⟨far h.1 (by decide), h.2⟩, ⟨_, of_.set _ _, fun i hi => ⟨?_, ?_⟩⟩, fun i hi => (c4 i hi).imp fun cs h => ⟨far h.1 (by decide), h.2⟩,
    fun i hi => ?_, fun i hi j hj => (c6 i hi j hj).imp fun cs h => ⟨far h.1 (by decide), h.2⟩, c7, c8, c9.imp fun cs h => ⟨far h.1 (by decide), h.2⟩⟩
  · rw [set_ne (by omega)]; exact (hf i hi).1
  · by_cases e : i = a
    · subst e
      rw [set_at (hf i hi).2, mark_same]
    · rw [set_ne (by omega), (hf i hi).2, mark_other (fun e2 => by injection e2 with e3; exact e e3)]
  · obtain ⟨cs, o, hc⟩ := c5 i hi
    refine ⟨cs, far o (by decide), fun j hj q hq => ?_⟩
    rw [hc j hj q hq]
    unfold prow
    rw [mark_other (fun e => by cases e)]
theorem Ln.markP {w : World} {lo lc op lf n : Nat} {g : G} {rb pt : Nat → Nat} {db : Nat → Nat → Nat} {l : L} (h : Ln w lo lc op lf n g rb pt db l) {a b : Nat} (ha : a < n) (hb : b < g.np a) : Ln (w.setCell ⟨pt a, b * 11 + 10, none⟩ (.bool true)) lo lc op lf n g rb pt db (Dg.mark l (.part a b)) := by
  obtain ⟨c1, c2, c3, c4, c5, c6, c7, c8, c9⟩ := h
  obtain ⟨cp, op_, hp⟩ := c5 a ha
  have far : ∀ {p t cs}, Own w p t cs → t ≠ 119 → Own (w.setCell ⟨pt a, b * 11 + 10, none⟩ (.bool true)) p t cs := fun o ht => o.far (p := ⟨pt a, b * 11 + 10, none⟩) (own_ne o op_ ht) _
  refine ⟨c1.imp fun cs h => ⟨far h.1 (by decide), h.2⟩, c2.imp fun cs h => ⟨far h.1 (by decide), h.2⟩, c3.imp fun cs h => ⟨far h.1 (by decide), fun i hi => ⟨(h.2 i hi).1, by rw [mark_other (fun e => by cases e)]; exact (h.2 i hi).2⟩⟩, fun i hi => (c4 i hi).imp fun cs h => ⟨far h.1 (by decide), h.2⟩,
    fun i hi => ?_, fun i hi j hj => (c6 i hi j hj).imp fun cs h => ⟨far h.1 (by decide), h.2⟩, c7, c8, c9.imp fun cs h => ⟨far h.1 (by decide), h.2⟩⟩
  by_cases e : i = a
  · subst e
    refine ⟨_, op_.set _ _, fun j hj q hq => ?_⟩
    by_cases e2 : j = b
    · subst e2
      have h10 := hp j hj 10 (by decide)
      have : ∀ q, q < 10 → (prow g db (Dg.mark l (.part i j)) i j)[q]? = (prow g db l i j)[q]? := fun q hq => by
        unfold prow
        match q, hq with
        | 0, _ | 1, _ | 2, _ | 3, _ | 4, _ | 5, _ | 6, _ | 7, _ | 8, _ | 9, _ => rfl
      rcases Nat.lt_or_ge q 10 with h1 | h1
      · rw [set_ne (by omega), hp j hj q hq, this q h1]
      · obtain rfl : q = 10 := by omega
        rw [set_at h10]
        unfold prow
        rw [mark_same]
        rfl
    · have hne : b * 11 + 10 ≠ j * 11 + q := by omega
      rw [set_ne hne, hp j hj q hq]
      unfold prow
      rw [mark_other (fun e3 => by injection e3 with _ e4; exact e2 e4)]
  · obtain ⟨cs, o, hc⟩ := c5 i hi
    refine ⟨cs, o.far (p := ⟨pt a, b * 11 + 10, none⟩) (fun e2 => e (c7 i a hi ha e2)) _, fun j hj q hq => ?_⟩
    rw [hc j hj q hq]
    unfold prow
    rw [mark_other (fun e3 => by injection e3 with e4; exact e e4)]
set_option maxRecDepth 100000 in
set_option maxHeartbeats 4000000 in
theorem valid19 (w : World) : Calls Try.prog 19 #[.agg #[.int .u32 0]] w (Says false w) := by
  go_enter Try.func19, Try.ntmps19
  go_wp2_with fail
  go_ret
  exact ⟨rfl, by go_grown⟩
def Did (lo lc op lf n : Nat) (g : G) (rb pt : Nat → Nat) (db : Nat → Nat → Nat) (l : L) (x : Dg.Node) (w : World) (e : Ending) (w' : World) : Prop :=
  e = .returned (.tuple #[]) ∧ ∃ l', Ln w' lo lc op lf n g rb pt db l' ∧ Adv g l x l' ∧ Below lo w w'
end Go.Proofs.Ytmjfdhgfpgeboac.Gg
