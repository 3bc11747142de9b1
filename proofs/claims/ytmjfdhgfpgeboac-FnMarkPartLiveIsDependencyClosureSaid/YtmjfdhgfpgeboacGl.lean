/-
  Proved: sizes and validity depend on the graph alone, and the linker state can be put together from what tsBuild and ZZnewLinker made. Conditions:
  those that each theorem names as its hypotheses, and no others.
-/
import Derived.Test.YtmjfdhgfpgeboacGj
import Derived.Test.YtmjfdhgfpgeboacGk
namespace Go.Proofs.Ytmjfdhgfpgeboac.Gl
open Go.RowKit Go.PlainAid Mem Ho Rws Orw Dg Fs Ga Gb Gc Fil Gd Ge Gf Gg Gh Gi Gj Gk
set_option linter.unusedVariables false
section
variable {n : Nat} {F F0 : Nat → Fl}
theorem gr_np (h : gr n F = gr n F0) (i : Nat) : (F i).np = (F0 i).np := congrFun (congrArg G.np h) i
theorem gr_nd (h : gr n F = gr n F0) (i j : Nat) : ((F i).pt j).nd = ((F0 i).pt j).nd := congrFun (congrFun (congrArg G.nd h) i) j
theorem gr_dep (h : gr n F = gr n F0) (i j k : Nat) : ((F i).pt j).dep k = ((F0 i).pt j).dep k := congrFun (congrFun (congrFun (congrArg G.dep h) i) j) k
theorem sd_gr (h : gr n F = gr n F0) (i : Nat) : ∀ j, sd (F i) j = sd (F0 i) j
  | 0 => rfl
  | j + 1 => by unfold sd; rw [sd_gr h i j, gr_nd h i j]
theorem sp_gr (h : gr n F = gr n F0) : ∀ i, sp F i = sp F0 i
  | 0 => rfl
  | i + 1 => by unfold sp; rw [sp_gr h i, gr_np h i, sd_gr h i]
theorem okD_gr (h : gr n F = gr n F0) (m a b : Nat) : okD m F a b = okD m F0 a b := by unfold okD; rw [gr_np h a]
theorem valid_gr (h : gr n F = gr n F0) (hv : Valid n F0) : Valid n F := fun i hi j hj k hk => by
  rw [okD_gr h, gr_dep h i j k]
  exact hv i hi j (by rw [← gr_np h i]; exact hj) k (by rw [← gr_nd h i j]; exact hk)
theorem fit_gr (hv : Valid n F) (hs : n + sp F n ≤ 1048576) : Fit n (gr n F) :=
  ⟨by omega, fun i hi => by have := sp_le F n i hi; show (F i).np ≤ 1048576; omega, fun i hi j hj => by
    have h1 := sp_le F n i hi
    have h2 := sd_le (F i) (F i).np j hj
    show ((F i).pt j).nd ≤ 1048576
    omega, fun i hi j hj k hk => okD_np (hv i hi j hj k hk)⟩
end
/-- the structs' places, the block of their pointers laid behind them -/
def rbx (n rp : Nat) (rb : Nat → Nat) (i : Nat) : Nat := if i = n then rp else rb i
theorem rbx_at {n rp : Nat} {rb : Nat → Nat} : rbx n rp rb n = rp := if_pos rfl
theorem rbx_lt {n rp i : Nat} {rb : Nat → Nat} (h : i < n) : rbx n rp rb i = rb i := if_neg (by omega)
/-- the linker's state, put together -/
theorem ln_of {w : World} {lo lc op lf n rp : Nat} {g : G} {rb pt : Nat → Nat} {db : Nat → Nat → Nat} {cx co cr : Array Value} (h : Lz w lo lf n g rb pt db) (orp : Own w rp 120 cr) (hcr : ∀ i, i < n → cr[i]? = some (.pointer (some ⟨rb i, 0, none⟩))) (ox : Own w lc 205 cx) (h0 : cx[0]? = some (.pointer (some ⟨op, 0, none⟩))) (h10 : cx[10]? = some (.slice (some ⟨lf, 0, none⟩) n n)) (oo : Own w op 97 co) (h94 : co[94]? = some (.bool true)) :
    Ln w lo lc op lf n g (rbx n rp rb) pt db non := by
  refine ⟨⟨cx, ox, h0, h10⟩, ⟨co, oo, h94⟩, h.files.imp fun cs hc => ⟨hc.1, fun i hi => by rw [rbx_lt hi]; exact hc.2 i hi⟩, fun i hi => ⟨_, by rw [rbx_lt hi]; exact h.reprs i hi, ?_, ?_⟩, fun i hi => ?_, fun i hi j hj => ?_, h.inj, h.low, ⟨cr, by rw [rbx_at]; exact orp, fun i hi => by rw [rbx_lt hi]; exact hcr i hi⟩⟩
  · rfl
  · rfl
  · obtain ⟨cs, o, _, hc⟩ := h.parts i hi
    exact ⟨cs, o, hc⟩
  · obtain ⟨cs, o, _, hc⟩ := h.deps i hi j hj
    exact ⟨cs, o, fun k hk => ⟨hc k hk 0 (by decide), hc k hk 1 (by decide)⟩⟩
theorem Lz.below {w w' : World} {lo lf n : Nat} {g : G} {rb pt : Nat → Nat} {db : Nat → Nat → Nat} (h : Lz w lo lf n g rb pt db) (hb : Below w.heap.size w w') : Lz w' lo lf n g rb pt db :=
  ⟨h.files.imp fun cs h => ⟨h.1.below hb h.1.lt, h.2⟩, fun i hi => (h.reprs i hi).below hb (h.reprs i hi).lt, fun i hi => (h.parts i hi).below hb, fun i hi j hj => (h.deps i hi j hj).below hb, h.inj, h.low⟩
end Go.Proofs.Ytmjfdhgfpgeboac.Gl
