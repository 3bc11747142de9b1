/-
  Contract for the laws on symbol links: FollowSymbols answers the chain's end and shortens links on the way. Conditions: sizes, no cycle, the package's InvalidRef as its initialiser lays it.
-/
import Derived.Test.YtbppncnhdhogbaaDoorFr
namespace Go.Proofs.YtbppncnhdhogbaaDoor.Ff
open Go.RowKit Go.PlainAid Mem Rws Rt Fa Pl Fb Rq Fc Fy Fe Fr
set_option linter.unusedVariables false
/-- Links shortened towards r. -/
def Sh (n : Nat) (T T' : Nat → Int) (r : Nat) : Prop := ∀ x, x < n → T' x = T x ∨ (0 ≤ T x ∧ T' x = (r : Int) ∧ ∃ d, Ch T d x r)
theorem Sh.refl (n : Nat) (T : Nat → Int) (r : Nat) : Sh n T T r := fun x _ => .inl rfl
/-- InvalidRef. -/
def Inv (w : World) : Prop := w.cell? ⟨0, 0, none⟩ = some (.int .u32 4294967295) ∧ w.cell? ⟨0, 1, none⟩ = some (.int .u32 4294967295)
theorem Inv.below {w w' : World} {B : Nat} (h : Inv w) (hb : Below B w w') (hB : 0 < B) : Inv w' :=
  ⟨(hb.cell (p := ⟨0, 0, none⟩) hB).trans h.1, (hb.cell (p := ⟨0, 1, none⟩) hB).trans h.2⟩
/-- Only links differ. -/
structure Ln (D D' : Dat) : Prop where
  n : D'.N = D.N
  u : D'.U = D.U
  k : D'.K = D.K
theorem Ln.refl (D : Dat) : Ln D D := ⟨rfl, rfl, rfl⟩
theorem Ln.trans {D D' D'' : Dat} (h : Ln D D') (h' : Ln D' D'') : Ln D D'' := ⟨h'.n.trans h.n, h'.u.trans h.u, h'.k.trans h.k⟩
theorem Ln.link (D : Dat) (i : Nat) (x y : Int) : Ln D (D.link i x y) := ⟨rfl, rfl, rfl⟩
theorem Lk.set {n : Nat} {X Y : Nat → Nat} {D : Dat} {T : Nat → Int} (h : Lk n X Y D T) (i t : Nat) (ht : t < n) : Lk n X Y (D.link i (X t) (Y t)) (up T i (t : Int)) := fun j hj => by
  by_cases e : j = i
  · subst e
    refine .inr ⟨t, ht, by rw [up_at], ?_, ?_⟩
    · show up D.X j (X t) j = _; rw [up_at]
    · show up D.Y j (Y t) j = _; rw [up_at]
  · rw [up_ne _ _ e]
    have e1 : (D.link i (X t) (Y t)).X j = D.X j := up_ne _ _ e
    have e2 : (D.link i (X t) (Y t)).Y j = D.Y j := up_ne _ _ e
    rw [e1, e2]
    exact h j hj
theorem Sh.set {n : Nat} {T T' : Nat → Int} {r i d : Nat} (h : Sh n T T' r) (hi : 0 ≤ T i) (hc : Ch T d i r) : Sh n T (up T' i (r : Int)) r := fun x hx => by
  by_cases e : x = i
  · subst e
    exact .inr ⟨hi, by rw [up_at], d, hc⟩
  · rw [up_ne _ _ e]; exact h x hx
/-- Nothing that existed has changed but the symbols' own blocks. -/
structure Sd (m : Nat) (g : Nat → Nat) (w w' : World) : Prop where
  os : w'.os = w.os
  tape : w'.tape = w.tape
  output : w'.output = w.output
  size : w.heap.size ≤ w'.heap.size
  block : ∀ k, k < w.heap.size → (∀ s, s < m → k ≠ g s) → w'.heap[k]? = w.heap[k]?
theorem Sd.of {m : Nat} {g : Nat → Nat} {w w' : World} (h : Below w.heap.size w w') : Sd m g w w' := ⟨h.os, h.tape, h.output, h.size, fun k hk _ => h.block k hk⟩
theorem Sd.trans {m : Nat} {g : Nat → Nat} {w w' w'' : World} (h : Sd m g w w') (h' : Sd m g w' w'') : Sd m g w w'' :=
  ⟨h'.os.trans h.os, h'.tape.trans h.tape, h'.output.trans h.output, Nat.le_trans h.size h'.size, fun k hk hne => (h'.block k (Nat.lt_of_lt_of_le hk h.size) hne).trans (h.block k hk hne)⟩
theorem Sd.below {m B : Nat} {g : Nat → Nat} {w w' : World} (h : Sd m g w w') (hB : ∀ s, s < m → B ≤ g s) (hs : B ≤ w.heap.size) : Below B w w' :=
  ⟨h.os, h.tape, h.output, h.size, fun k hk => h.block k (Nat.lt_of_lt_of_le hk hs) fun s hsm e => by have := hB s hsm; omega⟩
theorem Sd.own {m : Nat} {g : Nat → Nat} {w w' : World} (h : Sd m g w w') {k : Nat} {t : TypeId} {cs : Array Value} (ho : Own w k t cs) (hne : ∀ s, s < m → k ≠ g s) : Own w' k t cs := (h.block k ho.lt hne).trans ho
theorem Sd.drewN {m : Nat} {g : Nat → Nat} {w w' : World} (h : Sd m g w w') (q : Nat) : Sd m g w (w'.drewN q) := ⟨h.os, h.tape, h.output, h.size, h.block⟩
theorem Sd.set {m : Nat} {g : Nat → Nat} {w w' : World} (h : Sd m g w w') {s : Nat} (hs : s < m) (o : Nat) (v : Value) : Sd m g w (w'.setCell ⟨g s, o, none⟩ v) :=
  ⟨h.os, h.tape, h.output, by rw [World.size_setCell]; exact h.size, fun k hk hne => (Below.heap_setCell w' ⟨g s, o, none⟩ v k (hne s hs)).trans (h.block k hk hne)⟩
theorem Sd.set' {m : Nat} {g : Nat → Nat} {w w' : World} (h : Sd m g w w') {b : Nat} (hb : w.heap.size ≤ b) (o : Nat) (v : Value) : Sd m g w (w'.setCell ⟨b, o, none⟩ v) :=
  ⟨h.os, h.tape, h.output, by rw [World.size_setCell]; exact h.size, fun k hk hne => (Below.heap_setCell w' ⟨b, o, none⟩ v k (by show k ≠ b; omega)).trans (h.block k hk hne)⟩
theorem Sd.alloc {m : Nat} {g : Nat → Nat} {w w' : World} (h : Sd m g w w') (o : Obj) : Sd m g w (w'.alloc o) := h.trans (Sd.of (by go_grown))
theorem Sy.setFar {B G m : Nat} {C g : Nat → Nat} {D : Dat} {w : World} (h : Sy B G m C g D w) {b : Nat} (hb : w.heap.size ≤ b ∨ (b ≠ G ∧ ∀ s, s < m → b ≠ g s)) (o : Nat) (v : Value) : Sy B G m C g D (w.setCell ⟨b, o, none⟩ v) := by
  have h1 : b ≠ G ∧ ∀ s, s < m → b ≠ g s := by
    rcases hb with h2 | h2
    · exact ⟨by have := h.top.lt; omega, fun s hs => by have := (h.row s hs).lt; omega⟩
    · exact h2
  exact ⟨Cells.fari h.top (Ne.symm h1.1) _ _, fun s hs => Cells.fari (h.row s hs) (Ne.symm (h1.2 s hs)) _ _, h.lo, h.glo, h.inj⟩
/-- What FollowSymbols answers. -/
def Followed (B G m n : Nat) (C g : Nat → Nat) (X Y : Nat → Nat) (D : Dat) (T : Nat → Int) (r : Nat) (w : World) (e : Ending) (w' : World) : Prop :=
  e = .returned (.agg #[.int .u32 (X r : Int), .int .u32 (Y r : Int)]) ∧ ∃ D' T', Sy B G m C g D' w' ∧ Lk n X Y D' T' ∧ Sh n T T' r ∧ Ln D D' ∧ Sd m g w w'
theorem Lk.no {n : Nat} {X Y : Nat → Nat} {D : Dat} {T : Nat → Int} (h : Lk n X Y D T) {i : Nat} (hi : i < n) (hT : T i < 0) : D.X i = 4294967295 ∧ D.Y i = 4294967295 := by
  rcases h i hi with ⟨_, h2⟩ | ⟨t, _, ht, _⟩
  · exact h2
  · omega
theorem Lk.yes {n : Nat} {X Y : Nat → Nat} {D : Dat} {T : Nat → Int} (h : Lk n X Y D T) {i : Nat} (hi : i < n) (hT : 0 ≤ T i) : ∃ t : Nat, t < n ∧ T i = (t : Int) ∧ D.X i = (X t : Int) ∧ D.Y i = (Y t : Int) := by
  rcases h i hi with ⟨h1, _⟩ | h2
  · omega
  · exact h2
theorem alloc3 (w : World) (x y z : Array Value) (a b c : TypeId) : Below w.heap.size w (((w.alloc (.cells x a)).alloc (.cells y b)).alloc (.cells z c)) ∧ Own (((w.alloc (.cells x a)).alloc (.cells y b)).alloc (.cells z c)) w.heap.size a x ∧ Own (((w.alloc (.cells x a)).alloc (.cells y b)).alloc (.cells z c)) (w.heap.size + 1) b y ∧ Own (((w.alloc (.cells x a)).alloc (.cells y b)).alloc (.cells z c)) (w.heap.size + 1 + 1) c z := by
  refine ⟨by go_grown, ((Own.new w a x).alloc _).alloc _, ?_, ?_⟩
  · have := (Own.new (w.alloc (.cells x a)) b y).alloc (.cells z c)
    rw [World.size_alloc] at this
    exact this
  · have := Own.new ((w.alloc (.cells x a)).alloc (.cells y b)) c z
    rw [World.size_alloc, World.size_alloc] at this
    exact this
set_option maxRecDepth 100000 in
set_option maxHeartbeats 16000000 in
theorem stop23 {B G m n : Nat} {C g : Nat → Nat} {X Y : Nat → Nat} (hL : ∀ i, i < n → Lc C m i (X i) (Y i)) (hP : P C m = n) (hn : n ≤ 4096) (hm : m ≤ 4097) (hB0 : 0 < B) (i : Nat) (hi : i < n) (T : Nat → Int) (D : Dat) (w : World) (h : Sy B G m C g D w) (hK : Lk n X Y D T) (hI : Inv w) (hT : T i < 0) :
    Calls Tryd.prog 23 #[.agg #[.slice (some ⟨G, 0, none⟩) m m], .agg #[.int .u32 (X i : Int), .int .u32 (Y i : Int)]] w (Followed B G m n C g X Y D T i w) := by
  have hLi := hL i hi
  have hPa := P_at C hLi.1
  have hgb : ∀ s, s < m → g s < w.heap.size := fun s hs => (h.row s hs).lt
  have hGl := h.top.lt
  have hlo := h.lo
  have hGET : ∀ W, Below w.heap.size w W → Calls Tryd.prog 26 #[.agg #[.slice (some ⟨G, 0, none⟩) m m], .agg #[.int .u32 (X i : Int), .int .u32 (Y i : Int)]] W fun e w' => e = .returned (.pointer (some ⟨g (X i), Y i * 10, none⟩)) ∧ Below W.heap.size W w' := fun W hb => get26 (h.below hb (Nat.le_refl _)) hLi hm (by omega)
  have HGET := Lib.hid hGET
  have HL := Lib.hid hLi
  have HS := Lib.hid h
  have HK := Lib.hid hK
  have HI := Lib.hid hI
  have HG := Lib.hid hgb
  obtain ⟨hx, hy⟩ := Lk.no hK hi hT
  have HX := Lib.hid hx
  have HY := Lib.hid hy
  have hXl : X i ≤ 4097 := by have := hLi.1; omega
  have hYl : Y i ≤ 4096 := by have := hLi.2.1; omega
  clear hL hP hPa hLi h hK hI hgb hGET hx hy
  go_enter Tryd.func23, Tryd.ntmps23
  go_wp2_with fail
  refine (HGET.out _ (by go_grown)).mono ?_
  rintro e w1 ⟨rfl, hb1⟩
  have h3 := alloc3 w #[.slice (some ⟨G, 0, none⟩) m m] #[.int .u32 (X i : Int), .int .u32 (Y i : Int)] #[.int .u32 0, .int .u32 0] 40 43 43
  have hb0 := h3.1.trans (hb1.mono h3.1.size)
  have o2 := h3.2.1.below hb1 h3.2.1.lt
  have o3 := h3.2.2.1.below hb1 h3.2.2.1.lt
  have o4 := h3.2.2.2.below hb1 h3.2.2.2.lt
  have HB := Lib.hid hb0
  have hs1 := HS.out.below hb0 (Nat.le_refl _)
  have HS1 := Lib.hid hs1
  have c2 : w1.cell? ⟨g (X i), Y i * 10 + 2, none⟩ = some (.int .u32 4294967295) := (hs1.cell HL.out 2 (by omega)).trans (by rw [← HX.out]; rfl)
  have c3 : w1.cell? ⟨g (X i), Y i * 10 + 3, none⟩ = some (.int .u32 4294967295) := (hs1.cell HL.out 3 (by omega)).trans (by rw [← HY.out]; rfl)
  obtain ⟨v0, v1⟩ := HI.out.below hb0 (by have := HG.out; omega)
  have b3 := (o3.cell 0).trans (show _ = some (Value.int .u32 (X i : Int)) from rfl)
  have b3' := (o3.cell 1).trans (show _ = some (Value.int .u32 (Y i : Int)) from rfl)
  have b4 := (o4.cell 0).trans (show _ = some (Value.int .u32 0) from rfl)
  have b4' := (o4.cell 1).trans (show _ = some (Value.int .u32 0) from rfl)
  have f4 := o4.frozen 0
  have f4' := o4.frozen 1
  have O4 := Lib.hid o4
  clear h3 hb0 hb1 o2 o3 o4 hs1
  go_wp2_with fail
  go_quiet (fail)
  go_wp2_with fail
  have O5 := Lib.hid (Own.set (Own.set (O4.out.drewN nq) 0 (.int .u32 (X i : Int))) 1 (.int .u32 (Y i : Int)))
  have r0 := (O5.out.cell 0).trans (show _ = some (Value.int .u32 (X i : Int)) from rfl)
  have r1 := (O5.out.cell 1).trans (show _ = some (Value.int .u32 (Y i : Int)) from rfl)
  refine bodyPost_ret (v := .agg #[.int .u32 (X i : Int), .int .u32 (Y i : Int)]) (by simp [results, Tryd.results23, go_sem, r0, r1]) rfl ⟨rfl, D, T, ?_, HK.out, Sh.refl n T i, Ln.refl D, ?_⟩
  · have hne : w.heap.size + 1 + 1 ≠ G ∧ ∀ s, s < m → w.heap.size + 1 + 1 ≠ g s := ⟨by omega, fun s hs => by have := HG.out s hs; omega⟩
    exact Sy.setFar (Sy.setFar (HS1.out.drewN nq) (.inr hne) _ _) (.inr hne) _ _
  · exact (((Sd.of HB.out).drewN nq).set' (by omega) _ _).set' (by omega) _ _
theorem Lk.rng {n : Nat} {X Y : Nat → Nat} {D : Dat} {T : Nat → Int} (h : Lk n X Y D T) : Rng n T := fun i hi => by
  rcases h i hi with ⟨h1, _⟩ | ⟨t, ht, h1, _⟩ <;> omega
/-- The link has become the end's already, or is set to it. -/
theorem Lk.same {C : Nat → Nat} {m n : Nat} {X Y : Nat → Nat} (hm : m ≤ 4097) (hL : ∀ i, i < n → Lc C m i (X i) (Y i)) {D : Dat} {T : Nat → Int} (h : Lk n X Y D T) {i r : Nat} (hi : i < n) (hr : r < n) (hx : D.X i = (X r : Int)) (hy : D.Y i = (Y r : Int)) : T i = (r : Int) := by
  have h1 := hL r hr
  rcases h i hi with ⟨_, h2, _⟩ | ⟨t, ht, h2, h3, h4⟩
  · have := h1.1
    omega
  · have e1 : X t = X r := by omega
    have e2 : Y t = Y r := by omega
    have h5 := (hL t ht).2.2
    rw [e1, e2, h1.2.2] at h5
    omega
theorem use4 {A B C D Q : Prop} (h : A ∧ B ∧ C ∧ D) (k : A → B → C → D → Q) : Q := k h.1 h.2.1 h.2.2.1 h.2.2.2
set_option maxRecDepth 100000 in
set_option maxHeartbeats 16000000 in
theorem run23 {B G m n : Nat} {C g : Nat → Nat} {X Y : Nat → Nat} (hL : ∀ i, i < n → Lc C m i (X i) (Y i)) (hP : P C m = n) (hn : n ≤ 4096) (hm : m ≤ 4097) (hB0 : 0 < B) : ∀ (d i r : Nat) (T : Nat → Int) (D : Dat) (w : World), i < n → Sy B G m C g D w → Lk n X Y D T → Inv w → Ch T d i r →
    Calls Tryd.prog 23 #[.agg #[.slice (some ⟨G, 0, none⟩) m m], .agg #[.int .u32 (X i : Int), .int .u32 (Y i : Int)]] w (Followed B G m n C g X Y D T r w) := by
  intro d
  induction d with
  | zero =>
    intro i r T D w hi h hK hI hc
    cases hc with
    | stop _ hT => exact stop23 hL hP hn hm hB0 i hi T D w h hK hI hT
  | succ d ih =>
    intro i r T D w hi h hK hI hc
    have hc0 := hc
    cases hc with
    | step _ _ _ hT c =>
      obtain ⟨t, htn, ht, hx, hy⟩ := Lk.yes hK hi hT
      rw [ht, Int.toNat_natCast] at c
      have hrn : r < n := c.lt (Lk.rng hK) htn
      have hLi := hL i hi
      have hPa := P_at C hLi.1
      have hgb : ∀ s, s < m → g s < w.heap.size := fun s hs => (h.row s hs).lt
      have hGl := h.top.lt
      have hlo := h.lo
      have HGET : Hid (∀ W, Below w.heap.size w W → Calls Tryd.prog 26 #[.agg #[.slice (some ⟨G, 0, none⟩) m m], .agg #[.int .u32 (X i : Int), .int .u32 (Y i : Int)]] W fun e w' => e = .returned (.pointer (some ⟨g (X i), Y i * 10, none⟩)) ∧ Below W.heap.size W w') := Lib.hid fun W hb => get26 (h.below hb (Nat.le_refl _)) hLi hm (by omega)
      have HIH : Hid (∀ W, Below w.heap.size w W → Calls Tryd.prog 23 #[.agg #[.slice (some ⟨G, 0, none⟩) m m], .agg #[.int .u32 (X t : Int), .int .u32 (Y t : Int)]] W (Followed B G m n C g X Y D T r W)) := Lib.hid fun W hb => ih t r T D W htn (h.below hb (Nat.le_refl _)) hK (hI.below hb (by omega)) c
      have hLt := hL t htn
      have hLr := hL r hrn
      have hPt := P_at C hLt.1
      have hPr := P_at C hLr.1
      have HLL := Lib.hid hL
      have HL := Lib.hid hLi
      have HS := Lib.hid h
      have HK := Lib.hid hK
      have HI := Lib.hid hI
      have HG := Lib.hid hgb
      have HX := Lib.hid hx
      have HY := Lib.hid hy
      have HT := Lib.hid ht
      have HC := Lib.hid hc0
      have hXl : X i ≤ 4097 := by have := hLi.1; omega
      have hYl : Y i ≤ 4096 := by have := hLi.2.1; omega
      have hXt : X t ≤ 4097 := by have := hLt.1; omega
      have hYt : Y t ≤ 4096 := by have := hLt.2.1; omega
      have hXr : X r ≤ 4097 := by have := hLr.1; omega
      have hYr : Y r ≤ 4096 := by have := hLr.2.1; omega
      have e1 : ((X t : Int) == 4294967295) = false := by rw [beq_eq_false_iff_ne]; omega
      clear hL hP hPa hLi h hK hI hgb hx hy ih c hc0 ht hLt hLr hPt hPr
      go_enter Tryd.func23, Tryd.ntmps23
      go_wp2_with fail
      refine (HGET.out _ (by go_grown)).mono ?_
      rintro e w1 ⟨rfl, hb1⟩
      have h3 := alloc3 w #[.slice (some ⟨G, 0, none⟩) m m] #[.int .u32 (X i : Int), .int .u32 (Y i : Int)] #[.int .u32 0, .int .u32 0] 40 43 43
      have hb0 := h3.1.trans (hb1.mono h3.1.size)
      have o2 := h3.2.1.below hb1 h3.2.1.lt
      have o4 := h3.2.2.2.below hb1 h3.2.2.2.lt
      have hs1 := HS.out.below hb0 (Nat.le_refl _)
      have c2 : w1.cell? ⟨g (X i), Y i * 10 + 2, none⟩ = some (.int .u32 (X t : Int)) := (hs1.cell HL.out 2 (by omega)).trans (by rw [← HX.out]; rfl)
      have c3 : w1.cell? ⟨g (X i), Y i * 10 + 3, none⟩ = some (.int .u32 (Y t : Int)) := (hs1.cell HL.out 3 (by omega)).trans (by rw [← HY.out]; rfl)
      obtain ⟨v0, v1⟩ := HI.out.below hb0 (by omega)
      have b2 := (o2.cell 0).trans (show _ = some (Value.slice (some ⟨G, 0, none⟩) m m) from rfl)
      have O2 := Lib.hid o2
      have O4 := Lib.hid o4
      have HB := Lib.hid hb0
      clear h3 hb0 hb1 o2 o4 hs1
      go_wp2_with fail
      go_quiet (fail)
      go_wp2_with fail
      have HW1 := Lib.hid (below_drewN HB.out nq)
      have O4' := Lib.hid (O4.out.drewN nq)
      have d2 : (w1.drewN nq).cell? ⟨g (X i), Y i * 10 + 2, none⟩ = some (.int .u32 (X t : Int)) := c2
      have d3 : (w1.drewN nq).cell? ⟨g (X i), Y i * 10 + 3, none⟩ = some (.int .u32 (Y t : Int)) := c3
      have e2 : (w1.drewN nq).cell? ⟨w.heap.size, 0, none⟩ = some (.slice (some ⟨G, 0, none⟩) m m) := b2
      have hwl : w.heap.size < (w1.drewN nq).heap.size := O2.out.lt
      clear c2 c3 b2 v0 v1 O2 O4 HB
      generalize w1.drewN nq = W1 at *
      have hwz := HW1.out.size
      have hgl : g (X i) < W1.heap.size := by have := HG.out (X i) HL.out.1; omega
      have HQ : Hid (∀ w2, Sd m g (W1.alloc (.cells #[.int .u32 0, .int .u32 0] 43)).drew w2 → w2.cell? ⟨W1.heap.size, 0, none⟩ = some (.int .u32 0) ∧ w2.cell? ⟨W1.heap.size, 1, none⟩ = some (.int .u32 0) ∧ w2.frozen? ⟨W1.heap.size, 0, none⟩ = false ∧ w2.frozen? ⟨W1.heap.size, 1, none⟩ = false) := Lib.hid fun w2 hsd => by
        have hn := hsd.own ((Own.new W1 43 #[.int .u32 0, .int .u32 0]).drew) (fun s hs => by have := HG.out s hs; omega)
        exact ⟨(hn.cell 0).trans rfl, (hn.cell 1).trans rfl, hn.frozen 0, hn.frozen 1⟩
      go_region_with (go_at_call 23; refine (HIH.out _ (by first | exact HW1.out | exact below_drew HW1.out | exact below_drew (HW1.out.alloc hwz _) | exact (below_drew HW1.out).alloc hwz _)).mono ?_; rintro e w2 ⟨rfl, D', T', hsy, hlk, hsh, hln, hsd⟩; first | (refine use4 (HQ.out _ hsd) ?_; intro q0 q1 g0 g1) | skip)
      all_goals first
        | (refine (fun (h1 : Sd m g W1.drew w2) => ?_) hsd
           have HSD : Hid (Sd m g W1 (w2.alloc (.cells #[.int .u32 (X r : Int), .int .u32 (Y r : Int)] 43))) := Lib.hid (((Sd.of (below_drew (Below.refl _ W1))).trans h1).alloc _)
           have HS2 := Lib.hid (hsy.alloc (.cells #[.int .u32 (X r : Int), .int .u32 (Y r : Int)] 43))
           have hn := Own.new w2 43 #[.int .u32 (X r : Int), .int .u32 (Y r : Int)]
           clear h1 hsd hsy
           generalize w2.alloc _ = W2 at *
           generalize w2.heap.size = L at *)
        | (have HSD : Hid (Sd m g W1 ((w2.setCell ⟨W1.heap.size, 0, none⟩ (.int .u32 (X r : Int))).setCell ⟨W1.heap.size, 1, none⟩ (.int .u32 (Y r : Int)))) := Lib.hid ((((Sd.of (below_drew (Below.alloc (Below.refl _ W1) (Nat.le_refl _) _))).trans hsd).set' (Nat.le_refl _) _ _).set' (Nat.le_refl _) _ _)
           have hne : W1.heap.size ≠ G ∧ ∀ s, s < m → W1.heap.size ≠ g s := ⟨by omega, fun s hs => by have := HG.out s hs; omega⟩
           have HS2 := Lib.hid (Sy.setFar (Sy.setFar hsy (.inr hne) 0 (.int .u32 (X r : Int))) (.inr hne) 1 (.int .u32 (Y r : Int)))
           have hn : Own ((w2.setCell ⟨W1.heap.size, 0, none⟩ (.int .u32 (X r : Int))).setCell ⟨W1.heap.size, 1, none⟩ (.int .u32 (Y r : Int))) W1.heap.size 43 #[.int .u32 (X r : Int), .int .u32 (Y r : Int)] := Own.set (Own.set (hsd.own ((Own.new W1 43 #[.int .u32 0, .int .u32 0]).drew) hne.2) 0 _) 1 _
           clear q0 q1 g0 g1 hsd hsy hne
           generalize (w2.setCell _ _).setCell _ _ = W2 at *
           obtain ⟨L, hL⟩ : ∃ L : Nat, L = W1.heap.size := ⟨_, rfl⟩
           rw [← hL] at hn ⊢
           clear hL)
      all_goals
        have l0 := (hn.cell 0).trans (show _ = some (.int .u32 (X r : Int)) from rfl)
        have l1 := (hn.cell 1).trans (show _ = some (.int .u32 (Y r : Int)) from rfl)
        have hne4 : w.heap.size + 1 + 1 ≠ G ∧ ∀ s, s < m → w.heap.size + 1 + 1 ≠ g s := ⟨by omega, fun s hs => by have := HG.out s hs; omega⟩
        have o4 := HSD.out.own O4'.out hne4.2
        have b4 := (o4.cell 0).trans (show _ = some (Value.int .u32 0) from rfl)
        have b4' := (o4.cell 1).trans (show _ = some (Value.int .u32 0) from rfl)
        have f4 := o4.frozen 0
        have f4' := o4.frozen 1
        have m2 : W2.cell? ⟨g (X i), Y i * 10 + 2, none⟩ = some (.int .u32 (D'.X i)) := HS2.out.cell HL.out 2 (by omega)
        have m3 : W2.cell? ⟨g (X i), Y i * 10 + 3, none⟩ = some (.int .u32 (D'.Y i)) := HS2.out.cell HL.out 3 (by omega)
        have f2 := HS2.out.frozen HL.out.1 (Y i * 10 + 2)
        have f3 := HS2.out.frozen HL.out.1 (Y i * 10 + 3)
        have O4 := Lib.hid o4
        have HNE := Lib.hid hne4
        have HLK := Lib.hid hlk
        have HSH := Lib.hid hsh
        have HLN := Lib.hid hln
        have hLne : w.heap.size + 1 + 1 ≠ g (X i) := hne4.2 _ HL.out.1
        have HSD2 := Lib.hid ((Sd.of HW1.out).trans HSD.out)
        clear hn o4 hne4 hlk hsh hln HQ d2 d3 e2 HIH HGET HSD
        by_cases hxe : D'.X i = (X r : Int)
        · by_cases hye : D'.Y i = (Y r : Int)
          · rw [hxe] at m2
            rw [hye] at m3
            clear hxe hye
            go_wp2_with fail
            go_quiet (fail)
            go_wp2_with fail
            have O5 := Lib.hid (Own.set (Own.set (O4.out.drewN nq) 0 (.int .u32 (X r : Int))) 1 (.int .u32 (Y r : Int)))
            have r0 := (O5.out.cell 0).trans (show _ = some (.int .u32 (X r : Int)) from rfl)
            have r1 := (O5.out.cell 1).trans (show _ = some (.int .u32 (Y r : Int)) from rfl)
            refine bodyPost_ret (v := .agg #[(.int .u32 (X r : Int)), (.int .u32 (Y r : Int))]) (by simp [results, Tryd.results23, go_sem, r0, r1]) rfl ⟨rfl, D', T', Sy.setFar (Sy.setFar (HS2.out.drewN nq) (.inr HNE.out) _ _) (.inr HNE.out) _ _, HLK.out, HSH.out, HLN.out, ((HSD2.out.drewN nq).set' (by omega) _ _).set' (by omega) _ _⟩
          · rw [hxe] at m2
            have t1 : (D'.Y i == (Y r : Int)) = false := beq_eq_false_iff_ne.2 hye
            clear hxe hye
            go_wp2_with fail
            go_quiet (fail)
            go_wp2_with fail
            have O5 := Lib.hid (Own.set (Own.set (Own.far (Own.far (O4.out.drewN nq) (p := ⟨g (X i), Y i * 10 + 2, none⟩) hLne (.int .u32 (X r : Int))) (p := ⟨g (X i), Y i * 10 + 2 + 1, none⟩) hLne (.int .u32 (Y r : Int))) 0 (.int .u32 (X r : Int))) 1 (.int .u32 (Y r : Int)))
            have r0 := (O5.out.cell 0).trans (show _ = some (.int .u32 (X r : Int)) from rfl)
            have r1 := (O5.out.cell 1).trans (show _ = some (.int .u32 (Y r : Int)) from rfl)
            refine bodyPost_ret (v := .agg #[(.int .u32 (X r : Int)), (.int .u32 (Y r : Int))]) (by simp [results, Tryd.results23, go_sem, r0, r1]) rfl ⟨rfl, D'.link i (X r) (Y r), up T' i (r : Int), ?_, Lk.set HLK.out i r hrn, HSH.out.set hT HC.out, Ln.trans HLN.out (Ln.link _ _ _ _), ((((HSD2.out.drewN nq).set HL.out.1 _ _).set HL.out.1 _ _).set' (by omega) _ _).set' (by omega) _ _⟩
            exact Sy.setFar (Sy.setFar ((HS2.out.drewN nq).link HL.out (X r : Int) (Y r : Int)) (.inr HNE.out) _ _) (.inr HNE.out) _ _
        · have t1 : (D'.X i == (X r : Int)) = false := beq_eq_false_iff_ne.2 hxe
          clear hxe
          go_wp2_with fail
          go_quiet (fail)
          go_wp2_with fail
          have O5 := Lib.hid (Own.set (Own.set (Own.far (Own.far (O4.out.drewN nq) (p := ⟨g (X i), Y i * 10 + 2, none⟩) hLne (.int .u32 (X r : Int))) (p := ⟨g (X i), Y i * 10 + 2 + 1, none⟩) hLne (.int .u32 (Y r : Int))) 0 (.int .u32 (X r : Int))) 1 (.int .u32 (Y r : Int)))
          have r0 := (O5.out.cell 0).trans (show _ = some (.int .u32 (X r : Int)) from rfl)
          have r1 := (O5.out.cell 1).trans (show _ = some (.int .u32 (Y r : Int)) from rfl)
          refine bodyPost_ret (v := .agg #[(.int .u32 (X r : Int)), (.int .u32 (Y r : Int))]) (by simp [results, Tryd.results23, go_sem, r0, r1]) rfl ⟨rfl, D'.link i (X r) (Y r), up T' i (r : Int), ?_, Lk.set HLK.out i r hrn, HSH.out.set hT HC.out, Ln.trans HLN.out (Ln.link _ _ _ _), ((((HSD2.out.drewN nq).set HL.out.1 _ _).set HL.out.1 _ _).set' (by omega) _ _).set' (by omega) _ _⟩
          exact Sy.setFar (Sy.setFar ((HS2.out.drewN nq).link HL.out (X r : Int) (Y r : Int)) (.inr HNE.out) _ _) (.inr HNE.out) _ _
end Go.Proofs.YtbppncnhdhogbaaDoor.Ff
