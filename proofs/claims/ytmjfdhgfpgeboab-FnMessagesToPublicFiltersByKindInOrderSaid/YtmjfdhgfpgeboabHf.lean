/-
  Contract: the conversion. Conditions: sizes alone.
-/
import Derived.Test.YtmjfdhgfpgeboabHb
import Derived.Test.YtmjfdhgfpgeboabHe
namespace Go.Proofs.Ytmjfdhgfpgeboab.Hf
open Go.RowKit Go.PlainAid Mem Ha Ho Hb Hb1 Hc He
set_option linter.unusedVariables false
set_option linter.unusedSimpArgs false

theorem row_form {W : World} {lo sz n : Nat} {e : TypeId} {v : Value} {xs : List Value} (h : W.ownsRow lo e sz v n xs) : ∃ A c, v = .slice A n c := by
  rcases h.2 with ⟨rfl, rfl⟩ | ⟨g, cap, cur, rfl, _⟩
  · exact ⟨_, _, rfl⟩
  · exact ⟨_, _, rfl⟩
theorem row_some {W : World} {lo sz n c : Nat} {e : TypeId} {A : Option Addr} {xs : List Value} (h : W.ownsRow lo e sz (.slice A n c) n xs) (hn : 0 < n) : ∃ g, A = some ⟨g, 0, none⟩ := by
  rcases h.2 with ⟨h1, rfl⟩ | ⟨g, cap, cur, h1, _⟩
  · omega
  · injection h1 with h1; exact ⟨g, h1⟩
theorem row_cell {W : World} {lo sz n c g : Nat} {e : TypeId} {xs : List Value} (h : W.ownsRow lo e sz (.slice (some ⟨g, 0, none⟩) n c) n xs) {i : Nat} {u : Value} (hu : xs[i]? = some u) : W.cell? ⟨g, i, none⟩ = some u := by
  have := h.cells (g := g) rfl i u hu
  rwa [add_none, Nat.zero_add] at this
theorem undrew {W w1 : World} (h : Below W.drew.heap.size W.drew w1) : Below W.heap.size W w1 := ⟨h.os, h.tape, h.output, h.size, h.block⟩

theorem conv17 (a : Option Addr) (L : Option LD) (ab : Bool) (w : World) (h : Lc w 50 a (L.map LD.c50)) : Calls Try.prog 17 #[.pointer a, .int .u8 (stI ab)] w (Conv ab L w) := by
  rcases h with ⟨h1, rfl⟩ | ⟨p, cs, h1, rfl, h3⟩
  · obtain rfl : L = none := by simpa using h1
    exact conv17n ab w
  · cases L with
    | none => cases h1
    | some d =>
      obtain rfl : d.c50 = cs := by simpa using h1
      exact conv17s p d ab w h3

def Nq (W : World) (v : Value) (k : Nat) (ab b8 : Bool) (xs : List Value) : Prop :=
  W.ownsRow 0 42 2 v k xs ∧ (k = 0 → v = .slice none 0 0) ∧ ∀ j, j < k → ∃ a, xs[j * 2]? = some (.string (noteT j)) ∧ xs[j * 2 + 1]? = some (.pointer a) ∧ Lc W 40 a ((nloc b8 j).map (LD.c40 ab))
theorem Nq.below {W W1 : World} {v : Value} {k : Nat} {ab b8 : Bool} {xs : List Value} (h : Nq W v k ab b8 xs) (hb : Below W.heap.size W W1) : Nq W1 v k ab b8 xs :=
  ⟨row_below (B := 0) h.1 hb, h.2.1, fun j hj => by
    obtain ⟨a, h1, h2, h5⟩ := h.2.2 j hj
    exact ⟨a, h1, h2, h5.below hb⟩⟩
theorem Nq.other {W W1 : World} {lo n sz : Nat} {e : TypeId} {u : Value} {us : List Value} {v : Value} {k : Nat} {ab b8 : Bool} {xs : List Value} (h : Nq W v k ab b8 xs) (hr : W.ownsRow lo e sz u n us) (hg : W.grownBy W1 u.ownBlock) (h42 : 42 ≠ e) (h40 : 40 ≠ e) : Nq W1 v k ab b8 xs :=
  ⟨row_of_row hr hg h.1 h42, h.2.1, fun j hj => by
    obtain ⟨a, h1, h2, h5⟩ := h.2.2 j hj
    exact ⟨a, h1, h2, h5.keep fun p cs ho => own_grown hr hg ho h40⟩⟩
theorem Nq.more {w0 W W1 : World} {lo : Nat} {v v' : Value} {k : Nat} {ab b8 : Bool} {xs : List Value} {a : Option Addr} (h : Nq W v k ab b8 xs)
    (hA : Apped w0 lo 42 2 v k xs W v' 1 [.string (noteT k), .pointer a] W1) (ha : Lc W 40 a ((nloc b8 k).map (LD.c40 ab))) :
    Nq W1 v' (k + 1) ab b8 (xs ++ [.string (noteT k), .pointer a]) := by
  have hl := h.1.1
  have kp : ∀ p cs, Own W p 40 cs → Own W1 p 40 cs := fun p cs ho => hA.own ho (by decide)
  refine ⟨row_down hA.row (Nat.zero_le _), fun h => by omega, fun j hj => ?_⟩
  by_cases e : j = k
  · subst e
    exact ⟨a, (get_app_ge (j := 0) (by omega)).trans rfl, (get_app_ge (j := 1) (by omega)).trans rfl, ha.keep kp⟩
  · obtain ⟨a', h1, h2, h5⟩ := h.2.2 j (by omega)
    exact ⟨a', get_app_lt h1, get_app_lt h2, h5.keep kp⟩

/-- The numbers below k whose kind is asked for, in order. -/
def sel (K : Nat → Int) (want : Int) : Nat → List Nat
  | 0 => []
  | k + 1 => if K k == want then sel K want k ++ [k] else sel K want k
theorem sel_yes {K : Nat → Int} {want : Int} {k : Nat} (h : (K k == want) = true) : sel K want (k + 1) = sel K want k ++ [k] := by rw [sel, if_pos h]
theorem sel_no {K : Nat → Int} {want : Int} {k : Nat} (h : (K k == want) = false) : sel K want (k + 1) = sel K want k := by rw [sel, h]; rfl
theorem sel_le (K : Nat → Int) (want : Int) : ∀ k, (sel K want k).length ≤ k
  | 0 => Nat.le_refl _
  | k + 1 => by
    have := sel_le K want k
    cases h : K k == want
    · rw [sel_no h]; omega
    · rw [sel_yes h, List.length_append]; simp; omega

def Outs (W : World) (v : Value) (L : List Nat) (T G : Nat → ByteArray) (NB : Nat → Nat) (D : Nat → Int) (ab : Bool) (xs : List Value) : Prop :=
  W.ownsRow 0 35 6 v L.length xs ∧ (L = [] → v = .slice none 0 0) ∧ ∀ j i, L[j]? = some i → ∃ nv ns a, xs[j * 6]? = some (.string (idT (D i))) ∧ xs[j * 6 + 1]? = some (.string (G i)) ∧ xs[j * 6 + 2]? = some (.string (T i)) ∧ xs[j * 6 + 3]? = some (.pointer a) ∧
    xs[j * 6 + 4]? = some nv ∧ xs[j * 6 + 5]? = some .nilIface ∧ Nq W nv (NB i % 4) ab (bit (NB i) 8) ns ∧ Lc W 40 a ((mloc (bit (NB i) 4) (T i) i).map (LD.c40 ab))
theorem Outs.below {W W1 : World} {v : Value} {L : List Nat} {T G : Nat → ByteArray} {NB : Nat → Nat} {D : Nat → Int} {ab : Bool} {xs : List Value} (h : Outs W v L T G NB D ab xs) (hb : Below W.heap.size W W1) : Outs W1 v L T G NB D ab xs :=
  ⟨row_below (B := 0) h.1 hb, h.2.1, fun j i hi => by
    obtain ⟨nv, ns, a, h1, h2, h3, h4, h5, h6, h9, h10⟩ := h.2.2 j i hi
    exact ⟨nv, ns, a, h1, h2, h3, h4, h5, h6, h9.below hb, h10.below hb⟩⟩
theorem Outs.more {w0 W W1 : World} {lo : Nat} {v v' nv : Value} {L : List Nat} {k : Nat} {T G : Nat → ByteArray} {NB : Nat → Nat} {D : Nat → Int} {ab : Bool} {xs ns : List Value} {a : Option Addr} (h : Outs W v L T G NB D ab xs)
    (hA : Apped w0 lo 35 6 v L.length xs W v' 1 [.string (idT (D k)), .string (G k), .string (T k), .pointer a, nv, .nilIface] W1) (hn : Nq W nv (NB k % 4) ab (bit (NB k) 8) ns) (ha : Lc W 40 a ((mloc (bit (NB k) 4) (T k) k).map (LD.c40 ab))) :
    Outs W1 v' (L ++ [k]) T G NB D ab (xs ++ [.string (idT (D k)), .string (G k), .string (T k), .pointer a, nv, .nilIface]) := by
  have hl := h.1.1
  have kp : ∀ p cs, Own W p 40 cs → Own W1 p 40 cs := fun p cs ho => hA.own ho (by decide)
  refine ⟨by rw [List.length_append]; exact row_down hA.row (Nat.zero_le _), fun h => by simp at h, fun j i hj => ?_⟩
  by_cases e : j < L.length
  · rw [List.getElem?_append_left e] at hj
    obtain ⟨nv', ns', a', h1, h2, h3, h4, h5, h6, h9, h10⟩ := h.2.2 j i hj
    exact ⟨nv', ns', a', get_app_lt h1, get_app_lt h2, get_app_lt h3, get_app_lt h4, get_app_lt h5, get_app_lt h6, h9.other hA.row0 hA.step (by decide) (by decide), h10.keep kp⟩
  · have hj2 := (List.getElem?_eq_some_iff.1 hj).1
    simp at hj2
    obtain rfl : j = L.length := by omega
    rw [List.getElem?_append_right (Nat.le_refl _), Nat.sub_self] at hj
    obtain rfl : k = i := by simpa using hj
    exact ⟨nv, ns, a, (get_app_ge (j := 0) (by omega)).trans rfl, (get_app_ge (j := 1) (by omega)).trans rfl, (get_app_ge (j := 2) (by omega)).trans rfl, (get_app_ge (j := 3) (by omega)).trans rfl, (get_app_ge (j := 4) (by omega)).trans rfl, (get_app_ge (j := 5) (by omega)).trans rfl, hn.other hA.row0 hA.step (by decide) (by decide), ha.keep kp⟩

def noteZ : Array Value := #[.string ⟨#[]⟩, .pointer none]
def pubZ : Array Value := #[.string ⟨#[]⟩, .string ⟨#[]⟩, .string ⟨#[]⟩, .pointer none, .slice none 0 0, .nilIface]
theorem info42 : (Try.prog.info? 42).map (fun i => (i.zero, i.size, i.bytes)) = some (some (.agg noteZ), 2, 24) := by kernel_rfl
theorem info35 : (Try.prog.info? 35).map (fun i => (i.zero, i.size, i.bytes)) = some (some (.agg pubZ), 6, 96) := by kernel_rfl

def Conved (n : Nat) (want : Int) (T G : Nat → ByteArray) (NB : Nat → Nat) (K D : Nat → Int) (ab : Bool) (w : World) (e : Ending) (w' : World) : Prop :=
  ∃ v xs, e = .returned v ∧ Outs w' v (sel K want n) T G NB D ab xs ∧ Below w.heap.size w w'

set_option maxRecDepth 100000 in
set_option maxHeartbeats 4000000 in
theorem conv14 (want : Int) (A : Option Addr) (n c : Nat) (T G : Nat → ByteArray) (NB : Nat → Nat) (K D : Nat → Int) (ab : Bool) (ms : List Value) (w : World) (hm : Msgs w (.slice A n c) n T G NB K D ms) (hn : n ≤ 4096) (hD : ∀ i, 0 ≤ D i) :
    Calls Try.prog 14 #[.int .u8 want, .slice A n c, .int .u8 (stI ab)] w (Conved n want T G NB K D ab w) := by
  have HM := Lib.hid hm
  have HD := Lib.hid hD
  obtain ⟨i42, hi42, hz42, hs42, hb42⟩ := info_parts info42
  obtain ⟨i35, hi35, hz35, hs35, hb35⟩ := info_parts info35
  clear hm hD
  go_enter Try.func14, Try.ntmps14
  go_wp2_with fail
  go_loopw [7, 15] (fun x i wr => ∃ (v : Value) (k : Nat) (xs : List Value), v = x ∧ k ≤ n ∧ i = .int .i64 k ∧ Hid (Outs wr v (sel K want k) T G NB D ab xs) ∧ Hid (wr.ownsRow w.heap.size 35 6 v (sel K want k).length xs) ∧ Hid (Below w.heap.size w wr)) (fun _ i _ => n - (intOf i).toNat)
  case atStart =>
    exact ⟨_, 0, [], rfl, by omega, rfl, Lib.hid ⟨World.ownsRow_nil _ _ _ _, fun _ => rfl, fun j i hj => by simp [sel] at hj⟩, Lib.hid (World.ownsRow_nil _ _ _ _), Lib.hid (Below.refl _ _)⟩
  case round =>
    obtain ⟨v, k, xs, hv, hk, rfl, HU, HR, HB⟩ := hrel
    subst hv
    obtain ⟨wo, rfl⟩ : ∃ wo : World, wo = wr := ⟨_, rfl⟩
    by_cases hlt : k < n
    · obtain ⟨rb, rfl⟩ := row_some HM.out.1 (by omega)
      obtain ⟨nv, ms2, aM, m0, m1, m2, m3, m4, m5, m6, m7, m8, m9⟩ := (HM.out.below HB.out).2 k hlt
      obtain ⟨nA, nC, rfl⟩ := row_form m8.1
      have hrow := (HM.out.below HB.out).1
      have r0 : wo.cell? ⟨rb, k * 8, none⟩ = some (.slice nA (NB k % 4) nC) := row_cell hrow m0
      have r1 : wo.cell? ⟨rb, k * 8 + 1, none⟩ = some (.string (G k)) := row_cell hrow m1
      have r2 : wo.cell? ⟨rb, k * 8 + 2, none⟩ = some .nilIface := row_cell hrow m2
      have r3 : wo.cell? ⟨rb, k * 8 + 3, none⟩ = some (.pointer aM) := row_cell hrow m3
      have r4 : wo.cell? ⟨rb, k * 8 + 4, none⟩ = some (.string (T k)) := row_cell hrow m4
      have r5 : wo.cell? ⟨rb, k * 8 + 5, none⟩ = some (.bool false) := row_cell hrow m5
      have r6 : wo.cell? ⟨rb, k * 8 + 6, none⟩ = some (.int .u8 (K k)) := row_cell hrow m6
      have r7 : wo.cell? ⟨rb, k * 8 + 7, none⟩ = some (.int .u8 (D k)) := row_cell hrow m7
      have HNts0 := Lib.hid m8
      have HL0 := Lib.hid m9
      have q0 : (0 : Int) ≤ (k : Int) := by omega
      have q1 : (k : Int) < (n : Int) := by omega
      clear hrow m0 m1 m2 m3 m4 m5 m6 m7 m8 m9
      cases hkd : (K k == want)
      · go_wp2_with fail
        go_roundw
        case rel =>
          have hb1 : Below wo.heap.size wo (wo.alloc (.cells #[.slice nA (NB k % 4) nC, .string (G k), .nilIface, .pointer aM, .string (T k), .bool false, .int .u8 (K k), .int .u8 (D k)] 55)) := by go_grown
          refine ⟨_, k + 1, xs, rfl, by omega, by go_num, ?_, ?_, Lib.hid (HB.out.trans (hb1.mono HB.out.size))⟩
          · rw [sel_no hkd]; exact Lib.hid (HU.out.below hb1)
          · rw [sel_no hkd]; exact Lib.hid (row_below (B := 0) HR.out hb1)
        case measure => simp [intOf]; omega
      · obtain ⟨nc, hnc⟩ : ∃ nc, NB k % 4 = nc := ⟨_, rfl⟩
        have hnc3 : nc ≤ 3 := by omega
        obtain ⟨b8, hb8⟩ : ∃ b, bit (NB k) 8 = b := ⟨_, rfl⟩
        rw [hnc] at r0
        rw [hnc, hb8] at HNts0
        go_upto_region 5 with fail
        generalize hWm : wo.alloc _ = Wm
        have hbm0 : Below wo.heap.size wo Wm := by rw [← hWm]; exact (Below.refl _ _).alloc (Nat.le_refl _) _
        have hOm : Own Wm wo.heap.size 55 #[.slice nA nc nC, .string (G k), .nilIface, .pointer aM, .string (T k), .bool false, .int .u8 (K k), .int .u8 (D k)] := by rw [← hWm]; exact Own.new _ _ _
        have HOm := Lib.hid hOm
        have HBm := Lib.hid hbm0
        have HNts := Lib.hid (HNts0.out.below hbm0)
        have HLm := Lib.hid (HL0.out.below hbm0)
        have u0 : Wm.cell? ⟨wo.heap.size, 0, none⟩ = some (.slice nA nc nC) := (hOm.cell 0).trans rfl
        have u6 : Wm.cell? ⟨wo.heap.size, 6, none⟩ = some (.int .u8 (K k)) := (hOm.cell 6).trans rfl
        clear hbm0 hOm hWm r0 r1 r2 r3 r4 r5 r6 r7 HNts0 HL0
        go_wp2_with fail
        clear u0 u6
        go_loopw [10, 26] (fun y i W => ∃ (v2 : Value) (j : Nat) (ns : List Value), v2 = y ∧ j ≤ nc ∧ i = .int .i64 j ∧ Hid (Nq W v2 j ab b8 ns) ∧ Hid (W.ownsRow Wm.heap.size 42 2 v2 j ns) ∧ Hid (Below Wm.heap.size Wm W)) (fun _ i _ => nc - (intOf i).toNat)
        case atStart => exact ⟨_, 0, [], rfl, by omega, rfl, Lib.hid ⟨World.ownsRow_nil _ _ _ _, fun _ => rfl, fun j hj => absurd hj (by omega)⟩, Lib.hid (World.ownsRow_nil _ _ _ _), Lib.hid (Below.refl _ _)⟩
        case round =>
          obtain ⟨v2, j, ns, hv2, hj, rfl, HN, HRn, HBn⟩ := hrel
          subst hv2
          obtain ⟨W1, rfl⟩ : ∃ W1 : World, W1 = wr := ⟨_, rfl⟩
          by_cases hjl : j < nc
          · have HHm := Lib.hid (Hold.start HRn.out HBn.out.size)
            obtain ⟨aL, s0, s1, s2, s3, s4⟩ := HNts.out.2.2 j hjl
            obtain ⟨ng, rfl⟩ := row_some HNts.out.1 (by omega)
            have hbm : Below Wm.heap.size Wm W1 := HBn.out
            have t0 : W1.cell? ⟨ng, j * 4, none⟩ = some .nilIface := row_cell (row_below (B := 0) HNts.out.1 hbm) s0
            have t1 : W1.cell? ⟨ng, j * 4 + 1, none⟩ = some (.pointer aL) := row_cell (row_below (B := 0) HNts.out.1 hbm) s1
            have t2 : W1.cell? ⟨ng, j * 4 + 2, none⟩ = some (.string (noteT j)) := row_cell (row_below (B := 0) HNts.out.1 hbm) s2
            have t3 : W1.cell? ⟨ng, j * 4 + 3, none⟩ = some (.bool false) := row_cell (row_below (B := 0) HNts.out.1 hbm) s3
            have HL0 := Lib.hid (s4.below hbm)
            clear s0 s1 s2 s3 s4 hbm
            have q0 : (0 : Int) ≤ (j : Int) := by omega
            have q1 : (j : Int) < (nc : Int) := by omega
            go_upto_region 10 with fail
            clear t0 t1 t2 t3
            generalize hW2 : W1.alloc _ = W2
            have hb2 : Below W1.heap.size W1 W2 := by rw [← hW2]; exact (Below.refl _ _).alloc (Nat.le_refl _) _
            have ho2 : Own W2 W1.heap.size 52 #[.nilIface, .pointer aL, .string (noteT j), .bool false] := by rw [← hW2]; exact Own.new _ _ _
            have HO2 := Lib.hid ho2
            have HL2 := Lib.hid (HL0.out.below hb2)
            have HN2 := Lib.hid (HN.out.below hb2)
            have HB2 := Lib.hid (HBn.out.trans (hb2.mono HBn.out.size))
            have HH2 := Lib.hid (Hold.start (row_below (B := 0) HRn.out hb2) (Nat.le_trans HBn.out.size hb2.size))
            clear hb2 ho2 hW2 HL0 HHm
            have hS : ∀ W, Hold W2 Wm.heap.size 42 2 v2 j ns W → (Hold W2 Wm.heap.size 42 2 v2 j ns W ∧ W.cell? ⟨W1.heap.size, 1, none⟩ = some (.pointer aL) ∧ W.cell? ⟨W1.heap.size, 2, none⟩ = some (.string (noteT j))) :=
              fun W h => ⟨h, ((h.own HO2.out (by decide)).cell 1).trans rfl, ((h.own HO2.out (by decide)).cell 2).trans rfl⟩
            have hk1 : j + 1 ≤ maxLen := by unfold maxLen; omega
            have hk2 : (j + 1) * 24 ≤ 140737488355328 := by omega
            go_region_held3 (fun W => Hold W2 Wm.heap.size 42 2 v2 j ns W ∧ W.cell? ⟨W1.heap.size, 1, none⟩ = some (.pointer aL) ∧ W.cell? ⟨W1.heap.size, 2, none⟩ = some (.string (noteT j)))
              (first | assumption | exact hS _ (Hold.drew HH2.out) | exact hS _ (Apped.held hA) | exact hS _ (Hold.grow (And.left (by assumption)) hb3) | exact hS _ (Hold.alloc (And.left (by assumption)) _))
              (first
                | (go_at_call 17; refine (conv17 aL (nloc b8 j) ab _ (HL2.out.keep fun p cs ho => Hold.own (And.left (by assumption)) ho (by decide))).mono ?_; rintro e w3 ⟨⟨a3, rfl, hl3⟩, hb3⟩)
                | (obtain ⟨v4, W4, ra, hA⟩ := Hold.app2 (P := Try.prog) 33 33 i42 (.agg noteZ) 24 Try.underlying33 hi42 hz42 hs42 hb42 rfl (by decide) hk1 hk2 (And.left (by assumption)) (by first | exact Own.new _ _ _ | exact Own.drew (Own.new _ _ _)) (by rfl) (by simp [Value.oneCell']); refine step_app rfl (.tmp 30) (.tmp 38) 33 rfl rfl _ _ _ (by simp [Act.eval, Act.put]) (by simp [Act.eval, Act.put]) ra ?_))
            have hu3 := undrew hb3
            have hg3 : Below w3.heap.size w3 (w3.alloc (.cells #[.string (noteT j), .pointer a3] 42)) := (Below.refl _ _).alloc (Nat.le_refl _) _
            have HN4 := Lib.hid ((HN2.out.below (hA.prior (hu3.trans (hg3.mono hu3.size)))).more hA (hl3.below hg3))
            have HR4 := Lib.hid hA.row
            have HB4 := Lib.hid (HB2.out.trans (hA.below.mono (Nat.le_refl _)))
            clear hA hl3 hb3 hu3 hg3
            go_wp2_with fail
            go_roundw
            case rel => exact ⟨_, j + 1, _, rfl, by omega, by go_num, HN4, HR4, HB4⟩
            case measure => simp [intOf]; omega
          · have z0 : decide (j < nc) = false := decide_eq_false hjl
            obtain rfl : nc = j := by omega
            clear z0
            have z0 : decide (nc < nc) = false := decide_eq_false (by omega)
            have NQ : Nq W1 v2 (NB k % 4) ab (bit (NB k) 8) ns := by rw [hnc, hb8]; exact HN.out
            generalize hWc : W1 = Wc at *
            have hbc : Below Wm.heap.size Wm Wc := HBn.out
            have hbo : Below wo.heap.size wo Wc := HBm.out.trans (hbc.mono HBm.out.size)
            have HO9 := Lib.hid (HOm.out.below hbc HOm.out.lt)
            have HNc := HN
            have HLc := Lib.hid (HLm.out.below hbc)
            have HUc := Lib.hid (HU.out.below hbo)
            have HBc := Lib.hid (HB.out.trans (hbo.mono HB.out.size))
            have HHc := Lib.hid (Hold.start (row_below (B := 0) HR.out hbo) (HB.out.trans (hbo.mono HB.out.size)).size)
            obtain ⟨sA, sn, sc, rfl⟩ : ∃ A m c, v2 = Value.slice A m c := by
              obtain ⟨A, c, h⟩ := row_form HN.out.1
              exact ⟨A, _, c, h⟩
            clear hbc hbo
            have hS : ∀ W, Hold Wc w.heap.size 35 6 v (sel K want k).length xs W → (Hold Wc w.heap.size 35 6 v (sel K want k).length xs W ∧ W.cell? ⟨wo.heap.size, 1, none⟩ = some (.string (G k)) ∧ W.cell? ⟨wo.heap.size, 2, none⟩ = some .nilIface ∧ W.cell? ⟨wo.heap.size, 3, none⟩ = some (.pointer aM) ∧
                W.cell? ⟨wo.heap.size, 4, none⟩ = some (.string (T k)) ∧ W.cell? ⟨wo.heap.size, 7, none⟩ = some (.int .u8 (D k))) :=
              fun W h => ⟨h, ((h.own HO9.out (by decide)).cell 1).trans rfl, ((h.own HO9.out (by decide)).cell 2).trans rfl, ((h.own HO9.out (by decide)).cell 3).trans rfl, ((h.own HO9.out (by decide)).cell 4).trans rfl, ((h.own HO9.out (by decide)).cell 7).trans rfl⟩
            have hsl := sel_le K want k
            have hk1 : (sel K want k).length + 1 ≤ maxLen := by unfold maxLen; omega
            have hk2 : ((sel K want k).length + 1) * 96 ≤ 140737488355328 := by omega
            go_upto_region 12 with fail
            go_region_held3 (fun W => Hold Wc w.heap.size 35 6 v (sel K want k).length xs W ∧ W.cell? ⟨wo.heap.size, 1, none⟩ = some (.string (G k)) ∧ W.cell? ⟨wo.heap.size, 2, none⟩ = some .nilIface ∧ W.cell? ⟨wo.heap.size, 3, none⟩ = some (.pointer aM) ∧
                W.cell? ⟨wo.heap.size, 4, none⟩ = some (.string (T k)) ∧ W.cell? ⟨wo.heap.size, 7, none⟩ = some (.int .u8 (D k)))
              (first | assumption | exact hS _ (Hold.drew HHc.out) | exact hS _ (Apped.held hA) | exact hS _ (Hold.grow (And.left (by assumption)) hb5) | exact hS _ (Hold.grow (And.left (by assumption)) hb3) | exact hS _ (Hold.alloc (And.left (by assumption)) _))
              (first
                | (go_at_call 16; refine (id16 (D k) (HD.out k) _).mono ?_; rintro e w3 ⟨rfl, hb3⟩)
                | (go_at_call 17; refine (conv17 aM (mloc (bit (NB k) 4) (T k) k) ab _ (HLc.out.keep fun p cs ho => Hold.own (And.left (by assumption)) ho (by decide))).mono ?_; rintro e w5 ⟨⟨a5, rfl, hl5⟩, hb5⟩)
                | (obtain ⟨v4, W4, ra, hA⟩ := Hold.app2 (P := Try.prog) 29 29 i35 (.agg pubZ) 96 Try.underlying29 hi35 hz35 hs35 hb35 rfl (by decide) hk1 hk2 (And.left (by assumption)) (by first | exact Own.new _ _ _ | exact Own.drew (Own.new _ _ _)) (by rfl) (by simp [Value.oneCell']); refine step_app rfl (.tmp 41) (.tmp 60) 29 rfl rfl _ _ _ (by simp [Act.eval, Act.put]) (by simp [Act.eval, Act.put]) ra ?_))
            have hu3 := undrew hb3
            have hu5 := hu3.trans (hb5.mono hu3.size)
            have hg5 : Below w5.heap.size w5 (w5.alloc (.cells #[.string (idT (D k)), .string (G k), .string (T k), .pointer a5, .slice sA sn sc, .nilIface] 35)) := (Below.refl _ _).alloc (Nat.le_refl _) _
            have hp := hA.prior (hu5.trans (hg5.mono hu5.size))
            have HU4 := Lib.hid ((HUc.out.below hp).more hA ((show Nq Wc (.slice sA sn sc) (NB k % 4) ab (bit (NB k) 8) ns from NQ).below hp) (hl5.below hg5))
            have HR4 := Lib.hid hA.row
            have HB4 := Lib.hid (HBc.out.trans hA.below)
            clear hA hl5 hb3 hb5 hu3 hu5 hg5 hp
            go_wp2_with fail
            go_roundw
            case rel =>
              have e : (sel K want (k + 1)).length = (sel K want k).length + 1 := by rw [sel_yes hkd, List.length_append]; rfl
              rw [← sel_yes hkd] at HU4
              rw [← e] at HR4
              exact ⟨_, k + 1, _, rfl, by omega, by go_num, HU4, HR4, HB4⟩
            case measure => simp [intOf]; omega
    · have z0 : decide (k < n) = false := decide_eq_false hlt
      obtain rfl : n = k := by omega
      go_wp2
      go_ret
      exact ⟨v, xs, rfl, HU.out, HB.out⟩

set_option maxRecDepth 100000 in
theorem conv8 (want fa fb : Int) (A : Option Addr) (n c : Nat) (T G : Nat → ByteArray) (NB : Nat → Nat) (K D : Nat → Int) (ab : Bool) (ms : List Value) (w : World) (hab : (bits .and .u8 fa fb != 0) = ab) (hm : Msgs w (.slice A n c) n T G NB K D ms) (hn : n ≤ 4096) (hD : ∀ i, 0 ≤ D i) :
    Calls Try.prog 8 #[.int .u8 want, .slice A n c, .int .u8 fa, .int .u8 fb] w (Conved n want T G NB K D ab w) := by
  have H15 : Calls Try.prog 15 #[.int .u8 fa, .int .u8 fb] w fun e w' => e = .returned (.int .u8 (stI ab)) ∧ w = w' := style15 fa fb ab hab w
  have HC := Lib.hid (conv14 want A n c T G NB K D ab ms w hm hn hD)
  have H := Lib.hid H15
  clear hab hm H15
  go_enter Try.func8, Try.ntmps8
  go_wp2_with fail
  refine H.out.mono ?_
  rintro e w' ⟨rfl, rfl⟩
  clear H
  go_wp2_with fail
  refine HC.out.mono ?_
  rintro e w' ⟨v, xs, rfl, hu, hb⟩
  have HU := Lib.hid hu
  clear HC hu
  go_wp2_with fail
  go_ret
  exact ⟨v, xs, rfl, HU.out, hb⟩
end Go.Proofs.Ytmjfdhgfpgeboab.Hf
