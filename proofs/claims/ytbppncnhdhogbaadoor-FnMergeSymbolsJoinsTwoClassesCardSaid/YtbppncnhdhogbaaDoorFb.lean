/-
  Contracts for the laws on symbol links: counts, refs, starts. Conditions: sizes alone.
-/
import Derived.Test.YtbppncnhdhogbaaDoorFa
import Derived.Test.YtbppncnhdhogbaaDoorPl
import Derived.RegionTactic
import Derived.BigRegion
namespace Go.Proofs.YtbppncnhdhogbaaDoor.Fb
open Go.RowKit Go.PlainAid Mem Rws Rt Fa Pl
set_option linter.unusedVariables false
def intsV (l : List Int) : List Value := l.map (Value.int .i64)
theorem intsV_append (a b : List Int) : intsV (a ++ b) = intsV a ++ intsV b := by simp [intsV]
theorem one_i64 (c : Int) : ∀ u ∈ [Value.int .i64 c], u.oneCell' = true := by
  intro u hu
  simp at hu
  subst hu
  rfl
/-- 'append(xs, c)' at []int. -/
theorem pushI {ops : Array Oper} {rest : List Oper} {o : Oper} {a : Act} {Q : Exit → Act → World → Prop} (hgd : o.guard = none) (s x : Operand)
    (ho : o.op = .call { callee := .builtin .append, args := #[s, x], argTypes := #[30, 30] })
    (B : Nat) (w0 : World) (v : Value) (l : List Int) (c : Int) (hs : a.eval s = v) (hb : w0.ownsRow B 3 1 v l.length (intsV l)) (hB : B ≤ w0.heap.size)
    (H : Nat) (hH : w0.heap.size = H) (hx : a.eval x = .slice (some ⟨H, 0, none⟩) 1 1) (hlen : l.length + 1 ≤ 1048576)
    (h : ∀ v' w', w'.ownsRow B 3 1 v' (l.length + 1) (intsV (l ++ [c])) → w0.grownBy w' v.ownBlock → (v'.ownBlock = v.ownBlock ∨ ∃ k, v'.ownBlock = some k ∧ w0.heap.size ≤ k) → wpList Tryd.prog ops Q rest (a.put o.dst v') w') : wpList Tryd.prog ops Q (o :: rest) a (w0.alloc (.cells #[.int .i64 c] 3)) := by
  subst hH
  obtain ⟨i0, hi, hz0, hz1, hz2⟩ := info_parts info3
  have hb' := hb.alloc (.cells #[.int .i64 c] 3)
  refine wpList_append_own_at _ hgd s x 30 ho B 3 i0 (.int .i64 0) 1 8 Tryd.underlying30 hi hz0 hz1 hz2 rfl (by decide) v l.length (intsV l) hs hb' ⟨w0.heap.size, 0, none⟩ 1 1 [.int .i64 c] hx rfl (cell_one_new _ _ _) (one_i64 _) (by unfold maxLen; omega) (by omega) (Nat.le_trans hB (by simp)) ?_
  intro v' w' ho' hg _ hat
  refine h v' w' ?_ ?_ ?_
  · rw [intsV_append]; exact ho'
  · refine ⟨hg.os, hg.tape, hg.output, Nat.le_trans (by simp) hg.size, fun k hk hne => ?_⟩
    rw [hg.block k (Nat.lt_of_lt_of_le hk (by simp)) hne]
    exact (World.grownBy_alloc w0 _ none).block k hk (by simp)
  · rcases hat with e | e
    · exact .inl e
    · exact .inr ⟨_, e, by simp⟩
theorem grown_below {B : Nat} {a w0 w' : World} {v : Value} {n : Nat} {xs : List Value} (hb : Below B a w0) (ho : w0.ownsRow B 3 1 v n xs) (hg : w0.grownBy w' v.ownBlock) (hB : B ≤ w0.heap.size) : Below B a w' :=
  hb.grown hg hB fun k hk => (ho.lt k hk).1
theorem rd_ints {w : World} {B n c : Nat} {A : Option Addr} {l : List Int} (h : w.ownsRow B 3 1 (.slice A n c) n (intsV l)) (hl : l.length = n) (h0 : ∀ x ∈ l, 0 ≤ x) : Rd w w.heap.size 1 A n (fun j => .int .i64 (cnt l j)) :=
  (Rd.of_own (d := .int .i64 0) h).congr fun j hj => by
    have hj' : j < l.length := by omega
    rw [cnt_val l j hj' h0]
    unfold intsV
    rw [List.getD_eq_getElem?_getD, List.getElem?_map, List.getElem?_eq_getElem hj']
    rfl
/-- The counts. -/
def CountsOf (ns n : Nat) (w : World) (e : Ending) (w' : World) : Prop :=
  ∃ (A : Option Addr) (c m : Nat) (C : Nat → Nat), e = .returned (.slice A m c) ∧ m ≤ ns + 1 ∧ P C m = n ∧ Rd w' w'.heap.size 1 A m (fun j => .int .i64 (C j)) ∧ Below w.heap.size w w'
theorem own_form {w : World} {B n : Nat} {v : Value} {xs : List Value} (h : w.ownsRow B 3 1 v n xs) : ∃ A c, v = .slice A n c := by
  rcases h.2 with ⟨e, h0⟩ | ⟨g, cap, cur, e, _⟩
  · exact ⟨none, 0, by rw [e, h0]⟩
  · exact ⟨_, _, e⟩
/-- The state of the loop of zzCounts. -/
def Cst (w : World) (k n : Nat) (v : Value) (p : Int) (wr : World) : Prop := ∃ l : List Int, l.length = k ∧ (∀ x ∈ l, 0 ≤ x) ∧ p = tot l ∧ p ≤ n ∧ wr.ownsRow w.heap.size 3 1 v l.length (intsV l) ∧ Below w.heap.size w wr
theorem Cst.done {w wr : World} {k n : Nat} {v : Value} {p : Int} (h : Cst w k n v p wr) (ns : Nat) (hk : k ≤ ns + 1) (hp : p = n) : CountsOf ns n w (.returned v) wr := by
  obtain ⟨l, hl, h0, ht, _, ho, hb⟩ := h
  obtain ⟨A, c, rfl⟩ := own_form ho
  refine ⟨A, c, l.length, cnt l, rfl, by omega, ?_, rd_ints ho rfl h0, hb⟩
  have := P_cnt l.length l rfl h0
  omega
theorem Cst.bounds {w wr : World} {k n : Nat} {v : Value} {p : Int} (h : Cst w k n v p wr) : 0 ≤ p ∧ p ≤ n := by
  obtain ⟨l, hl, h0, ht, hp, ho, hb⟩ := h
  have := P_cnt l.length l rfl h0
  exact ⟨by omega, hp⟩
set_option maxRecDepth 100000 in
set_option maxHeartbeats 4000000 in
theorem counts11 (A : Option Addr) (ns c n : Nat) (Z : Nat → Int) (w : World) (hA : Rd w w.heap.size 1 A ns (fun j => .int .u16 (Z j))) (hZ : ∀ j, j < ns → 0 ≤ Z j ∧ Z j ≤ 65535) (hn : n ≤ 4096) (hs : ns ≤ 4096) :
    Calls Tryd.prog 11 #[.slice A ns c, .int .i64 n] w (CountsOf ns n w) := by
  have hmk := run_mk (P := Tryd.prog) 30 3 _ _ _ Tryd.underlying30 info3 0 (ns + 1) (by omega) (by omega) (by omega)
  have HA := Lib.hid hA
  have HZ := Lib.hid hZ
  clear hA hZ
  have hmk2 : ∀ W, (Instr.makeSlice 30 (.int .i64 0) (.int .i64 ((ns : Int) + 1))).run Tryd.prog W = .ok (.slice (some ⟨W.heap.size, 0, none⟩) 0 (ns + 1)) (W.alloc (.cells (madeCells (Value.int .i64 0).cells ((ns + 1) * 1)) 3)) := hmk
  clear hmk
  go_enter Tryd.func11, Tryd.ntmps11
  go_wp2_with fail
  go_loopw [5, 6, 7] (fun v p i wr => ∃ (k : Nat) (q : Int), k ≤ ns ∧ i = .int .i64 k ∧ p = .int .i64 q ∧ Hid (Cst w k n v q wr)) (fun _ _ i _ => ns - (intOf i).toNat)
  case atStart => exact ⟨0, 0, by omega, rfl, rfl, Lib.hid ⟨[], rfl, by simp, rfl, by omega, World.ownsRow_made w _ _ (Nat.le_refl _) (by unfold maxLen; omega) (by simp [size_madeCells]), by go_grown⟩⟩
  case round =>
    clear hmk2
    obtain ⟨k, q, hk, rfl, rfl, HC⟩ := hrel
    obtain ⟨hq0, hq1⟩ := HC.out.bounds
    by_cases hlt : k < ns
    · obtain ⟨b, off, rfl, hbb, hc⟩ := HA.out (by omega)
      obtain ⟨l, hl, h0, ht, hp, ho, hb⟩ := HC.out
      have hck : wr.cell? ⟨b, off + k, none⟩ = some (.int .u16 (Z k)) := (hb.cell (p := ⟨b, off + k, none⟩) hbb).trans (hc k (by omega))
      obtain ⟨hz1, hz2⟩ := HZ.out k hlt
      have hbz := hb.size
      have hll : l.length + 1 ≤ 1048576 := by omega
      have HO := Lib.hid ho
      have HB := Lib.hid hb
      have HT := Lib.hid ht
      have HL := Lib.hid hl
      have H0 := Lib.hid h0
      clear hc HC ho hb ht hl h0
      generalize hz : Z k = z at *
      clear hz
      by_cases hg : (n : Int) - q < z
      · have hg2 : 0 ≤ (n : Int) - q := by omega
        go_wp2_with (at_builtin; (refine pushI rfl _ _ rfl w.heap.size wr _ l ((n : Int) - q) (by rfl) HO.out hbz _ rfl (by rfl) hll ?_))
        intro v' w' ho' hg' _
        have HC2 : Hid (Cst w (k + 1) n v' (n : Int) w') := Lib.hid ⟨l ++ [(n : Int) - q], by simp [HL.out], by intro x hx; rcases List.mem_append.1 hx with h | h; exact H0.out x h; (simp at h; omega), by rw [tot_snoc, ← HT.out]; omega, by omega, (by rw [List.length_append]; exact ho'), grown_below HB.out HO.out hg' hbz⟩
        clear ho' hg'
        have e2 : q + ((n : Int) - q) = n := by omega
        go_wp2_with fail
        go_roundw
        case rel => exact ⟨k + 1, n, by omega, by go_num, by first | rfl | (rw [e2]), HC2⟩
        case measure => simp [intOf]; omega
      · go_wp2_with (at_builtin; (refine pushI rfl _ _ rfl w.heap.size wr _ l z (by rfl) HO.out hbz _ rfl (by rfl) hll ?_))
        intro v' w' ho' hg' _
        have HC2 : Hid (Cst w (k + 1) n v' (q + z) w') := Lib.hid ⟨l ++ [z], by simp [HL.out], by intro x hx; rcases List.mem_append.1 hx with h | h; exact H0.out x h; (simp at h; omega), by rw [tot_snoc, ← HT.out], by omega, (by rw [List.length_append]; exact ho'), grown_below HB.out HO.out hg' hbz⟩
        clear ho' hg'
        go_wp2_with fail
        go_roundw
        case rel => exact ⟨k + 1, _, by omega, by go_num, rfl, HC2⟩
        case measure => simp [intOf]; omega
    · obtain rfl : k = ns := by omega
      by_cases hg : q < (n : Int)
      · obtain ⟨l, hl, h0, ht, hp, ho, hb⟩ := HC.out
        have hbz := hb.size
        have hll : l.length + 1 ≤ 1048576 := by omega
        have HO := Lib.hid ho
        have HB := Lib.hid hb
        have HT := Lib.hid ht
        have HL := Lib.hid hl
        have H0 := Lib.hid h0
        clear HC ho hb ht hl h0
        go_wp2_with (at_builtin; (refine pushI rfl _ _ rfl w.heap.size wr _ l ((n : Int) - q) (by rfl) HO.out hbz _ rfl (by rfl) hll ?_))
        intro v' w' ho' hg' _
        have HC2 : Hid (Cst w (k + 1) n v' (n : Int) w') := Lib.hid ⟨l ++ [(n : Int) - q], by simp [HL.out], by intro x hx; rcases List.mem_append.1 hx with h | h; exact H0.out x h; (simp at h; omega), by rw [tot_snoc, ← HT.out]; omega, by omega, (by rw [List.length_append]; exact ho'), grown_below HB.out HO.out hg' hbz⟩
        clear ho' hg'
        go_wp2_with fail
        go_ret
        exact HC2.out.done k (by omega) rfl
      · go_wp2_with fail
        go_ret
        exact HC.out.done k (by omega) (by omega)
/-- Refs: sources in the even cells, places in the odd ones. -/
def pr (X Y : Nat → Nat) (l : Nat) : Value := .int .u32 (if l % 2 = 0 then (X (l / 2) : Int) else (Y (l / 2) : Int))
theorem pr_at (X Y : Nat → Nat) (k : Nat) : pr X Y (k * 2) = .int .u32 (X k) ∧ pr X Y (k * 2 + 1) = .int .u32 (Y k) := by
  unfold pr
  rw [if_pos (by omega), if_neg (by omega), show k * 2 / 2 = k by omega, show (k * 2 + 1) / 2 = k by omega]
  exact ⟨rfl, rfl⟩
theorem info43 : (Tryd.prog.info? 43).map (fun i => (i.zero, i.size, i.bytes)) = some (some (.agg #[.int .u32 0, .int .u32 0]), 2, 8) := by kernel_rfl
theorem two {W : World} {g o : Nat} (h : W.there g o 2) : ∃ x0 x1, W.cell? ⟨g, o, none⟩ = some x0 ∧ W.cell? ⟨g, o + 1, none⟩ = some x1 := by
  obtain ⟨x0, h0⟩ := Option.isSome_iff_exists.1 (h 0 (by omega)).1
  obtain ⟨x1, h1⟩ := Option.isSome_iff_exists.1 (h 1 (by omega)).1
  exact ⟨x0, x1, h0, h1⟩
set_option maxRecDepth 100000 in
set_option maxHeartbeats 4000000 in
theorem refs12 (A : Option Addr) (m c n : Nat) (C X Y : Nat → Nat) (w : World) (hA : Rd w w.heap.size 1 A m (fun j => .int .i64 (C j))) (hP : P C m = n) (hL : ∀ i, i < n → Lc C m i (X i) (Y i)) (hn : n ≤ 4096) (hm : m ≤ 4097) :
    Calls Tryd.prog 12 #[.slice A m c, .int .i64 n] w (NewSl2 n (pr X Y) w) := by
  have hmk := run_mkc (P := Tryd.prog) 35 43 _ #[.int .u32 0, .int .u32 0] rfl _ _ Tryd.underlying35 info43 n n (Nat.le_refl _) (by omega) (by omega)
  have HA := Lib.hid hA
  have HP := Lib.hid hP
  have HL := Lib.hid hL
  clear hA hP hL
  go_enter Tryd.func12, Tryd.ntmps12
  go_wp2_with fail
  go_loopw [6] (fun i wr => ∃ (k : Nat) (cs : Array Value), k ≤ n ∧ i = .int .i64 k ∧ Own wr w.heap.size 43 cs ∧ cs.size = n * 2 ∧ (∀ l, l < k * 2 → cs[l]? = some (pr X Y l)) ∧ Below w.heap.size w wr) (fun i _ => n - (intOf i).toNat)
  case atStart => exact ⟨0, _, by omega, rfl, Own.new _ _ _, size_madeCells _ _, by omega, by go_grown⟩
  case round =>
    obtain ⟨k, cs, hk, rfl, ho, hsz, hd, hb⟩ := hrel
    clear hmk
    have HD := Lib.hid hd
    have HSZ := Lib.hid hsz
    have HO := Lib.hid ho
    have HB := Lib.hid hb
    clear hd hsz ho hb
    obtain ⟨wo, rfl⟩ : ∃ wo : World, wo = wr := ⟨_, rfl⟩
    by_cases hlt : k < n
    · go_wp2_with fail
      go_loop [7, 8] (fun r s => ∃ a b : Nat, a < m ∧ s = .int .i64 a ∧ r = .int .i64 b ∧ P C a + b = k) (fun _ s => m - (intOf s).toNat)
      case atStart =>
        refine ⟨0, k, ?_, rfl, rfl, by simp [P]⟩
        have := (HL.out k hlt).1
        omega
      case round =>
        obtain ⟨a, b, ha, rfl, rfl, hab⟩ := hrel
        have HAB := Lib.hid hab
        clear hab
        obtain ⟨bl, off, rfl, hbb, hc⟩ := HA.out (by omega)
        have hca := (HB.out.cell (p := ⟨bl, off + a, none⟩) hbb).trans (hc a (by omega))
        have hPa := P_at C ha
        have hP' := HP.out
        have hck : C a ≤ 4096 := by omega
        have t1 : decide (a < m) = true := decide_eq_true ha
        clear hc hP' hPa
        by_cases hge : C a ≤ b
        · have t2 : decide (C a ≤ b) = true := decide_eq_true hge
          have hnx : Hid (a + 1 < m ∧ P C (a + 1) + (b - C a) = k) := Lib.hid (by
            have h1 := HAB.out
            have h2 : P C (a + 1) = P C a + C a := rfl
            refine ⟨?_, by omega⟩
            by_cases e : a + 1 = m
            · have := HP.out
              rw [← e] at this
              omega
            · omega)
          have hb0 : (0 : Int) ≤ (b : Int) - (C a : Int) := by omega
          have hbk : b ≤ k := by have := HAB.out; omega
          go_wp2_with fail
          go_round
          case rel => exact ⟨a + 1, b - C a, hnx.out.1, by go_num, by first | (congr 1; omega) | go_num, hnx.out.2⟩
          case measure => simp [intOf]; omega
        · have t2 : decide (C a ≤ b) = false := decide_eq_false hge
          have hloc : Hid (X k = a ∧ Y k = b) := Lib.hid (loc_uniq (HL.out k hlt) ⟨ha, by omega, HAB.out⟩)
          have hbk : b ≤ k := by have := HAB.out; omega
          obtain ⟨x0, x1, p0, p1⟩ := two (Own.there HO.out (k * 2) 2 (by have := HSZ.out; omega))
          have f0 := HO.out.frozen (k * 2)
          have f1 := HO.out.frozen (k * 2 + 1)
          have hi0 : (0 : Int) ≤ (k : Int) := by omega
          have hi1 : (k : Int) < (n : Int) := by omega
          go_wp2_with fail
          try go_region
          try go_wp2_with fail
          go_roundw
          case rel =>
            refine ⟨k + 1, putL cs (k * 2) [.int .u32 a, .int .u32 b], by omega, by go_num, ?_, by rw [putL_size]; exact HSZ.out, fun l hl => ?_, ?_⟩
            · first
                | exact Own.setCells [.int .u32 a, .int .u32 b] (k * 2) wo cs HO.out
                | exact (Own.setCells [.int .u32 a, .int .u32 b] (k * 2) wo cs HO.out).drew
            · by_cases hlk : l < k * 2
              · rw [putL_out _ _ _ _ (by omega)]; exact HD.out l hlk
              · have hcs := HSZ.out
                obtain rfl | rfl : l = k * 2 ∨ l = k * 2 + 1 := by omega
                · have := putL_in [.int .u32 a, .int .u32 b] (k * 2) cs 0 (by simp) (by omega)
                  rw [Nat.add_zero] at this
                  rw [this, (pr_at X Y k).1, hloc.out.1]; rfl
                · have := putL_in [.int .u32 a, .int .u32 b] (k * 2) cs 1 (by simp) (by omega)
                  rw [this, (pr_at X Y k).2, hloc.out.2]; rfl
            · first
                | exact below_setCells _ (Nat.le_refl _) [.int .u32 a, .int .u32 b] _ _ HB.out
                | exact below_drew (below_setCells _ (Nat.le_refl _) [.int .u32 a, .int .u32 b] _ _ HB.out)
          case measure => simp [intOf]; omega
    · obtain rfl : k = n := by omega
      go_wp2_with fail
      go_ret
      refine ⟨⟨w.heap.size, 0, none⟩, k, rfl, HO.out.rd fun j hj => HD.out j (by omega), HB.out⟩
theorem starts13 (A : Option Addr) (m c : Nat) (C : Nat → Nat) (w : World) (hA : Rd w w.heap.size 1 A m (fun j => .int .i64 (C j))) (hP : P C m ≤ 4096) (hm : m ≤ 4097) :
    Calls Tryd.prog 13 #[.slice A m c] w (NewSl m (fun j => .int .i64 (P C j)) w) := by
  have hmk := run_mk (P := Tryd.prog) 30 3 _ _ _ Tryd.underlying30 info3 m m (Nat.le_refl _) (by omega) (by omega)
  have HA := Lib.hid hA
  clear hA
  go_enter Tryd.func13, Tryd.ntmps13
  go_wp2
  go_loopw [4, 5] (fun p i wr => ∃ (k : Nat) (cs : Array Value), k ≤ m ∧ i = .int .i64 k ∧ p = .int .i64 (P C k) ∧ Own wr w.heap.size 3 cs ∧ cs.size = m ∧ (∀ j, j < k → cs[j]? = some (.int .i64 (P C j))) ∧ (∀ j, j < m → ∃ s, cs[j]? = some (.int .i64 s)) ∧ Below w.heap.size w wr) (fun _ i _ => m - (intOf i).toNat)
  case atStart =>
    refine ⟨0, _, by omega, rfl, rfl, Own.new _ _ _, by simp [size_madeCells], by omega, fun j hj => ⟨0, ?_⟩, by go_grown⟩
    rw [made_at _ _ _ (by omega)]
    show some ((#[Value.int .i64 0] : Array Value)[j % 1]!) = _
    rw [Nat.mod_one]
    rfl
  case round =>
    obtain ⟨k, cs, hk, rfl, rfl, ho, hsz, hd, he, hb⟩ := hrel
    clear hmk
    have HD := Lib.hid hd
    have HE := Lib.hid he
    have HSZ := Lib.hid hsz
    have hpm := P_mono C hk
    clear hd he hsz
    by_cases hlt : k < m
    · obtain ⟨b, off, rfl, hbb, hc⟩ := HA.out (by omega)
      have hne : b ≠ w.heap.size := by omega
      have hck : wr.cell? ⟨b, off + k, none⟩ = some (.int .i64 (C k)) := (hb.cell (p := ⟨b, off + k, none⟩) hbb).trans (hc k (by omega))
      obtain ⟨s0, hs0⟩ := HE.out k hlt
      have hcg := (ho.cell k).trans hs0
      have hfr := ho.frozen k
      have hpa := P_at C hlt
      have hps : Hid (P C (k + 1) = P C k + C k) := Lib.hid rfl
      clear hc hs0
      go_wp2
      go_roundw
      case rel =>
        refine ⟨k + 1, _, by omega, by go_num, by rw [hps.out]; go_num, ho.set k _, by simpa using HSZ.out, fun j hj => ?_, fun j hj => ?_, hb.setCell (Nat.le_refl _) _⟩
        · rw [Array.getElem?_setIfInBounds]
          by_cases hjk : k = j
          · subst hjk; simp [HSZ.out, hlt]
          · rw [if_neg hjk]; exact HD.out j (by omega)
        · rw [Array.getElem?_setIfInBounds]
          by_cases hjk : k = j
          · subst hjk; exact ⟨P C k, by simp [HSZ.out, hlt]⟩
          · rw [if_neg hjk]; exact HE.out j hj
      case measure => simp [intOf]; omega
    · go_wp2
      go_ret
      refine ⟨some ⟨w.heap.size, 0, none⟩, m, rfl, by omega, by omega, (fun h => by cases h), ho.rd fun j hj => HD.out j (by omega), hb⟩
end Go.Proofs.YtbppncnhdhogbaaDoor.Fb
