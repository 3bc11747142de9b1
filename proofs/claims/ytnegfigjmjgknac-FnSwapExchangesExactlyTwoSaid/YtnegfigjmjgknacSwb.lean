/-
  Contracts for the law on expansionKeysArray.Swap: the keyed list, the look at one slot. Conditions: sizes alone.
-/
import Derived.Test.YtnegfigjmjgknacSwa
import Derived.WalkKit
import Derived.WalkSpells
import Derived.Handy
import Derived.Lib.Hide
import Derived.Deep.RegionHeld3
namespace Go.Proofs.Ytnegfigjmjgknac.Swb
open Go.RowKit Go.PlainAid Str Mem Ks Sz Vk Vl It Swa
set_option linter.unusedVariables false
theorem keepB1 {wr W W1 : World} {p : Addr} {u : Value} {g o n : Nat} (hp : p.block < wr.heap.size) (hg : g < wr.heap.size) (h1 : Below W.heap.size W W1)
    (h : W.cell? p = some u ∧ W.there g o n ∧ wr.heap.size ≤ W.heap.size) : W1.cell? p = some u ∧ W1.there g o n ∧ wr.heap.size ≤ W1.heap.size := by
  have := keepB (v := u) (q := p) hp hp hg h1 ⟨h.1, h.1, h.2⟩
  exact ⟨this.1, this.2.2⟩
theorem keepC1 {wr W : World} {p : Addr} {u : Value} {g o m o' : Nat} {v0 v1 v2 v3 v4 v5 v6 v7 v8 v9 : Value} (hp : p.block ≠ g)
    (h : W.cell? p = some u ∧ W.there g o' m ∧ wr.heap.size ≤ W.heap.size) :
    ((((((((((W.setCell ⟨g, o, none⟩ v0).setCell ⟨g, o + 1, none⟩ v1).setCell ⟨g, o + 2, none⟩ v2).setCell ⟨g, o + 3, none⟩ v3).setCell ⟨g, o + 4, none⟩ v4).setCell ⟨g, o + 5, none⟩ v5).setCell ⟨g, o + 6, none⟩ v6).setCell ⟨g, o + 7, none⟩ v7).setCell ⟨g, o + 8, none⟩ v8).setCell ⟨g, o + 9, none⟩ v9).cell? p = some u ∧ ((((((((((W.setCell ⟨g, o, none⟩ v0).setCell ⟨g, o + 1, none⟩ v1).setCell ⟨g, o + 2, none⟩ v2).setCell ⟨g, o + 3, none⟩ v3).setCell ⟨g, o + 4, none⟩ v4).setCell ⟨g, o + 5, none⟩ v5).setCell ⟨g, o + 6, none⟩ v6).setCell ⟨g, o + 7, none⟩ v7).setCell ⟨g, o + 8, none⟩ v8).setCell ⟨g, o + 9, none⟩ v9).there g o' m ∧ wr.heap.size ≤ ((((((((((W.setCell ⟨g, o, none⟩ v0).setCell ⟨g, o + 1, none⟩ v1).setCell ⟨g, o + 2, none⟩ v2).setCell ⟨g, o + 3, none⟩ v3).setCell ⟨g, o + 4, none⟩ v4).setCell ⟨g, o + 5, none⟩ v5).setCell ⟨g, o + 6, none⟩ v6).setCell ⟨g, o + 7, none⟩ v7).setCell ⟨g, o + 8, none⟩ v8).setCell ⟨g, o + 9, none⟩ v9).heap.size := by
  have := keepC10 (v := u) (q := p) (o := o) (v0 := v0) (v1 := v1) (v2 := v2) (v3 := v3) (v4 := v4) (v5 := v5) (v6 := v6) (v7 := v7) (v8 := v8) (v9 := v9) hp hp ⟨h.1, h.1, h.2⟩
  exact ⟨this.1, this.2.2⟩
theorem tenB {wr W W1 : World} {A : Prop} {g o : Nat} (hg : g < wr.heap.size) (h1 : Below W.heap.size W W1) (h : A ∧ W.there g o 10 ∧ wr.heap.size ≤ W.heap.size) :
    ∃ x0 x1 x2 x3 x4 x5 x6 x7 x8 x9 : Value, W1.cell? ⟨g, o, none⟩ = some x0 ∧ W1.cell? ⟨g, o + 1, none⟩ = some x1 ∧ W1.cell? ⟨g, o + 2, none⟩ = some x2 ∧ W1.cell? ⟨g, o + 3, none⟩ = some x3 ∧ W1.cell? ⟨g, o + 4, none⟩ = some x4 ∧ W1.cell? ⟨g, o + 5, none⟩ = some x5 ∧ W1.cell? ⟨g, o + 6, none⟩ = some x6 ∧ W1.cell? ⟨g, o + 7, none⟩ = some x7 ∧ W1.cell? ⟨g, o + 8, none⟩ = some x8 ∧ W1.cell? ⟨g, o + 9, none⟩ = some x9 ∧ W1.frozen? ⟨g, o, none⟩ = false ∧ W1.frozen? ⟨g, o + 1, none⟩ = false ∧ W1.frozen? ⟨g, o + 2, none⟩ = false ∧ W1.frozen? ⟨g, o + 3, none⟩ = false ∧ W1.frozen? ⟨g, o + 4, none⟩ = false ∧ W1.frozen? ⟨g, o + 5, none⟩ = false ∧ W1.frozen? ⟨g, o + 6, none⟩ = false ∧ W1.frozen? ⟨g, o + 7, none⟩ = false ∧ W1.frozen? ⟨g, o + 8, none⟩ = false ∧ W1.frozen? ⟨g, o + 9, none⟩ = false := by
  exact ten (A := True) (B := True) hg h1 ⟨trivial, trivial, h.2⟩

abbrev itS (k : Nat) : ByteArray := strOfNums (itD (k : Int))
def Keyed (n : Nat) (S : Nat → ByteArray) (w : World) (e : Ending) (w' : World) : Prop :=
  ∃ g : Nat, e = .returned (.slice (some ⟨g, 0, none⟩) n n) ∧ w.heap.size ≤ g ∧ Rws.Cells w' g 57 (n * 10) (cellF S itS) ∧ Below w.heap.size w w'
set_option maxHeartbeats 4000000 in
theorem keyed9 (A : Option Addr) (n c : Nat) (S : Nat → ByteArray) (w : World) (hA : Rd w w.heap.size 1 A n (fun j => .string (S j))) (hn : n ≤ 1048576) :
    Calls Try.prog 9 #[.slice A n c] w (Keyed n S w) := by
  have hmk := run_mkc (P := Try.prog) 25 57 _ zc57 rfl _ _ Try.underlying25 info57 n n (Nat.le_refl _) (by omega) (by omega)
  have HA := Lib.hid hA
  clear hA
  go_enter Try.func9, Try.ntmps9
  go_wp2
  go_loopw [4] (fun i wr => ∃ (k : Nat) (cs : Array Value), k ≤ n ∧ i = .int .i64 k ∧ Own wr w.heap.size 57 cs ∧ cs.size = n * 10 ∧ (∀ j, j < k * 10 → cs[j]? = some (cellF S itS j)) ∧ Below w.heap.size w wr) (fun i _ => n - (intOf i).toNat)
  case atStart => exact ⟨0, _, by omega, rfl, Own.new _ _ _, size_madeCells _ _, by omega, by go_grown⟩
  case round =>
    obtain ⟨k, cs, hk, rfl, ho, hsz, hd, hb⟩ := hrel
    clear hmk
    have HD := Lib.hid hd
    have HSZ := Lib.hid hsz
    clear hd hsz
    by_cases hlt : k < n
    · obtain ⟨b, off, rfl, hbb, hc⟩ := HA.out (by omega)
      have hck := (hb.cell (p := ⟨b, off + k, none⟩) hbb).trans (hc k (by omega))
      clear hc
      have hbz : b < wr.heap.size := Nat.lt_of_lt_of_le hbb hb.size
      have hg : w.heap.size < wr.heap.size := ho.lt
      have hth := Own.there ho (k * 10) 10 (by have := HSZ.out; omega)
      go_wp2_with fail
      go_region_held3 (fun W => W.cell? ⟨b, off + k, none⟩ = some (.string (S k)) ∧ W.there w.heap.size (k * 10) 10 ∧ wr.heap.size ≤ W.heap.size)
        (first | with_reducible exact keepC1 (by simp; omega) (by assumption) | with_reducible exact keepB1 hbz hg hb0 (by assumption) | with_reducible exact keepB1 hbz hg hb1 (by assumption) | with_reducible exact keepB1 hbz hg hb2 (by assumption) | exact ⟨hck, hth, Nat.le_refl _⟩)
        (first | (go_at_call 30; refine (itoa_any (k : Int) (by omega) (by omega) _).mono ?_; rintro e w0 ⟨rfl, hb0⟩) | (go_at_call 29; refine (newStr _ _).mono ?_; rintro e w1 ⟨rfl, hb1⟩) | (go_at_call 28; refine (newEnt _ _ _).mono ?_; rintro e w2 ⟨rfl, hb2⟩; obtain ⟨x0, x1, x2, x3, x4, x5, x6, x7, x8, x9, q0, q1, q2, q3, q4, q5, q6, q7, q8, q9, f0, f1, f2, f3, f4, f5, f6, f7, f8, f9⟩ := tenB hg hb2 (by assumption)))
      have hz0 : wr.heap.size ≤ w0.heap.size := hb0.size
      have hz1 := hb1.size
      have ho' : Own w2 w.heap.size 57 cs := ((ho.drew.below hb0 hg).below hb1 (by omega)).below hb2 (by omega)
      have hb' : Below w.heap.size w w2 := (((below_drew hb).trans (hb0.mono (by show w.heap.size ≤ wr.heap.size; omega))).trans (hb1.mono (by omega))).trans (hb2.mono (by omega))
      have OO := Lib.hid ho'
      clear ho' ho hb hb0 hb1 hb2 hth
      clear q0 q1 q2 q3 q4 q5 q6 q7 q8 q9 f0 f1 f2 f3 f4 f5 f6 f7 f8 f9
      go_wp2
      go_roundw
      case rel =>
        rw [chain10]
        refine ⟨k + 1, putL cs (k * 10) (vs10 (S k) (itS k)), by omega, by go_num, Own.setCells _ _ _ _ OO.out, by rw [putL_size]; exact HSZ.out, fun j hj => ?_, below_setCells _ (by omega) _ _ _ hb'⟩
        by_cases hjk : j < k * 10
        · rw [putL_out _ _ _ _ (Or.inl hjk)]; exact HD.out j hjk
        · obtain ⟨r, rfl⟩ : ∃ r, j = k * 10 + r := ⟨j - k * 10, by omega⟩
          rw [putL_in _ _ _ r (by simp [vs10]; omega) (by have := HSZ.out; omega), vs10_at S itS _ _ (by omega)]
      case measure => simp [intOf]; omega
    · obtain rfl : n = k := by omega
      go_wp2
      go_ret
      exact ⟨_, rfl, Nat.le_refl _, ⟨cs, ho, HSZ.out, HD.out⟩, hb⟩
set_option maxHeartbeats 1000000 in
theorem key32 (s t : ByteArray) (w : World) : Calls Try.prog 32 #[.agg #[.string s, .string t, .slice none 0 0, .slice none 0 0, .slice none 0 0, .int .i32 0, .int .i32 0, .int .u8 1, .int .i32 0, .int .i32 0]] w fun e w' => e = .returned (.string s) ∧ Below w.heap.size w w' := by
  go_enter Try.func32, Try.ntmps32
  go_wp2
  go_ret
  exact ⟨rfl, by go_grown⟩
set_option maxHeartbeats 1000000 in
theorem val33 (s t : ByteArray) (w : World) : Calls Try.prog 33 #[.agg #[.string s, .string t, .slice none 0 0, .slice none 0 0, .slice none 0 0, .int .i32 0, .int .i32 0, .int .u8 1, .int .i32 0, .int .i32 0]] w fun e w' => e = .returned (.agg #[.string t, .slice none 0 0, .slice none 0 0, .slice none 0 0, .int .i32 0, .int .i32 0, .int .u8 1]) ∧ Below w.heap.size w w' := by
  go_enter Try.func33, Try.ntmps33
  go_wp2
  go_returns
  exact ⟨rfl, by go_grown⟩
theorem keepS {w W W1 : World} {g k b off src : Nat} {s t : ByteArray} (h : W.cell? ⟨g, k * 10, none⟩ = some (.string s) ∧ W.cell? ⟨g, k * 10 + 1, none⟩ = some (.string t) ∧ W.cell? ⟨g, k * 10 + 2, none⟩ = some (.slice none 0 0) ∧ W.cell? ⟨g, k * 10 + 3, none⟩ = some (.slice none 0 0) ∧ W.cell? ⟨g, k * 10 + 4, none⟩ = some (.slice none 0 0) ∧ W.cell? ⟨g, k * 10 + 5, none⟩ = some (.int .i32 0) ∧ W.cell? ⟨g, k * 10 + 6, none⟩ = some (.int .i32 0) ∧ W.cell? ⟨g, k * 10 + 7, none⟩ = some (.int .u8 1) ∧ W.cell? ⟨g, k * 10 + 8, none⟩ = some (.int .i32 0) ∧ W.cell? ⟨g, k * 10 + 9, none⟩ = some (.int .i32 0) ∧ W.cell? ⟨b, off + src, none⟩ = some (.string s) ∧ g < W.heap.size ∧ b < W.heap.size ∧ Below w.heap.size w W) (h1 : Below W.heap.size W W1) : W1.cell? ⟨g, k * 10, none⟩ = some (.string s) ∧ W1.cell? ⟨g, k * 10 + 1, none⟩ = some (.string t) ∧ W1.cell? ⟨g, k * 10 + 2, none⟩ = some (.slice none 0 0) ∧ W1.cell? ⟨g, k * 10 + 3, none⟩ = some (.slice none 0 0) ∧ W1.cell? ⟨g, k * 10 + 4, none⟩ = some (.slice none 0 0) ∧ W1.cell? ⟨g, k * 10 + 5, none⟩ = some (.int .i32 0) ∧ W1.cell? ⟨g, k * 10 + 6, none⟩ = some (.int .i32 0) ∧ W1.cell? ⟨g, k * 10 + 7, none⟩ = some (.int .u8 1) ∧ W1.cell? ⟨g, k * 10 + 8, none⟩ = some (.int .i32 0) ∧ W1.cell? ⟨g, k * 10 + 9, none⟩ = some (.int .i32 0) ∧ W1.cell? ⟨b, off + src, none⟩ = some (.string s) ∧ g < W1.heap.size ∧ b < W1.heap.size ∧ Below w.heap.size w W1 := by
  obtain ⟨c0, c1, c2, c3, c4, c5, c6, c7, c8, c9, cb, lg, lb, B⟩ := h
  have hz := h1.size
  have hw := B.size
  exact ⟨(h1.cell (p := ⟨g, _, none⟩) lg).trans c0, (h1.cell (p := ⟨g, _, none⟩) lg).trans c1, (h1.cell (p := ⟨g, _, none⟩) lg).trans c2, (h1.cell (p := ⟨g, _, none⟩) lg).trans c3, (h1.cell (p := ⟨g, _, none⟩) lg).trans c4, (h1.cell (p := ⟨g, _, none⟩) lg).trans c5, (h1.cell (p := ⟨g, _, none⟩) lg).trans c6, (h1.cell (p := ⟨g, _, none⟩) lg).trans c7, (h1.cell (p := ⟨g, _, none⟩) lg).trans c8, (h1.cell (p := ⟨g, _, none⟩) lg).trans c9, (h1.cell (p := ⟨b, _, none⟩) lb).trans cb, by omega, by omega, B.trans (h1.mono hw)⟩
theorem keepL {w W : World} {g k b off src : Nat} {s t : ByteArray} (h : W.cell? ⟨g, k * 10, none⟩ = some (.string s) ∧ W.cell? ⟨g, k * 10 + 1, none⟩ = some (.string t) ∧ W.cell? ⟨g, k * 10 + 2, none⟩ = some (.slice none 0 0) ∧ W.cell? ⟨g, k * 10 + 3, none⟩ = some (.slice none 0 0) ∧ W.cell? ⟨g, k * 10 + 4, none⟩ = some (.slice none 0 0) ∧ W.cell? ⟨g, k * 10 + 5, none⟩ = some (.int .i32 0) ∧ W.cell? ⟨g, k * 10 + 6, none⟩ = some (.int .i32 0) ∧ W.cell? ⟨g, k * 10 + 7, none⟩ = some (.int .u8 1) ∧ W.cell? ⟨g, k * 10 + 8, none⟩ = some (.int .i32 0) ∧ W.cell? ⟨g, k * 10 + 9, none⟩ = some (.int .i32 0) ∧ W.cell? ⟨b, off + src, none⟩ = some (.string s) ∧ g < W.heap.size ∧ b < W.heap.size ∧ Below w.heap.size w W) : Below w.heap.size w W := by
  obtain ⟨c0, c1, c2, c3, c4, c5, c6, c7, c8, c9, cb, lg, lb, B⟩ := h
  exact B
set_option maxHeartbeats 8000000 in
theorem slotIs (g n c k b off m c' src : Nat) (s t : ByteArray) (w : World) (hS : w.cell? ⟨g, k * 10, none⟩ = some (.string s) ∧ w.cell? ⟨g, k * 10 + 1, none⟩ = some (.string t) ∧ w.cell? ⟨g, k * 10 + 2, none⟩ = some (.slice none 0 0) ∧ w.cell? ⟨g, k * 10 + 3, none⟩ = some (.slice none 0 0) ∧ w.cell? ⟨g, k * 10 + 4, none⟩ = some (.slice none 0 0) ∧ w.cell? ⟨g, k * 10 + 5, none⟩ = some (.int .i32 0) ∧ w.cell? ⟨g, k * 10 + 6, none⟩ = some (.int .i32 0) ∧ w.cell? ⟨g, k * 10 + 7, none⟩ = some (.int .u8 1) ∧ w.cell? ⟨g, k * 10 + 8, none⟩ = some (.int .i32 0) ∧ w.cell? ⟨g, k * 10 + 9, none⟩ = some (.int .i32 0) ∧ w.cell? ⟨b, off + src, none⟩ = some (.string s) ∧ g < w.heap.size ∧ b < w.heap.size ∧ Below w.heap.size w w) (hk : k < n) (hsrc : src < m) (hn : n ≤ 1048576) (hm : m ≤ 1048576) (ht : t = itS src) :
    Calls Try.prog 11 #[.slice (some ⟨g, 0, none⟩) n c, .int .i64 k, .slice (some ⟨b, off, none⟩) m c', .int .i64 src] w fun e w' => e = .returned (.bool true) ∧ Below w.heap.size w w' := by
  subst ht
  have hi0 : (0 : Int) ≤ (k : Int) := by omega
  have hi1 : (k : Int) < (n : Int) := by omega
  have hj0 : (0 : Int) ≤ (src : Int) := by omega
  have hj1 : (src : Int) < (m : Int) := by omega
  have te : (s.toList == s.toList) = true := eqT rfl
  have te2 : ((itS src).toList == (itS src).toList) = true := eqT rfl
  obtain ⟨c0, c1, c2, c3, c4, c5, c6, c7, c8, c9, cb, lg, lb, B⟩ := hS
  go_enter Try.func11, Try.ntmps11
  go_wp2_with fail
  go_region_held3 (fun W => W.cell? ⟨g, k * 10, none⟩ = some (.string s) ∧ W.cell? ⟨g, k * 10 + 1, none⟩ = some (.string (itS src)) ∧ W.cell? ⟨g, k * 10 + 2, none⟩ = some (.slice none 0 0) ∧ W.cell? ⟨g, k * 10 + 3, none⟩ = some (.slice none 0 0) ∧ W.cell? ⟨g, k * 10 + 4, none⟩ = some (.slice none 0 0) ∧ W.cell? ⟨g, k * 10 + 5, none⟩ = some (.int .i32 0) ∧ W.cell? ⟨g, k * 10 + 6, none⟩ = some (.int .i32 0) ∧ W.cell? ⟨g, k * 10 + 7, none⟩ = some (.int .u8 1) ∧ W.cell? ⟨g, k * 10 + 8, none⟩ = some (.int .i32 0) ∧ W.cell? ⟨g, k * 10 + 9, none⟩ = some (.int .i32 0) ∧ W.cell? ⟨b, off + src, none⟩ = some (.string s) ∧ g < W.heap.size ∧ b < W.heap.size ∧ Below w.heap.size w W)
    (first | with_reducible exact keepS (by assumption) hb1 | with_reducible exact keepS (by assumption) hb2 | with_reducible exact keepS (by assumption) hb3 | with_reducible exact keepS (by assumption) hb4 | exact ⟨c0, c1, c2, c3, c4, c5, c6, c7, c8, c9, cb, lg, lb, below_drew B⟩)
    (first | (go_at_call 32; refine (key32 _ _ _).mono ?_; rintro e w1 ⟨rfl, hb1⟩) | (go_at_call 33; refine (val33 _ _ _).mono ?_; rintro e w2 ⟨rfl, hb2⟩) | (go_at_call 17; refine (str17 _ _ _).mono ?_; rintro e w3 ⟨rfl, hb3⟩) | (go_at_call 30; refine (itoa_any (src : Int) (by omega) (by omega) _).mono ?_; rintro e w4 ⟨rfl, hb4⟩))
  all_goals
    have hF := keepL (by assumption)
    clear c0 c1 c2 c3 c4 c5 c6 c7 c8 c9 cb
    go_wp2_with fail
    go_ret
    exact ⟨rfl, hF⟩
end Go.Proofs.Ytnegfigjmjgknac.Swb
