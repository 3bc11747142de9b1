/-
  Contracts for the law on valueForKey: the entries' makers, the object's maker, valueForKey. Conditions: sizes alone.
-/
import Derived.Test.YtnegfigjmjgknacRows
import Derived.Test.YtnegfigjmjgknacMem
import Derived.Test.YtnegfigjmjgknacUrl
import Derived.Test.YtnegfigjmjgknacSz
import Derived.Test.YtnegfigjmjgknacKs
import Derived.WalkKit
import Derived.WalkSpells
import Derived.Handy
import Derived.Lib.Hide
import Derived.Outline
import Derived.Deep.RegionHeld3
import Derived.Deep.MidRow
namespace Go.Proofs.Ytnegfigjmjgknac.Vk
open Go.RowKit Go.PlainAid Str Mem Url Sz Ks
set_option linter.unusedVariables false

abbrev nilS : Value := .slice none 0 0
abbrev z32 : Value := .int .i32 0
set_option maxHeartbeats 1000000 in
theorem newStr (s : ByteArray) (w : World) : Calls Try.prog 29 #[.string s] w fun e w' => e = .returned (.agg #[.string s, nilS, nilS, nilS, z32, z32, .int .u8 1]) ∧ Below w.heap.size w w' := by
  go_enter Try.func29, Try.ntmps29
  go_wp2
  go_returns
  exact ⟨rfl, by go_grown⟩
set_option maxHeartbeats 1000000 in
theorem newEnt (k s : ByteArray) (w : World) : Calls Try.prog 28 #[.string k, .agg #[.string s, nilS, nilS, nilS, z32, z32, .int .u8 1]] w fun e w' => e = .returned (.agg #[.string k, .string s, nilS, nilS, nilS, z32, z32, .int .u8 1, z32, z32]) ∧ Below w.heap.size w w' := by
  go_enter Try.func28, Try.ntmps28
  go_wp2
  go_returns
  exact ⟨rfl, by go_grown⟩
set_option maxHeartbeats 1000000 in
theorem newObj (g n c : Nat) (w : World) : Calls Try.prog 34 #[.slice (some ⟨g, 0, none⟩) n c] w fun e w' => e = .returned (.agg #[.string ⟨#[]⟩, nilS, .slice (some ⟨g, 0, none⟩) n c, nilS, z32, z32, .int .u8 3]) ∧ Below w.heap.size w w' := by
  go_enter Try.func34, Try.ntmps34
  go_wp2
  go_returns
  exact ⟨rfl, by go_grown⟩

theorem below_drew {B : Nat} {a w : World} (h : Below B a w) : Below B a w.drew := ⟨h.os, h.tape, h.output, h.size, h.block⟩
theorem there_below {W W1 : World} {g o n : Nat} (h : W.there g o n) (hg : g < W.heap.size) (hb : Below W.heap.size W W1) : W1.there g o n := fun j hj => by
  obtain ⟨h1, h2⟩ := h j hj
  exact ⟨by rw [hb.cell (p := ⟨g, o + j, none⟩) hg]; exact h1, by rw [hb.frozen (p := ⟨g, o + j, none⟩) hg]; exact h2⟩
theorem size_setCells (b : Nat) : ∀ (vs : List Value) (o : Nat) (w : World), (w.setCells b o vs).heap.size = w.heap.size
  | [], _, _ => rfl
  | v :: r, o, w => by rw [World.setCells, size_setCells b r, World.size_setCell]
theorem below_setCells {B : Nat} {a : World} (b : Nat) (hB : B ≤ b) : ∀ (vs : List Value) (o : Nat) (w : World), Below B a w → Below B a (w.setCells b o vs)
  | [], _, _, h => h
  | v :: r, o, w, h => by rw [World.setCells]; exact below_setCells b hB r _ _ (h.setCell hB _)
/-- What a region with two loads, calls that make memory and one store at the end keeps. -/
theorem keepB {wr W W1 : World} {p q : Addr} {u v : Value} {g o n : Nat} (hp : p.block < wr.heap.size) (hq : q.block < wr.heap.size) (hg : g < wr.heap.size) (h1 : Below W.heap.size W W1)
    (h : W.cell? p = some u ∧ W.cell? q = some v ∧ W.there g o n ∧ wr.heap.size ≤ W.heap.size) : W1.cell? p = some u ∧ W1.cell? q = some v ∧ W1.there g o n ∧ wr.heap.size ≤ W1.heap.size := by
  obtain ⟨a, b, c, d⟩ := h
  have := h1.size
  exact ⟨(h1.cell (by omega)).trans a, (h1.cell (by omega)).trans b, there_below c (by omega) h1, by omega⟩
theorem keepC {wr W : World} {p q : Addr} {u v : Value} {g o n : Nat} (vs : List Value) (o' : Nat) (hp : p.block ≠ g) (hq : q.block ≠ g)
    (h : W.cell? p = some u ∧ W.cell? q = some v ∧ W.there g o n ∧ wr.heap.size ≤ W.heap.size) : (W.setCells g o' vs).cell? p = some u ∧ (W.setCells g o' vs).cell? q = some v ∧ (W.setCells g o' vs).there g o n ∧ wr.heap.size ≤ (W.setCells g o' vs).heap.size := by
  obtain ⟨a, b, c, d⟩ := h
  exact ⟨(World.cell?_setCells_out _ _ _ _ _ (fun h _ => absurd h hp)).trans a, (World.cell?_setCells_out _ _ _ _ _ (fun h _ => absurd h hq)).trans b, World.there_setCells c _ _ _, by rw [size_setCells]; exact d⟩
theorem Own.there {w : World} {g : Nat} {t : TypeId} {cs : Array Value} (h : Own w g t cs) (o n : Nat) (hn : o + n ≤ cs.size) : w.there g o n := fun j hj => by
  refine ⟨?_, h.frozen _⟩
  rw [h.cell, Array.getElem?_eq_getElem (by omega)]
  rfl
/-- An array whose cells from o on are vs. -/
def putL (cs : Array Value) : Nat → List Value → Array Value
  | _, [] => cs
  | o, v :: r => putL (cs.setIfInBounds o v) (o + 1) r
theorem putL_size : ∀ (vs : List Value) (o : Nat) (cs : Array Value), (putL cs o vs).size = cs.size
  | [], _, _ => rfl
  | v :: r, o, cs => by rw [putL, putL_size r]; simp
theorem putL_out : ∀ (vs : List Value) (o : Nat) (cs : Array Value) (j : Nat), j < o ∨ o + vs.length ≤ j → (putL cs o vs)[j]? = cs[j]?
  | [], _, _, _, _ => rfl
  | v :: r, o, cs, j, h => by
    rw [putL, putL_out r _ _ j (by simp at h; omega), Array.getElem?_setIfInBounds, if_neg (by simp at h; omega)]
theorem putL_in : ∀ (vs : List Value) (o : Nat) (cs : Array Value) (j : Nat) (hj : j < vs.length), o + j < cs.size → (putL cs o vs)[o + j]? = some vs[j]
  | v :: r, o, cs, 0, _, h => by
    rw [putL, putL_out r _ _ _ (by omega), Array.getElem?_setIfInBounds, if_pos (by omega), if_pos (by omega)]; rfl
  | v :: r, o, cs, j + 1, hj, h => by
    rw [putL, show o + (j + 1) = o + 1 + j by omega, putL_in r (o + 1) _ j (by simpa using hj) (by simp; omega)]; rfl
theorem Own.setCells {g : Nat} {t : TypeId} : ∀ (vs : List Value) (o : Nat) (w : World) (cs : Array Value), Own w g t cs → Own (w.setCells g o vs) g t (putL cs o vs)
  | [], _, _, _, h => h
  | v :: r, o, w, cs, h => by rw [World.setCells, putL]; exact Own.setCells r _ _ _ (h.set o v)
theorem Own.farCells {g b : Nat} {t : TypeId} {cs : Array Value} (hb : g ≠ b) : ∀ (vs : List Value) (o : Nat) (w : World), Own w g t cs → Own (w.setCells b o vs) g t cs
  | [], _, _, h => h
  | v :: r, o, w, h => by rw [World.setCells]; exact Own.farCells hb r _ _ (h.far (p := ⟨b, o, none⟩) hb v)
theorem chain10 (W : World) (g o : Nat) (v0 v1 v2 v3 v4 v5 v6 v7 v8 v9 : Value) : ((((((((((W.setCell ⟨g, o, none⟩ v0).setCell ⟨g, o + 1, none⟩ v1).setCell ⟨g, o + 2, none⟩ v2).setCell ⟨g, o + 3, none⟩ v3).setCell ⟨g, o + 4, none⟩ v4).setCell ⟨g, o + 5, none⟩ v5).setCell ⟨g, o + 6, none⟩ v6).setCell ⟨g, o + 7, none⟩ v7).setCell ⟨g, o + 8, none⟩ v8).setCell ⟨g, o + 9, none⟩ v9) = W.setCells g o [v0, v1, v2, v3, v4, v5, v6, v7, v8, v9] := rfl
theorem keepC10 {wr W : World} {p q : Addr} {u v : Value} {g o m o' : Nat} {v0 v1 v2 v3 v4 v5 v6 v7 v8 v9 : Value} (hp : p.block ≠ g) (hq : q.block ≠ g)
    (h : W.cell? p = some u ∧ W.cell? q = some v ∧ W.there g o' m ∧ wr.heap.size ≤ W.heap.size) :
    ((((((((((W.setCell ⟨g, o, none⟩ v0).setCell ⟨g, o + 1, none⟩ v1).setCell ⟨g, o + 2, none⟩ v2).setCell ⟨g, o + 3, none⟩ v3).setCell ⟨g, o + 4, none⟩ v4).setCell ⟨g, o + 5, none⟩ v5).setCell ⟨g, o + 6, none⟩ v6).setCell ⟨g, o + 7, none⟩ v7).setCell ⟨g, o + 8, none⟩ v8).setCell ⟨g, o + 9, none⟩ v9).cell? p = some u ∧ ((((((((((W.setCell ⟨g, o, none⟩ v0).setCell ⟨g, o + 1, none⟩ v1).setCell ⟨g, o + 2, none⟩ v2).setCell ⟨g, o + 3, none⟩ v3).setCell ⟨g, o + 4, none⟩ v4).setCell ⟨g, o + 5, none⟩ v5).setCell ⟨g, o + 6, none⟩ v6).setCell ⟨g, o + 7, none⟩ v7).setCell ⟨g, o + 8, none⟩ v8).setCell ⟨g, o + 9, none⟩ v9).cell? q = some v ∧ ((((((((((W.setCell ⟨g, o, none⟩ v0).setCell ⟨g, o + 1, none⟩ v1).setCell ⟨g, o + 2, none⟩ v2).setCell ⟨g, o + 3, none⟩ v3).setCell ⟨g, o + 4, none⟩ v4).setCell ⟨g, o + 5, none⟩ v5).setCell ⟨g, o + 6, none⟩ v6).setCell ⟨g, o + 7, none⟩ v7).setCell ⟨g, o + 8, none⟩ v8).setCell ⟨g, o + 9, none⟩ v9).there g o' m ∧ wr.heap.size ≤ ((((((((((W.setCell ⟨g, o, none⟩ v0).setCell ⟨g, o + 1, none⟩ v1).setCell ⟨g, o + 2, none⟩ v2).setCell ⟨g, o + 3, none⟩ v3).setCell ⟨g, o + 4, none⟩ v4).setCell ⟨g, o + 5, none⟩ v5).setCell ⟨g, o + 6, none⟩ v6).setCell ⟨g, o + 7, none⟩ v7).setCell ⟨g, o + 8, none⟩ v8).setCell ⟨g, o + 9, none⟩ v9).heap.size := by
  rw [chain10]
  exact keepC _ _ hp hq h
theorem ten {wr W W1 : World} {A B : Prop} {g o : Nat} (hg : g < wr.heap.size) (h1 : Below W.heap.size W W1) (h : A ∧ B ∧ W.there g o 10 ∧ wr.heap.size ≤ W.heap.size) :
    ∃ x0 x1 x2 x3 x4 x5 x6 x7 x8 x9 : Value, W1.cell? ⟨g, o, none⟩ = some x0 ∧ W1.cell? ⟨g, o + 1, none⟩ = some x1 ∧ W1.cell? ⟨g, o + 2, none⟩ = some x2 ∧ W1.cell? ⟨g, o + 3, none⟩ = some x3 ∧ W1.cell? ⟨g, o + 4, none⟩ = some x4 ∧ W1.cell? ⟨g, o + 5, none⟩ = some x5 ∧ W1.cell? ⟨g, o + 6, none⟩ = some x6 ∧ W1.cell? ⟨g, o + 7, none⟩ = some x7 ∧ W1.cell? ⟨g, o + 8, none⟩ = some x8 ∧ W1.cell? ⟨g, o + 9, none⟩ = some x9 ∧ W1.frozen? ⟨g, o, none⟩ = false ∧ W1.frozen? ⟨g, o + 1, none⟩ = false ∧ W1.frozen? ⟨g, o + 2, none⟩ = false ∧ W1.frozen? ⟨g, o + 3, none⟩ = false ∧ W1.frozen? ⟨g, o + 4, none⟩ = false ∧ W1.frozen? ⟨g, o + 5, none⟩ = false ∧ W1.frozen? ⟨g, o + 6, none⟩ = false ∧ W1.frozen? ⟨g, o + 7, none⟩ = false ∧ W1.frozen? ⟨g, o + 8, none⟩ = false ∧ W1.frozen? ⟨g, o + 9, none⟩ = false := by
  have T := there_below h.2.2.1 (by have := h.2.2.2; omega) h1
  obtain ⟨x0, hx0⟩ := Option.isSome_iff_exists.1 (T 0 (by omega)).1
  obtain ⟨x1, hx1⟩ := Option.isSome_iff_exists.1 (T 1 (by omega)).1
  obtain ⟨x2, hx2⟩ := Option.isSome_iff_exists.1 (T 2 (by omega)).1
  obtain ⟨x3, hx3⟩ := Option.isSome_iff_exists.1 (T 3 (by omega)).1
  obtain ⟨x4, hx4⟩ := Option.isSome_iff_exists.1 (T 4 (by omega)).1
  obtain ⟨x5, hx5⟩ := Option.isSome_iff_exists.1 (T 5 (by omega)).1
  obtain ⟨x6, hx6⟩ := Option.isSome_iff_exists.1 (T 6 (by omega)).1
  obtain ⟨x7, hx7⟩ := Option.isSome_iff_exists.1 (T 7 (by omega)).1
  obtain ⟨x8, hx8⟩ := Option.isSome_iff_exists.1 (T 8 (by omega)).1
  obtain ⟨x9, hx9⟩ := Option.isSome_iff_exists.1 (T 9 (by omega)).1
  exact ⟨x0, x1, x2, x3, x4, x5, x6, x7, x8, x9, hx0, hx1, hx2, hx3, hx4, hx5, hx6, hx7, hx8, hx9, (T 0 (by omega)).2, (T 1 (by omega)).2, (T 2 (by omega)).2, (T 3 (by omega)).2, (T 4 (by omega)).2, (T 5 (by omega)).2, (T 6 (by omega)).2, (T 7 (by omega)).2, (T 8 (by omega)).2, (T 9 (by omega)).2⟩
def cellF (S T : Nat → ByteArray) (i : Nat) : Value :=
  match i % 10 with
  | 0 => .string (S (i / 10))
  | 1 => .string (T (i / 10))
  | 5 => z32
  | 6 => z32
  | 7 => .int .u8 1
  | 8 => z32
  | 9 => z32
  | _ => nilS
def vs10 (s t : ByteArray) : List Value := [.string s, .string t, nilS, nilS, nilS, z32, z32, .int .u8 1, z32, z32]
theorem vs10_at (S T : Nat → ByteArray) (k r : Nat) (hr : r < 10) : (vs10 (S k) (T k))[r]'(by simpa [vs10] using hr) = cellF S T (k * 10 + r) := by
  have h1 : (k * 10 + r) / 10 = k := by omega
  have h2 : (k * 10 + r) % 10 = r := by omega
  unfold cellF
  rw [h1, h2]
  match r, hr with
  | 0, _ | 1, _ | 2, _ | 3, _ | 4, _ | 5, _ | 6, _ | 7, _ | 8, _ | 9, _ => rfl
def ObjOf (n : Nat) (S T : Nat → ByteArray) (w : World) (e : Ending) (w' : World) : Prop :=
  ∃ g : Nat, e = .returned (.agg #[.string ⟨#[]⟩, nilS, .slice (some ⟨g, 0, none⟩) n n, nilS, z32, z32, .int .u8 3]) ∧ g < w'.heap.size ∧ (∀ j, j < n * 10 → w'.cell? ⟨g, j, none⟩ = some (cellF S T j)) ∧ Below w.heap.size w w'
set_option maxHeartbeats 4000000 in
theorem obj_any (A : Option Addr) (n c : Nat) (S : Nat → ByteArray) (A' : Option Addr) (c' : Nat) (T : Nat → ByteArray) (w : World) (hA : Rd w w.heap.size 1 A n (fun j => .string (S j))) (hA' : Rd w w.heap.size 1 A' n (fun j => .string (T j))) (hn : n ≤ 1048576) :
    Calls Try.prog 13 #[.slice A n c, .slice A' n c'] w (ObjOf n S T w) := by
  have hmk := run_mkc (P := Try.prog) 25 57 _ zc57 rfl _ _ Try.underlying25 info57 n n (Nat.le_refl _) (by omega) (by omega)
  have HA := Lib.hid hA
  have HA' := Lib.hid hA'
  clear hA hA'
  go_enter Try.func13, Try.ntmps13
  go_wp2
  go_loopw [6] (fun i wr => ∃ (k : Nat) (cs : Array Value), k ≤ n ∧ i = .int .i64 k ∧ Own wr (w.heap.size + 1) 57 cs ∧ Own wr w.heap.size 38 #[.string ⟨#[]⟩, .slice none 0 0, .slice none 0 0, .slice none 0 0, .int .i32 0, .int .i32 0, .int .u8 0] ∧ cs.size = n * 10 ∧ (∀ j, j < k * 10 → cs[j]? = some (cellF S T j)) ∧ Below w.heap.size w wr) (fun i _ => n - (intOf i).toNat)
  case atStart =>
    refine ⟨0, madeCells zc57 (n * 10), by omega, rfl, ?_, (Own.new w _ _).alloc _, size_madeCells _ _, by omega, by go_grown⟩
    have := Own.new (w.alloc (.cells #[.string ⟨#[]⟩, .slice none 0 0, .slice none 0 0, .slice none 0 0, .int .i32 0, .int .i32 0, .int .u8 0] 38)) 57 (madeCells zc57 (n * 10))
    rw [World.size_alloc] at this
    exact this
  case round =>
    obtain ⟨k, cs, hk, rfl, ho, ho2, hsz, hd, hb⟩ := hrel
    clear hmk
    have HD := Lib.hid hd
    have HSZ := Lib.hid hsz
    clear hd hsz
    by_cases hlt : k < n
    · obtain ⟨b, off, rfl, hbb, hc⟩ := HA.out (by omega)
      obtain ⟨b', off', rfl, hbb', hc'⟩ := HA'.out (by omega)
      have hck := (hb.cell (p := ⟨b, off + k, none⟩) hbb).trans (hc k (by omega))
      have hck' := (hb.cell (p := ⟨b', off' + k, none⟩) hbb').trans (hc' k (by omega))
      clear hc hc'
      go_wp2_with fail
      have hbz : b < wr.heap.size := Nat.lt_of_lt_of_le hbb hb.size
      have hbz' : b' < wr.heap.size := Nat.lt_of_lt_of_le hbb' hb.size
      have hg : w.heap.size + 1 < wr.heap.size := ho.lt
      have hth := Own.there ho (k * 10) 10 (by have := HSZ.out; omega)
      go_region_held3 (fun W => W.cell? ⟨b, off + k, none⟩ = some (.string (S k)) ∧ W.cell? ⟨b', off' + k, none⟩ = some (.string (T k)) ∧ W.there (w.heap.size + 1) (k * 10) 10 ∧ wr.heap.size ≤ W.heap.size)
        (first | with_reducible exact keepC10 (by simp; omega) (by simp; omega) (by assumption) | with_reducible exact keepB hbz hbz' hg hb1 (by assumption) | with_reducible exact keepB hbz hbz' hg hb2 (by assumption) | exact ⟨hck, hck', hth, Nat.le_refl _⟩)
        (first | (go_at_call 29; refine (newStr _ _).mono ?_; rintro e w1 ⟨rfl, hb1⟩) | (go_at_call 28; refine (newEnt _ _ _).mono ?_; rintro e w2 ⟨rfl, hb2⟩; obtain ⟨x0, x1, x2, x3, x4, x5, x6, x7, x8, x9, q0, q1, q2, q3, q4, q5, q6, q7, q8, q9, f0, f1, f2, f3, f4, f5, f6, f7, f8, f9⟩ := ten hg hb2 (by assumption)))
      have ho' : Own w2 (w.heap.size + 1) 57 cs := (ho.drew.below hb1 hg).below hb2 (Nat.lt_of_lt_of_le hg hb1.size)
      have hg2 : w.heap.size < wr.heap.size := by omega
      have ho2' := (ho2.drew.below hb1 hg2).below hb2 (Nat.lt_of_lt_of_le hg2 hb1.size)
      have hz1 : wr.heap.size ≤ w1.heap.size := hb1.size
      have hb' : Below w.heap.size w w2 := ((below_drew hb).trans (hb1.mono (by show w.heap.size ≤ wr.heap.size; omega))).trans (hb2.mono (by omega))
      have OO := Lib.hid ho'
      have OO2 := Lib.hid ho2'
      clear ho' ho2' ho ho2 hb hb1 hb2 hth
      clear q0 q1 q2 q3 q4 q5 q6 q7 q8 q9 f0 f1 f2 f3 f4 f5 f6 f7 f8 f9
      go_wp2
      go_roundw
      case rel =>
        rw [chain10]
        refine ⟨k + 1, putL cs (k * 10) (vs10 (S k) (T k)), by omega, by go_num, Own.setCells _ _ _ _ OO.out, Own.farCells (by omega) _ _ _ OO2.out, by rw [putL_size]; exact HSZ.out, fun j hj => ?_, below_setCells _ (by omega) _ _ _ hb'⟩
        by_cases hjk : j < k * 10
        · rw [putL_out _ _ _ _ (Or.inl hjk)]; exact HD.out j hjk
        · obtain ⟨r, rfl⟩ : ∃ r, j = k * 10 + r := ⟨j - k * 10, by omega⟩
          rw [putL_in _ _ _ r (by simp [vs10]; omega) (by have := HSZ.out; omega), vs10_at _ _ _ _ (by omega)]
      case measure => simp [intOf]; omega
    · obtain rfl : n = k := by omega
      have hg : w.heap.size + 1 < wr.heap.size := ho.lt
      go_wp2_with fail
      refine (newObj _ _ _ _).mono ?_
      rintro e w1 ⟨rfl, hb1⟩
      have ho1 := ho.below hb1 hg
      have ho21 := ho2.below hb1 (by omega)
      have hz1 := hb1.size
      have hb' := hb.trans (hb1.mono (by omega))
      have OO := Lib.hid ho1
      have q0 := ho21.cell 0
      have q1 := ho21.cell 1
      have q2 := ho21.cell 2
      have q3 := ho21.cell 3
      have q4 := ho21.cell 4
      have q5 := ho21.cell 5
      have q6 := ho21.cell 6
      have f0 := ho21.frozen 0
      have f1 := ho21.frozen 1
      have f2 := ho21.frozen 2
      have f3 := ho21.frozen 3
      have f4 := ho21.frozen 4
      have f5 := ho21.frozen 5
      have f6 := ho21.frozen 6
      clear ho ho2 ho1 ho21 hb hb1
      go_wp2
      refine bodyPost_ret (v := .agg #[.string ⟨#[]⟩, .slice none 0 0, .slice (some ⟨w.heap.size + 1, 0, none⟩) n n, .slice none 0 0, .int .i32 0, .int .i32 0, .int .u8 3]) (by simp [results, Try.results13, go_sem, q0, q1, q2, q3, q4, q5, q6]) rfl ?_
      have hne : w.heap.size + 1 ≠ w.heap.size := by omega
      have hoF : ∀ v0 v1 v2 v3 v4 v5 v6 : Value, Own (((((((w1.setCell ⟨w.heap.size, 0, none⟩ v0).setCell ⟨w.heap.size, 1, none⟩ v1).setCell ⟨w.heap.size, 2, none⟩ v2).setCell ⟨w.heap.size, 3, none⟩ v3).setCell ⟨w.heap.size, 4, none⟩ v4).setCell ⟨w.heap.size, 5, none⟩ v5).setCell ⟨w.heap.size, 6, none⟩ v6) (w.heap.size + 1) 57 cs := fun v0 v1 v2 v3 v4 v5 v6 =>
        ((((((OO.out.far hne v0).far hne v1).far hne v2).far hne v3).far hne v4).far hne v5).far hne v6
      refine ⟨w.heap.size + 1, rfl, (hoF _ _ _ _ _ _ _).lt, fun j hj => ?_, ?_⟩
      · rw [(hoF _ _ _ _ _ _ _).cell]; exact HD.out j (by omega)
      · exact ((((((hb'.setCell (Nat.le_refl _) _).setCell (Nat.le_refl _) _).setCell (Nat.le_refl _) _).setCell (Nat.le_refl _) _).setCell (Nat.le_refl _) _).setCell (Nat.le_refl _) _).setCell (Nat.le_refl _) _
end Go.Proofs.Ytnegfigjmjgknac.Vk
