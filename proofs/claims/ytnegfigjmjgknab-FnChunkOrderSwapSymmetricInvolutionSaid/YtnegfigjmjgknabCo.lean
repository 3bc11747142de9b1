/-
  Contracts for the law on chunkOrderArray.Swap: the copier, the maker, the exchange, the look at one entry. Conditions: sizes alone.
-/
import Derived.Test.YtnegfigjmjgknabRows
import Derived.Test.YtnegfigjmjgknabMem
import Derived.Test.YtnegfigjmjgknabRow
import Derived.Test.YtnegfigjmjgknabSz
import Derived.WalkKit
import Derived.WalkSpells
import Derived.Handy
import Derived.Lib.Hide
import Derived.RegionTactic
import Derived.BigRegion
import Derived.ChangeAlike
import Derived.Deep.QuietTactic
import Derived.BigQuiet
namespace Go.Proofs.Ytnegfigjmjgknab.Co
open Go.RowKit Mem Rws Sz
set_option linter.unusedVariables false

abbrev iv (f : Nat → Int) (l : Nat) : Value := .int .u32 (f l)
theorem chain3 (W : World) (g o : Nat) (v0 v1 v2 : Value) : ((W.setCell ⟨g, o, none⟩ v0).setCell ⟨g, o + 1, none⟩ v1).setCell ⟨g, o + 2, none⟩ v2 = W.setCells g o [v0, v1, v2] := rfl
theorem three {W : World} {g o : Nat} (h : W.there g o 3) : ∃ x0 x1 x2, W.cell? ⟨g, o, none⟩ = some x0 ∧ W.cell? ⟨g, o + 1, none⟩ = some x1 ∧ W.cell? ⟨g, o + 2, none⟩ = some x2 := by
  obtain ⟨x0, h0⟩ := Option.isSome_iff_exists.1 (h 0 (by omega)).1
  obtain ⟨x1, h1⟩ := Option.isSome_iff_exists.1 (h 1 (by omega)).1
  obtain ⟨x2, h2⟩ := Option.isSome_iff_exists.1 (h 2 (by omega)).1
  exact ⟨x0, x1, x2, h0, h1, h2⟩
set_option maxHeartbeats 4000000 in
theorem swap28 (g n c i j : Nat) (F : Nat → Int) (w : World) (hc : Cells w g 58 (n * 3) (iv F)) (hi : i < n) (hj : j < n) (hn : n ≤ 1048576) :
    Calls Try.prog 28 #[.slice (some ⟨g, 0, none⟩) n c, .int .i64 i, .int .i64 j] w fun e w' => e = .returned (.tuple #[]) ∧ Sw 3 g i j [iv F (i * 3), iv F (i * 3 + 1), iv F (i * 3 + 2)] [iv F (j * 3), iv F (j * 3 + 1), iv F (j * 3 + 2)] w w' := by
  have a0 := hc.cell (l := i * 3) (by omega)
  have a1 := hc.cell (l := i * 3 + 1) (by omega)
  have a2 := hc.cell (l := i * 3 + 2) (by omega)
  have b0 := hc.cell (l := j * 3) (by omega)
  have b1 := hc.cell (l := j * 3 + 1) (by omega)
  have b2 := hc.cell (l := j * 3 + 2) (by omega)
  have f0 := hc.frozen (i * 3)
  have f1 := hc.frozen (i * 3 + 1)
  have f2 := hc.frozen (i * 3 + 2)
  have g0 := hc.frozen (j * 3)
  have g1 := hc.frozen (j * 3 + 1)
  have g2 := hc.frozen (j * 3 + 2)
  obtain ⟨x0, x1, x2, p0, p1, p2⟩ := three (World.there_setCells (hc.there (j * 3) 3 (by omega)) g (i * 3) [iv F (j * 3), iv F (j * 3 + 1), iv F (j * 3 + 2)])
  obtain ⟨y0, y1, y2, q0, q1, q2⟩ := three (World.there_setCells (hc.there (i * 3) 3 (by omega)) g (j * 3) [iv F (i * 3), iv F (i * 3 + 1), iv F (i * 3 + 2)])
  rw [← chain3] at p0 p1 p2 q0 q1 q2
  simp only [iv] at *
  have hi0 : (0 : Int) ≤ (i : Int) := by omega
  have hi1 : (i : Int) < (n : Int) := by omega
  have hj0 : (0 : Int) ≤ (j : Int) := by omega
  have hj1 : (j : Int) < (n : Int) := by omega
  clear hc
  go_enter Try.func28, Try.ntmps28
  go_region
  go_end0
  exact ⟨rfl, .inl rfl⟩
abbrev row3 (F : Nat → Int) (i : Nat) : List Value := [iv F (i * 3), iv F (i * 3 + 1), iv F (i * 3 + 2)]
theorem swap20 (g n c i j : Nat) (F : Nat → Int) (w : World) (hc : Cells w g 58 (n * 3) (iv F)) (hi : i < n) (hj : j < n) (hn : n ≤ 1048576) :
    Calls Try.prog 20 #[.slice (some ⟨g, 0, none⟩) n c, .int .i64 i, .int .i64 j] w fun e w' => e = .returned (.tuple #[]) ∧ Sw 3 g i j (row3 F i) (row3 F j) w w' := by
  go_enter Try.func20, Try.ntmps20
  go_wp2_with fail
  refine (swap28 g n c i j F _ hc hi hj hn).mono ?_
  rintro e w1 ⟨rfl, hs⟩
  go_wp2_with fail
  go_end0
  exact ⟨rfl, hs⟩
def swi (i j : Nat) (F : Nat → Int) (l : Nat) : Int := if l / 3 = i then F (j * 3 + l % 3) else if l / 3 = j then F (i * 3 + l % 3) else F l
theorem swi_swp (i j : Nat) (F : Nat → Int) (l : Nat) : swp 3 i j (iv F) l = iv (swi i j F) l := by
  show _ = Value.int .u32 (swi i j F l)
  unfold swp swi
  by_cases h1 : l / 3 = i
  · rw [if_pos h1, if_pos h1]
  · rw [if_neg h1, if_neg h1]
    by_cases h2 : l / 3 = j
    · rw [if_pos h2, if_pos h2]
    · rw [if_neg h2, if_neg h2]
theorem row3_at (F : Nat → Int) (i r : Nat) (hr : r < 3) : (row3 F i).getD r undef = iv F (i * 3 + r) := by
  match r, hr with
  | 0, _ | 1, _ | 2, _ => rfl
theorem swapped {g n i j : Nat} {F : Nat → Int} {w w' : World} (hc : Cells w g 58 (n * 3) (iv F)) (h : Sw 3 g i j (row3 F i) (row3 F j) w w') : Cells w' g 58 (n * 3) (iv (swi i j F)) :=
  (h.own hc rfl rfl (row3_at F i) (row3_at F j) (by decide)).congr fun l _ => swi_swp i j F l
theorem iv_inj {F G : Nat → Int} {l : Nat} (h : iv F l = iv G l) : F l = G l := by simpa [iv] using h
theorem swi_comm (i j : Nat) (F : Nat → Int) (l : Nat) : swi i j F l = swi j i F l := iv_inj (by rw [← swi_swp, ← swi_swp]; exact swp_comm (by decide))
theorem swi_swi (i j : Nat) (F : Nat → Int) (l : Nat) : swi i j (swi i j F) l = F l := iv_inj (by
  rw [← swi_swp, show iv (swi i j F) = swp 3 i j (iv F) from funext fun l => (swi_swp i j F l).symm]; exact swp_swp (by decide))

def ClonedTo (n : Nat) (Z : Nat → Int) (w : World) (e : Ending) (w' : World) : Prop :=
  ∃ (A : Option Addr) (c : Nat), e = .returned (.slice A n c) ∧ Rd w' w'.heap.size 1 A n (fun j => .int .u32 (Z j)) ∧ Below w.heap.size w w'
theorem info46 : (Try.prog.info? 46).map (fun i => (i.zero, i.size, i.bytes)) = some (some (.int .u32 0), 1, 4) := by kernel_rfl
set_option maxHeartbeats 1000000 in
theorem copy18 (A : Option Addr) (n c : Nat) (Z : Nat → Int) (w : World) (hA : Rd w w.heap.size 1 A n (fun j => .int .u32 (Z j))) (h0 : A = none → n = 0 ∧ c = 0) (hn : n ≤ 1048576) :
    Calls Try.prog 18 #[.slice A n c] w (ClonedTo n Z w) := by
  have hnil := fun W => Lib.run_eql_slice_nil (P := Try.prog) W 39 46 A n c 0 0 Try.underlying39
  cases A with
  | none =>
    obtain ⟨rfl, rfl⟩ := h0 rfl
    clear h0
    go_enter Try.func18, Try.ntmps18
    go_wp2
    go_ret
    exact ⟨none, 0, rfl, Rd.zero _ _ _ _ _, Below.refl _ _⟩
  | some a =>
    have hmk := run_mk (P := Try.prog) 39 46 _ _ _ Try.underlying39 info46 n n (Nat.le_refl _) (by omega) (by omega)
    have HA := Lib.hid hA
    clear h0 hA
    go_enter Try.func18, Try.ntmps18
    go_wp2
    go_loopw [4] (fun i wr => ∃ (k : Nat) (cs : Array Value), k ≤ n ∧ i = .int .i64 k ∧ Own wr w.heap.size 46 cs ∧ cs.size = n ∧ (∀ j, j < k → cs[j]? = some (.int .u32 (Z j))) ∧ (∀ j, j < n → ∃ s, cs[j]? = some (.int .u32 s)) ∧ Below w.heap.size w wr) (fun i _ => n - (intOf i).toNat)
    case atStart =>
      refine ⟨0, _, by omega, rfl, Own.new _ _ _, by simp [size_madeCells], by omega, fun j hj => ⟨0, ?_⟩, by go_grown⟩
      rw [made_at _ _ _ (by omega)]
      show some ((#[Value.int .u32 0] : Array Value)[j % 1]!) = _
      rw [Nat.mod_one]
      rfl
    case round =>
      obtain ⟨k, cs, hk, rfl, ho, hsz, hd, he, hb⟩ := hrel
      clear hmk
      have HD := Lib.hid hd
      have HE := Lib.hid he
      have HSZ := Lib.hid hsz
      clear hd he hsz
      by_cases hlt : k < n
      · obtain ⟨b, off, ha, hbb, hc⟩ := HA.out (by omega)
        obtain rfl : a = ⟨b, off, none⟩ := by simpa using ha
        have hck := (hb.cell (p := ⟨b, off + k, none⟩) hbb).trans (hc k (by omega))
        obtain ⟨s0, hs0⟩ := HE.out k hlt
        have hcg := (ho.cell k).trans hs0
        have hfr := ho.frozen k
        clear hc ha hs0 hnil
        have hne : b ≠ w.heap.size := by omega
        go_wp2
        go_roundw
        case rel =>
          refine ⟨k + 1, _, by omega, by go_num, ho.set k _, by simpa using HSZ.out, fun j hj => ?_, fun j hj => ?_, hb.setCell (Nat.le_refl _) _⟩
          · rw [Array.getElem?_setIfInBounds]
            by_cases hjk : k = j
            · subst hjk; simp [HSZ.out, hlt]
            · rw [if_neg hjk]; exact HD.out j (by omega)
          · rw [Array.getElem?_setIfInBounds]
            by_cases hjk : k = j
            · subst hjk; exact ⟨Z k, by simp [HSZ.out, hlt]⟩
            · rw [if_neg hjk]; exact HE.out j hj
        case measure => simp [intOf]; omega
      · go_wp2
        go_ret
        refine ⟨some ⟨w.heap.size, 0, none⟩, n, rfl, ho.rd fun j hj => HD.out j (by omega), hb⟩

def tri (X Y Z : Nat → Int) (l : Nat) : Int := match l % 3 with
  | 0 => X (l / 3)
  | 1 => Y (l / 3)
  | _ => Z (l / 3)
theorem tri_at (X Y Z : Nat → Int) (k : Nat) : tri X Y Z (k * 3) = X k ∧ tri X Y Z (k * 3 + 1) = Y k ∧ tri X Y Z (k * 3 + 2) = Z k := by
  unfold tri
  have h0 : (k * 3) % 3 = 0 ∧ (k * 3) / 3 = k := by omega
  have h1 : (k * 3 + 1) % 3 = 1 ∧ (k * 3 + 1) / 3 = k := by omega
  have h2 : (k * 3 + 2) % 3 = 2 ∧ (k * 3 + 2) / 3 = k := by omega
  rw [h0.1, h0.2, h1.1, h1.2, h2.1, h2.2]
  exact ⟨rfl, rfl, rfl⟩
def MadeOf (n : Nat) (X Y Z : Nat → Int) (w : World) (e : Ending) (w' : World) : Prop :=
  ∃ g : Nat, e = .returned (.slice (some ⟨g, 0, none⟩) n n) ∧ w.heap.size ≤ g ∧ Cells w' g 58 (n * 3) (iv (tri X Y Z)) ∧ Below w.heap.size w w'
theorem info58 : (Try.prog.info? 58).map (fun i => (i.zero, i.size, i.bytes)) = some (some (.agg #[.int .u32 0, .int .u32 0, .int .u32 0]), 3, 12) := by kernel_rfl
set_option maxHeartbeats 4000000 in
theorem make19 (A : Option Addr) (n c : Nat) (X : Nat → Int) (A' : Option Addr) (c' : Nat) (Y : Nat → Int) (A'' : Option Addr) (c'' : Nat) (Z : Nat → Int) (w : World) (hA : Rd w w.heap.size 1 A n (fun j => .int .u32 (X j))) (hA' : Rd w w.heap.size 1 A' n (fun j => .int .u32 (Y j))) (hA'' : Rd w w.heap.size 1 A'' n (fun j => .int .u32 (Z j))) (hn : n ≤ 1048576) :
    Calls Try.prog 19 #[.slice A n c, .slice A' n c', .slice A'' n c''] w (MadeOf n X Y Z w) := by
  have hmk := run_mkc (P := Try.prog) 43 58 _ #[.int .u32 0, .int .u32 0, .int .u32 0] rfl _ _ Try.underlying43 info58 n n (Nat.le_refl _) (by omega) (by omega)
  have HA := Lib.hid hA
  have HA' := Lib.hid hA'
  have HA'' := Lib.hid hA''
  clear hA hA' hA''
  go_enter Try.func19, Try.ntmps19
  go_wp2
  go_loopw [9] (fun i wr => ∃ (k : Nat) (cs : Array Value), k ≤ n ∧ i = .int .i64 k ∧ Own wr w.heap.size 58 cs ∧ cs.size = n * 3 ∧ (∀ l, l < k * 3 → cs[l]? = some (iv (tri X Y Z) l)) ∧ Below w.heap.size w wr) (fun i _ => n - (intOf i).toNat)
  case atStart => exact ⟨0, _, by omega, rfl, Own.new _ _ _, size_madeCells _ _, by omega, by go_grown⟩
  case round =>
    obtain ⟨k, cs, hk, rfl, ho, hsz, hd, hb⟩ := hrel
    clear hmk
    have HD := Lib.hid hd
    have HSZ := Lib.hid hsz
    clear hd hsz
    by_cases hlt : k < n
    · obtain ⟨b, off, rfl, hbb, hc⟩ := HA.out (by omega)
      obtain ⟨b', off', rfl, hbb', hc'⟩ := HA'.out (by omega)
      obtain ⟨b'', off'', rfl, hbb'', hc''⟩ := HA''.out (by omega)
      have k1 := (hb.cell (p := ⟨b, off + k, none⟩) hbb).trans (hc k (by omega))
      have k2 := (hb.cell (p := ⟨b', off' + k, none⟩) hbb').trans (hc' k (by omega))
      have k3 := (hb.cell (p := ⟨b'', off'' + k, none⟩) hbb'').trans (hc'' k (by omega))
      obtain ⟨x0, x1, x2, p0, p1, p2⟩ := three (Own.there ho (k * 3) 3 (by have := HSZ.out; omega))
      have f0 := ho.frozen (k * 3)
      have f1 := ho.frozen (k * 3 + 1)
      have f2 := ho.frozen (k * 3 + 2)
      have hi0 : (0 : Int) ≤ (k : Int) := by omega
      have hi1 : (k : Int) < (n : Int) := by omega
      have HO := Lib.hid ho
      clear hc hc' hc'' ho
      go_wp2_with fail
      go_region
      go_wp2
      go_roundw
      case rel =>
        refine ⟨k + 1, putL cs (k * 3) [iv X k, iv Y k, iv Z k], by omega, by go_num, (Own.setCells [iv X k, iv Y k, iv Z k] (k * 3) wr cs HO.out).drew, by rw [putL_size]; exact HSZ.out, fun l hl => ?_, below_drew (below_setCells _ (Nat.le_refl _) [iv X k, iv Y k, iv Z k] _ _ hb)⟩
        by_cases hlk : l < k * 3
        · rw [putL_out _ _ _ _ (Or.inl hlk)]; exact HD.out l hlk
        · obtain ⟨r, rfl⟩ : ∃ r, l = k * 3 + r := ⟨l - k * 3, by omega⟩
          rw [putL_in _ _ _ r (by simp; omega) (by have := HSZ.out; omega)]
          obtain ⟨t0, t1, t2⟩ := tri_at X Y Z k
          have hr : r < 3 := by omega
          match r, hr with
          | 0, _ => simp [iv, t0]
          | 1, _ => simp [iv, t1]
          | 2, _ => simp [iv, t2]
      case measure => simp [intOf]; omega
    · obtain rfl : n = k := by omega
      go_wp2
      go_ret
      exact ⟨_, rfl, Nat.le_refl _, ⟨cs, ho, HSZ.out, HD.out⟩, hb⟩
set_option maxHeartbeats 4000000 in
theorem at21 (g n c k : Nat) (F : Nat → Int) (w : World) (hc : Cells w g 58 (n * 3) (iv F)) (hk : k < n) (hn : n ≤ 1048576) :
    Calls Try.prog 21 #[.slice (some ⟨g, 0, none⟩) n c, .int .i64 k] w fun e w' => e = .returned (.tuple #[iv F (k * 3), iv F (k * 3 + 1), iv F (k * 3 + 2)]) ∧ ∃ N, w' = w.drewN N := by
  have a0 := hc.cell (l := k * 3) (by omega)
  have a1 := hc.cell (l := k * 3 + 1) (by omega)
  have a2 := hc.cell (l := k * 3 + 2) (by omega)
  have hi0 : (0 : Int) ≤ (k : Int) := by omega
  have hi1 : (k : Int) < (n : Int) := by omega
  clear hc
  go_enter Try.func21, Try.ntmps21
  go_wp2
  go_quiet (fail)
  go_wp2
  go_ret3
  exact ⟨rfl, _, rfl⟩
set_option maxHeartbeats 4000000 in
theorem same22 (g n c k : Nat) (F : Nat → Int) (x y z : Int) (w : World) (hc : Cells w g 58 (n * 3) (iv F)) (hk : k < n) (hn : n ≤ 1048576) (hx : F (k * 3) = x) (hy : F (k * 3 + 1) = y) (hz : F (k * 3 + 2) = z) :
    Calls Try.prog 22 #[.slice (some ⟨g, 0, none⟩) n c, .int .i64 k, .int .u32 x, .int .u32 y, .int .u32 z] w fun e w' => e = .returned (.bool true) ∧ ∃ N, w' = w.drewN N := by
  subst hx hy hz
  go_enter Try.func22, Try.ntmps22
  go_wp2_with fail
  refine (at21 g n c k F _ hc hk hn).mono ?_
  rintro e w1 ⟨rfl, N, rfl⟩
  go_wp2_with fail
  go_ret
  exact ⟨rfl, _, rfl⟩
end Go.Proofs.Ytnegfigjmjgknab.Co
