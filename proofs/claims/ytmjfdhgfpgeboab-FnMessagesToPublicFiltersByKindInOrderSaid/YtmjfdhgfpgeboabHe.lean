/-
  Contract: the messages out of the argument lists. Conditions: sizes alone.
-/
import Derived.Test.YtmjfdhgfpgeboabHc
import Derived.Deep.CutRange
import Derived.Deep.QuietTactic
import Derived.Deep.RegionHeld3
namespace Go.Proofs.Ytmjfdhgfpgeboab.He
open Go.RowKit Go.PlainAid Mem Ha Ho Hc
set_option linter.unusedVariables false
set_option linter.unusedSimpArgs false

def sA : ByteArray := ⟨#[65]⟩
def sR : ByteArray := ⟨#[82]⟩
/-- the location of a note, of a message -/
def locN (j : Nat) : LD := ⟨⟨#[97]⟩, ⟨#[114]⟩, ⟨#[]⟩, ⟨#[]⟩, ⟨#[]⟩, ((j + 1 : Nat) : Int), 0, 0⟩
def locM (t : ByteArray) (i : Nat) : LD := ⟨sA ++ t, sR ++ t, ⟨#[110, 115]⟩, t, ⟨#[]⟩, ((i + 1 : Nat) : Int), (i : Int), 1⟩
def bit (q k : Nat) : Bool := bits .and .u8 (q : Int) (k : Int) != 0
def nloc (b : Bool) (j : Nat) : Option LD := if b then some (locN j) else none
def mloc (b : Bool) (t : ByteArray) (i : Nat) : Option LD := if b then some (locM t i) else none

def Nts (W : World) (v : Value) (k : Nat) (b8 : Bool) (xs : List Value) : Prop :=
  W.ownsRow 0 52 4 v k xs ∧ (k = 0 → v = .slice none 0 0) ∧ ∀ j, j < k → ∃ a, xs[j * 4]? = some .nilIface ∧ xs[j * 4 + 1]? = some (.pointer a) ∧ xs[j * 4 + 2]? = some (.string (noteT j)) ∧ xs[j * 4 + 3]? = some (.bool false) ∧ Lc W 50 a ((nloc b8 j).map LD.c50)
theorem Nts.below {W W1 : World} {v : Value} {k : Nat} {b8 : Bool} {xs : List Value} (h : Nts W v k b8 xs) (hb : Below W.heap.size W W1) : Nts W1 v k b8 xs :=
  ⟨row_below (B := 0) h.1 hb, h.2.1, fun j hj => by
    obtain ⟨a, h1, h2, h3, h4, h5⟩ := h.2.2 j hj
    exact ⟨a, h1, h2, h3, h4, h5.below hb⟩⟩
/-- the notes stay while a row of another type grows -/
theorem Nts.other {W W1 : World} {lo n sz : Nat} {e : TypeId} {u : Value} {us : List Value} {v : Value} {k : Nat} {b8 : Bool} {xs : List Value} (h : Nts W v k b8 xs) (hr : W.ownsRow lo e sz u n us) (hg : W.grownBy W1 u.ownBlock) (h52 : 52 ≠ e) (h50 : 50 ≠ e) : Nts W1 v k b8 xs :=
  ⟨row_of_row hr hg h.1 h52, h.2.1, fun j hj => by
    obtain ⟨a, h1, h2, h3, h4, h5⟩ := h.2.2 j hj
    exact ⟨a, h1, h2, h3, h4, h5.keep fun p cs ho => own_grown hr hg ho h50⟩⟩

theorem get_app_lt {xs ys : List Value} {i : Nat} {u : Value} (h : xs[i]? = some u) : (xs ++ ys)[i]? = some u := by
  rw [List.getElem?_append_left (List.getElem?_eq_some_iff.1 h).1]; exact h
theorem get_app_ge {xs ys : List Value} {i j : Nat} (h : i = xs.length + j) : (xs ++ ys)[i]? = ys[j]? := by
  subst h
  rw [List.getElem?_append_right (by omega), Nat.add_sub_cancel_left]

/-- One more note. -/
theorem Nts.more {w0 W W1 : World} {lo : Nat} {v v' : Value} {k : Nat} {b8 : Bool} {xs : List Value} {a : Option Addr} (h : Nts W v k b8 xs)
    (hA : Apped w0 lo 52 4 v k xs W v' 1 [.nilIface, .pointer a, .string (noteT k), .bool false] W1) (ha : Lc W 50 a ((nloc b8 k).map LD.c50)) :
    Nts W1 v' (k + 1) b8 (xs ++ [.nilIface, .pointer a, .string (noteT k), .bool false]) := by
  have hl := h.1.1
  have kp : ∀ p cs, Own W p 50 cs → Own W1 p 50 cs := fun p cs ho => hA.own ho (by decide)
  refine ⟨row_down hA.row (Nat.zero_le _), fun h => by omega, fun j hj => ?_⟩
  by_cases e : j = k
  · subst e
    exact ⟨a, (get_app_ge (j := 0) (by omega)).trans rfl, (get_app_ge (j := 1) (by omega)).trans rfl, (get_app_ge (j := 2) (by omega)).trans rfl, (get_app_ge (j := 3) (by omega)).trans rfl, ha.keep kp⟩
  · obtain ⟨a', h1, h2, h3, h4, h5⟩ := h.2.2 j (by omega)
    exact ⟨a', get_app_lt h1, get_app_lt h2, get_app_lt h3, get_app_lt h4, h5.keep kp⟩

/-- The messages. -/
def Msgs (W : World) (v : Value) (n : Nat) (T G : Nat → ByteArray) (NB : Nat → Nat) (K D : Nat → Int) (xs : List Value) : Prop :=
  W.ownsRow 0 55 8 v n xs ∧ ∀ i, i < n → ∃ nv ns a, xs[i * 8]? = some nv ∧ xs[i * 8 + 1]? = some (.string (G i)) ∧ xs[i * 8 + 2]? = some .nilIface ∧ xs[i * 8 + 3]? = some (.pointer a) ∧ xs[i * 8 + 4]? = some (.string (T i)) ∧
    xs[i * 8 + 5]? = some (.bool false) ∧ xs[i * 8 + 6]? = some (.int .u8 (K i)) ∧ xs[i * 8 + 7]? = some (.int .u8 (D i)) ∧ Nts W nv (NB i % 4) (bit (NB i) 8) ns ∧ Lc W 50 a ((mloc (bit (NB i) 4) (T i) i).map LD.c50)
theorem Msgs.below {W W1 : World} {v : Value} {n : Nat} {T G : Nat → ByteArray} {NB : Nat → Nat} {K D : Nat → Int} {xs : List Value} (h : Msgs W v n T G NB K D xs) (hb : Below W.heap.size W W1) : Msgs W1 v n T G NB K D xs :=
  ⟨row_below (B := 0) h.1 hb, fun i hi => by
    obtain ⟨nv, ns, a, h1, h2, h3, h4, h5, h6, h7, h8, h9, h10⟩ := h.2 i hi
    exact ⟨nv, ns, a, h1, h2, h3, h4, h5, h6, h7, h8, h9.below hb, h10.below hb⟩⟩
theorem Msgs.more {w0 W W1 : World} {lo : Nat} {v v' nv : Value} {n : Nat} {T G : Nat → ByteArray} {NB : Nat → Nat} {K D : Nat → Int} {xs ns : List Value} {a : Option Addr} (h : Msgs W v n T G NB K D xs)
    (hA : Apped w0 lo 55 8 v n xs W v' 1 [nv, .string (G n), .nilIface, .pointer a, .string (T n), .bool false, .int .u8 (K n), .int .u8 (D n)] W1) (hn : Nts W nv (NB n % 4) (bit (NB n) 8) ns) (ha : Lc W 50 a ((mloc (bit (NB n) 4) (T n) n).map LD.c50)) :
    Msgs W1 v' (n + 1) T G NB K D (xs ++ [nv, .string (G n), .nilIface, .pointer a, .string (T n), .bool false, .int .u8 (K n), .int .u8 (D n)]) := by
  have hl := h.1.1
  have kp : ∀ p cs, Own W p 50 cs → Own W1 p 50 cs := fun p cs ho => hA.own ho (by decide)
  refine ⟨row_down hA.row (Nat.zero_le _), fun j hj => ?_⟩
  by_cases e : j = n
  · subst e
    exact ⟨nv, ns, a, (get_app_ge (j := 0) (by omega)).trans rfl, (get_app_ge (j := 1) (by omega)).trans rfl, (get_app_ge (j := 2) (by omega)).trans rfl, (get_app_ge (j := 3) (by omega)).trans rfl, (get_app_ge (j := 4) (by omega)).trans rfl, (get_app_ge (j := 5) (by omega)).trans rfl, (get_app_ge (j := 6) (by omega)).trans rfl, (get_app_ge (j := 7) (by omega)).trans rfl, hn.other hA.row0 hA.step (by decide) (by decide), ha.keep kp⟩
  · obtain ⟨nv', ns', a', h1, h2, h3, h4, h5, h6, h7, h8, h9, h10⟩ := h.2 j (by omega)
    exact ⟨nv', ns', a', get_app_lt h1, get_app_lt h2, get_app_lt h3, get_app_lt h4, get_app_lt h5, get_app_lt h6, get_app_lt h7, get_app_lt h8, h9.other hA.row0 hA.step (by decide) (by decide), h10.keep kp⟩

def msgZ : Array Value := #[.slice none 0 0, .string ⟨#[]⟩, .nilIface, .pointer none, .string ⟨#[]⟩, .bool false, .int .u8 0, .int .u8 0]
def dataZ : Array Value := #[.nilIface, .pointer none, .string ⟨#[]⟩, .bool false]
theorem info55 : (Try.prog.info? 55).map (fun i => (i.zero, i.size, i.bytes)) = some (some (.agg msgZ), 8, 96) := by kernel_rfl
theorem info52 : (Try.prog.info? 52).map (fun i => (i.zero, i.size, i.bytes)) = some (some (.agg dataZ), 4, 48) := by kernel_rfl

def Built (n : Nat) (T G : Nat → ByteArray) (NB : Nat → Nat) (K D : Nat → Int) (w : World) (e : Ending) (w' : World) : Prop :=
  ∃ v xs, e = .returned v ∧ Msgs w' v n T G NB K D xs ∧ Below w.heap.size w w'

set_option maxRecDepth 100000 in
set_option maxHeartbeats 4000000 in
theorem build7 (A0 : Option Addr) (n c0 : Nat) (A1 : Option Addr) (n1 c1 : Nat) (A2 : Option Addr) (n2 c2 : Nat) (A3 : Option Addr) (n3 c3 : Nat) (A4 : Option Addr) (n4 c4 : Nat) (Z0 Z1 Z4 : Nat → Int) (S2 S3 : Nat → ByteArray) (w : World)
    (hA0 : Rd w w.heap.size 1 A0 n (fun j => .int .u8 (Z0 j))) (hA1 : Rd w w.heap.size 1 A1 n1 (fun j => .int .u8 (Z1 j))) (hA2 : Rd w w.heap.size 1 A2 n2 (fun j => .string (S2 j)))
    (hA3 : Rd w w.heap.size 1 A3 n3 (fun j => .string (S3 j))) (hA4 : Rd w w.heap.size 1 A4 n4 (fun j => .int .u8 (Z4 j))) (hn : n ≤ 4096) (hn1 : n1 ≤ 4096) (hn2 : n2 ≤ 4096) (hn3 : n3 ≤ 4096) (hn4 : n4 ≤ 4096)
    (hZ : ∀ j, j < n4 → 0 ≤ Z4 j ∧ Z4 j ≤ 255) (hS : ∀ j, j < n2 → (S2 j).size ≤ 1048576) :
    Calls Try.prog 7 #[.slice A0 n c0, .slice A1 n1 c1, .slice A2 n2 c2, .slice A3 n3 c3, .slice A4 n4 c4] w
      (Built n (pickS S2 n2) (pickS S3 n3) (fun i => (pickB Z4 n4 i).toNat) Z0 (pickB Z1 n1) w) := by
  have hmk : ∀ W : World, (Instr.makeSlice 27 (.int .i64 0) (.int .i64 (n : Int))).run Try.prog W = .ok (.slice (some ⟨W.heap.size, 0, none⟩) 0 n) (W.alloc (.cells (madeCells msgZ (n * 8)) 55)) := run_mkc (P := Try.prog) 27 55 (.agg msgZ) msgZ (by rfl) _ _ Try.underlying27 info55 0 n (Nat.zero_le _) (by omega) (by omega)
  have HA0 := Lib.hid hA0
  have HA1 := Lib.hid hA1
  have HA2 := Lib.hid hA2
  have HA3 := Lib.hid hA3
  have HA4 := Lib.hid hA4
  have HZ := Lib.hid hZ
  have HS := Lib.hid hS
  clear hA0 hA1 hA2 hA3 hA4 hZ hS
  go_enter Try.func7, Try.ntmps7
  go_wp2
  clear hmk
  go_loopw [11, 12] (fun x i wr => ∃ (v : Value) (k : Nat) (xs : List Value), v = x ∧ k ≤ n ∧ i = .int .i64 k ∧ Hid (Msgs wr v k (pickS S2 n2) (pickS S3 n3) (fun i => (pickB Z4 n4 i).toNat) Z0 (pickB Z1 n1) xs) ∧ Hid (wr.ownsRow w.heap.size 55 8 v k xs) ∧ Hid (Below w.heap.size w wr)) (fun _ i _ => n - (intOf i).toNat)
  case atStart =>
    have hr := World.ownsRow_made (base := w.heap.size) (size := 8) (e := 55) w (madeCells msgZ (n * 8)) n (Nat.le_refl _) (by unfold maxLen; omega) (by simp [size_madeCells])
    exact ⟨_, 0, [], rfl, by omega, rfl, Lib.hid ⟨row_down hr (Nat.zero_le _), fun i hi => absurd hi (by omega)⟩, Lib.hid hr, Lib.hid (by go_grown)⟩
  case round =>
    obtain ⟨v, k, xs, hv, hk, rfl, HM, HR, HB⟩ := hrel
    subst hv
    obtain ⟨wo, rfl⟩ : ∃ wo : World, wo = wr := ⟨_, rfl⟩
    by_cases hlt : k < n
    · obtain ⟨q, hq, hq1⟩ : ∃ q : Nat, pickB Z4 n4 k = (q : Int) ∧ q ≤ 255 := by
        unfold pickB
        by_cases h : k < n4
        · have := HZ.out k h
          rw [if_pos h]
          exact ⟨(Z4 k).toNat, by omega, by omega⟩
        · rw [if_neg h]
          exact ⟨0, rfl, by omega⟩
      obtain ⟨b8, hb8⟩ : ∃ b, (bits .and .u8 (q : Int) 8 != 0) = b := ⟨_, rfl⟩
      obtain ⟨b4, hb4⟩ : ∃ b, (bits .and .u8 (q : Int) 4 != 0) = b := ⟨_, rfl⟩
      go_wp2_with fail
      refine (pickB11 A4 n4 c4 k Z4 wo (HA4.out.below HB.out) (by omega) (by omega)).mono ?_
      rintro e w' ⟨rfl, rfl⟩
      rw [hq]
      go_wp2_with fail
      obtain ⟨nc, hnc, hnq⟩ : ∃ nc : Nat, (q : Int) % 4 = (nc : Int) ∧ nc = q % 4 := ⟨q % 4, by omega, rfl⟩
      have hnc3 : nc ≤ 3 := by omega
      rw [hnc]
      have HNC := Lib.hid hnc
      clear hnc
      refine (pickS9 A2 n2 c2 k S2 wo (HA2.out.below HB.out) (by omega) (by omega)).mono ?_
      rintro e w' ⟨rfl, rfl⟩
      obtain ⟨i52, hi52, hz52, hs52, hb52⟩ := info_parts info52
      obtain ⟨i55, hi55, hz55, hs55, hb55⟩ := info_parts info55
      go_wp2_with fail
      go_loopw [16, 17] (fun y i W => ∃ (v2 : Value) (j : Nat) (ns : List Value), v2 = y ∧ j ≤ nc ∧ i = .int .i64 j ∧ Hid (Nts W v2 j b8 ns) ∧ Hid (W.ownsRow wo.heap.size 52 4 v2 j ns) ∧ Hid (Below wo.heap.size wo W)) (fun _ i _ => nc - (intOf i).toNat)
      case atStart => exact ⟨_, 0, [], rfl, by omega, rfl, Lib.hid ⟨World.ownsRow_nil _ _ _ _, fun _ => rfl, fun j hj => absurd hj (by omega)⟩, Lib.hid (World.ownsRow_nil _ _ _ _), Lib.hid (Below.refl _ _)⟩
      case round =>
        obtain ⟨v2, j, ns, hv2, hj, rfl, HN, HRn, HBn⟩ := hrel
        subst hv2
        obtain ⟨W1, rfl⟩ : ∃ W1 : World, W1 = wr := ⟨_, rfl⟩
        by_cases hjl : j < nc
        · have HH1 := Lib.hid (Hold.start HRn.out HBn.out.size)
          cases b8
          · have HH := HH1
            have HN2 := HN
            have HL : Hid (Lc W1 50 none ((nloc false j).map LD.c50)) := Lib.hid (.inl ⟨rfl, rfl⟩)
            go_wp2_with fail
            generalize hW2 : W1 = W2 at *
            refine (noteT12 j W2).mono ?_
            rintro e w' ⟨rfl, rfl⟩
            obtain ⟨v3, W3, ra, hA⟩ := Hold.app (P := Try.prog) (cs := #[.nilIface, .pointer none, .string (noteT j), .bool false]) 45 45 i52 (.agg dataZ) 48 Try.underlying45 hi52 hz52 hs52 hb52 rfl (by decide) (by unfold maxLen; omega) (by omega) (HH.out.alloc _) rfl (by simp [Value.oneCell'])
            have HN3 := Lib.hid ((HN2.out.below ((Below.refl _ _).alloc (Nat.le_refl _) _)).more hA (HL.out.below ((Below.refl _ _).alloc (Nat.le_refl _) _)))
            have HR3 := Lib.hid hA.row
            have HB3 := Lib.hid (HBn.out.trans hA.below)
            clear hA HH HL HN2
            go_wp2_with (refine wpList_app rfl (.tmp 51) (.tmp 56) 45 rfl rfl _ _ _ (by simp [Act.eval, Act.put]) (by simp [Act.eval, Act.put]) ra ?_)
            clear ra
            go_roundw
            case rel => exact ⟨_, j + 1, _, rfl, by omega, by go_num, HN3, HR3, HB3⟩
            case measure => simp [intOf]; omega
          · go_wp2_with fail
            generalize hW2 : W1.alloc _ = W2
            have hb2 : Below W1.heap.size W1 W2 := by rw [← hW2]; exact (Below.refl _ _).alloc (Nat.le_refl _) _
            have HL : Hid (Lc W2 50 (some ⟨W1.heap.size, 0, none⟩) ((nloc true j).map LD.c50)) := Lib.hid (.inr ⟨_, _, rfl, rfl, by rw [← hW2]; exact Own.new _ _ _⟩)
            have HN2 := Lib.hid (HN.out.below hb2)
            have HH := Lib.hid (HH1.out.grow hb2)
            clear hb2
            refine (noteT12 j W2).mono ?_
            rintro e w' ⟨rfl, rfl⟩
            obtain ⟨v3, W3, ra, hA⟩ := Hold.app (P := Try.prog) (cs := #[.nilIface, .pointer (some ⟨W1.heap.size, 0, none⟩), .string (noteT j), .bool false]) 45 45 i52 (.agg dataZ) 48 Try.underlying45 hi52 hz52 hs52 hb52 rfl (by decide) (by unfold maxLen; omega) (by omega) (HH.out.alloc _) rfl (by simp [Value.oneCell'])
            have HN3 := Lib.hid ((HN2.out.below ((Below.refl _ _).alloc (Nat.le_refl _) _)).more hA (HL.out.below ((Below.refl _ _).alloc (Nat.le_refl _) _)))
            have HR3 := Lib.hid hA.row
            have HB3 := Lib.hid (HBn.out.trans hA.below)
            clear hA HH HL HN2
            go_wp2_with (refine wpList_app rfl (.tmp 51) (.tmp 56) 45 rfl rfl _ _ _ (by simp [Act.eval, Act.put]) (by simp [Act.eval, Act.put]) ra ?_)
            clear ra
            go_roundw
            case rel => exact ⟨_, j + 1, _, rfl, by omega, by go_num, HN3, HR3, HB3⟩
            case measure => simp [intOf]; omega
        · have z0 : decide (j < nc) = false := decide_eq_false hjl
          obtain rfl : nc = j := by omega
          clear z0
          have z0 : decide (nc < nc) = false := decide_eq_false (by omega)
          have hbw0 : Below wo.heap.size wo W1 := HBn.out
          cases b4
          · go_wp2_with fail
            generalize hWc : W1 = Wc at *
            have HL : Hid (Lc Wc 50 none ((mloc false (pickS S2 n2 k) k).map LD.c50)) := Lib.hid (.inl ⟨rfl, rfl⟩)
            have hbw : Below wo.heap.size wo Wc := hbw0
            have HNc := HN
            have hbc2 : Below Wc.heap.size Wc Wc := Below.refl _ _
            have hb1 : Below w.heap.size w Wc := HB.out.trans (hbw.mono HB.out.size)
            have hlo : w.heap.size ≤ Wc.heap.size := hb1.size
            have HHm := Lib.hid (Hold.start (row_below (B := 0) HR.out hbw) hlo)
            have HMc := Lib.hid (HM.out.below hbw)
            have HB1 := Lib.hid hb1
            obtain ⟨o0b, o0o, rfl, hob, hoc⟩ := HA0.out (by omega)
            have hkc := hoc k (by omega)
            have hS : ∀ W, Hold Wc w.heap.size 55 8 v k xs W → (Hold Wc w.heap.size 55 8 v k xs W ∧ W.cell? ⟨o0b, o0o + k, none⟩ = some (.int .u8 (Z0 k))) := fun W h => ⟨h, ((HB1.out.trans h.below).cell (p := ⟨o0b, o0o + k, none⟩) hob).trans hkc⟩
            have hk1 : k + 1 ≤ maxLen := by unfold maxLen; omega
            have hk2 : (k + 1) * 96 ≤ 140737488355328 := by omega
            have hn1' : n1 ≤ 1048576 := by omega
            have hn3' : n3 ≤ 1048576 := by omega
            have hk' : k ≤ 1048576 := by omega
            have q0 : (0 : Int) ≤ (k : Int) := by omega
            have q1 : (k : Int) < (n : Int) := by omega
            obtain ⟨sA, sn, sc, rfl⟩ : ∃ A m c, v2 = Value.slice A m c := by
              rcases HN.out.1.2 with ⟨rfl, _⟩ | ⟨_, _, _, rfl, _⟩ <;> exact ⟨_, _, _, rfl⟩
            clear hb1 hbw hoc hkc hob hbc2
            go_upto_region 19 with fail
            go_region_held3 (fun W => Hold Wc w.heap.size 55 8 v k xs W ∧ W.cell? ⟨o0b, o0o + k, none⟩ = some (.int .u8 (Z0 k)))
              (first | assumption | exact hS _ (Hold.drew HHm.out) | exact hS _ (Apped.held hA) | exact hS _ (Hold.alloc (And.left (by assumption)) _))
              (first
                | (go_at_call 11; refine (pickB11 A1 n1 c1 k Z1 _ (HA1.out.below (HB1.out.trans (Hold.below (And.left (by assumption))))) hn1' hk').mono ?_; rintro e w1 ⟨rfl, rfl⟩)
                | (go_at_call 9; refine (pickS9 A3 n3 c3 k S3 _ (HA3.out.below (HB1.out.trans (Hold.below (And.left (by assumption))))) hn3' hk').mono ?_; rintro e w1 ⟨rfl, rfl⟩)
                | (obtain ⟨v4, W4, ra, hA⟩ := Hold.app2 (P := Try.prog) 27 27 i55 (.agg msgZ) 96 Try.underlying27 hi55 hz55 hs55 hb55 rfl (by decide) hk1 hk2 (And.left (by assumption)) (by first | exact Own.new _ _ _ | exact Own.drew (Own.new _ _ _)) (by rfl) (by simp [Value.oneCell']); refine step_app rfl (.tmp 72) (.tmp 88) 27 rfl rfl _ _ _ (by simp [Act.eval, Act.put]) (by simp [Act.eval, Act.put]) ra ?_))
            have hgw := hA.prior (by go_grown)
            have hNk : Nts Wc (.slice sA sn sc) ((pickB Z4 n4 k).toNat % 4) (bit (pickB Z4 n4 k).toNat 8) ns := by
              rw [hq, Int.toNat_natCast, ← hnq]
              rw [show bit q 8 = b8 from hb8]; exact HNc.out
            have hLk : Lc Wc 50 none ((mloc (bit (pickB Z4 n4 k).toNat 4) (pickS S2 n2 k) k).map LD.c50) := by
              rw [hq, Int.toNat_natCast, show bit q 4 = false from hb4]
              exact HL.out
            have HM4 := Lib.hid ((HMc.out.below hgw).more (T := pickS S2 n2) (G := pickS S3 n3) (NB := fun i => (pickB Z4 n4 i).toNat) (K := Z0) (D := pickB Z1 n1) hA (hNk.below hgw) (hLk.below hgw))
            have HR4 := Lib.hid hA.row
            have HB4 := Lib.hid (HB1.out.trans hA.below)
            clear hA hNk hLk hgw HHm HMc HL
            go_wp2_with fail
            go_roundw
            case rel => exact ⟨_, k + 1, _, rfl, by omega, by go_num, HM4, HR4, HB4⟩
            case measure => simp [intOf]; omega
          · have hSk : (pickS S2 n2 k).size ≤ 1048576 := (by
              unfold pickS
              by_cases h : k < n2
              · rw [if_pos h]; exact HS.out k h
              · rw [if_neg h]; exact Nat.zero_le _)
            go_wp2_with fail
            generalize hWc : W1.alloc _ = Wc
            have hb2 : Below W1.heap.size W1 Wc := by rw [← hWc]; exact (Below.refl _ _).alloc (Nat.le_refl _) _
            have HL : Hid (Lc Wc 50 (some ⟨W1.heap.size, 0, none⟩) ((mloc true (pickS S2 n2 k) k).map LD.c50)) := Lib.hid (.inr ⟨_, _, rfl, rfl, by rw [← hWc]; exact Own.new _ _ _⟩)
            have hbw : Below wo.heap.size wo Wc := hbw0.trans (hb2.mono hbw0.size)
            have HNc := Lib.hid (HN.out.below hb2)
            clear hb2
            have hbc2 : Below Wc.heap.size Wc Wc := Below.refl _ _
            have hb1 : Below w.heap.size w Wc := HB.out.trans (hbw.mono HB.out.size)
            have hlo : w.heap.size ≤ Wc.heap.size := hb1.size
            have HHm := Lib.hid (Hold.start (row_below (B := 0) HR.out hbw) hlo)
            have HMc := Lib.hid (HM.out.below hbw)
            have HB1 := Lib.hid hb1
            obtain ⟨o0b, o0o, rfl, hob, hoc⟩ := HA0.out (by omega)
            have hkc := hoc k (by omega)
            have hS : ∀ W, Hold Wc w.heap.size 55 8 v k xs W → (Hold Wc w.heap.size 55 8 v k xs W ∧ W.cell? ⟨o0b, o0o + k, none⟩ = some (.int .u8 (Z0 k))) := fun W h => ⟨h, ((HB1.out.trans h.below).cell (p := ⟨o0b, o0o + k, none⟩) hob).trans hkc⟩
            have hk1 : k + 1 ≤ maxLen := by unfold maxLen; omega
            have hk2 : (k + 1) * 96 ≤ 140737488355328 := by omega
            have hn1' : n1 ≤ 1048576 := by omega
            have hn3' : n3 ≤ 1048576 := by omega
            have hk' : k ≤ 1048576 := by omega
            have q0 : (0 : Int) ≤ (k : Int) := by omega
            have q1 : (k : Int) < (n : Int) := by omega
            obtain ⟨sA, sn, sc, rfl⟩ : ∃ A m c, v2 = Value.slice A m c := by
              rcases HN.out.1.2 with ⟨rfl, _⟩ | ⟨_, _, _, rfl, _⟩ <;> exact ⟨_, _, _, rfl⟩
            clear hb1 hbw hoc hkc hob hbc2
            go_upto_region 19 with fail
            go_region_held3 (fun W => Hold Wc w.heap.size 55 8 v k xs W ∧ W.cell? ⟨o0b, o0o + k, none⟩ = some (.int .u8 (Z0 k)))
              (first | assumption | exact hS _ (Hold.drew HHm.out) | exact hS _ (Apped.held hA) | exact hS _ (Hold.alloc (And.left (by assumption)) _))
              (first
                | (go_at_call 11; refine (pickB11 A1 n1 c1 k Z1 _ (HA1.out.below (HB1.out.trans (Hold.below (And.left (by assumption))))) hn1' hk').mono ?_; rintro e w1 ⟨rfl, rfl⟩)
                | (go_at_call 9; refine (pickS9 A3 n3 c3 k S3 _ (HA3.out.below (HB1.out.trans (Hold.below (And.left (by assumption))))) hn3' hk').mono ?_; rintro e w1 ⟨rfl, rfl⟩)
                | (obtain ⟨v4, W4, ra, hA⟩ := Hold.app2 (P := Try.prog) 27 27 i55 (.agg msgZ) 96 Try.underlying27 hi55 hz55 hs55 hb55 rfl (by decide) hk1 hk2 (And.left (by assumption)) (by first | exact Own.new _ _ _ | exact Own.drew (Own.new _ _ _)) (by rfl) (by simp [Value.oneCell']); refine step_app rfl (.tmp 72) (.tmp 88) 27 rfl rfl _ _ _ (by simp [Act.eval, Act.put]) (by simp [Act.eval, Act.put]) ra ?_))
            have hgw := hA.prior (by go_grown)
            have hNk : Nts Wc (.slice sA sn sc) ((pickB Z4 n4 k).toNat % 4) (bit (pickB Z4 n4 k).toNat 8) ns := by
              rw [hq, Int.toNat_natCast, ← hnq]
              rw [show bit q 8 = b8 from hb8]; exact HNc.out
            have hLk : Lc Wc 50 (some ⟨W1.heap.size, 0, none⟩) ((mloc (bit (pickB Z4 n4 k).toNat 4) (pickS S2 n2 k) k).map LD.c50) := by
              rw [hq, Int.toNat_natCast, show bit q 4 = true from hb4]
              exact HL.out
            have HM4 := Lib.hid ((HMc.out.below hgw).more (T := pickS S2 n2) (G := pickS S3 n3) (NB := fun i => (pickB Z4 n4 i).toNat) (K := Z0) (D := pickB Z1 n1) hA (hNk.below hgw) (hLk.below hgw))
            have HR4 := Lib.hid hA.row
            have HB4 := Lib.hid (HB1.out.trans hA.below)
            clear hA hNk hLk hgw HHm HMc HL
            go_wp2_with fail
            go_roundw
            case rel => exact ⟨_, k + 1, _, rfl, by omega, by go_num, HM4, HR4, HB4⟩
            case measure => simp [intOf]; omega
    · have z0 : decide (k < n) = false := decide_eq_false hlt
      obtain rfl : n = k := by omega
      go_wp2
      go_ret
      exact ⟨v, xs, rfl, HM.out, HB.out⟩
end Go.Proofs.Ytmjfdhgfpgeboab.He
