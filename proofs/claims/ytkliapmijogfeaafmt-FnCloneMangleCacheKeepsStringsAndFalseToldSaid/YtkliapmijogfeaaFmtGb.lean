/-
  Contracts for the mangle cache: the map of the given entries. Conditions: sizes alone.
-/
import Derived.Test.YtkliapmijogfeaaFmtGa
import Derived.Test.YtkliapmijogfeaaFmtStr
import Derived.Maps.Own
import Derived.Maps.OwnSet
import Derived.Maps.Ext
import Derived.Maps.Range
import Derived.StringKeys
namespace Go.Proofs.YtkliapmijogfeaaFmt.Gb
open Go.RowKit Go.PlainAid Str Mem Sz Ga Go.Maps Go.WideMaps Go.WideShapes
set_option linter.unusedVariables false

def protoS : ByteArray := ⟨#[95, 95, 112, 114, 111, 116, 111, 95, 95]⟩
theorem protoL : protoS.toList = [95, 95, 112, 114, 111, 116, 111, 95, 95] := by kernel_rfl
theorem proto_beq (s : ByteArray) : (s.toList == [95, 95, 112, 114, 111, 116, 111, 95, 95]) = decide (s = protoS) := by rw [← protoL]; exact toList_beq s protoS
/-- What the cache may hold: a string other than that one, or false. -/
inductive Good : Value → Prop
  | str (s : ByteArray) (h : s ≠ protoS) : Good (.iface 9 (.string s))
  | no : Good (.iface 4 (.bool false))
open Classical in
noncomputable def RG (v : Value) : Option (DataW Value × List MemPlace) := if Good v then some (.held v, []) else none
theorem RG_mk {v : Value} (h : Good v) : RG v = some (.held v, []) := by unfold RG; rw [if_pos h]
theorem RG_inv {v : Value} {y : DataW Value × List MemPlace} (h : RG v = some y) : Good v ∧ y = (.held v, []) := by
  unfold RG at h
  by_cases g : Good v
  · rw [if_pos g] at h; cases h; exact ⟨g, rfl⟩
  · rw [if_neg g] at h; cases h
theorem lawK : Keyed Tryf.prog 9 := string_keyed Tryf.underlying9
theorem key_inv {key : Value} {kl : Lit} (h : keyOf Tryf.prog 9 key = some kl) : ∃ s, key = .string s ∧ s.size ≤ maxLen ∧ kl = .string s.data.toList := by
  rw [keyOf_string Tryf.underlying9] at h
  cases key <;> simp [mapKey, Tryf.underlying9] at h
  exact ⟨_, rfl, h.1, h.2.symm⟩
theorem run_hint (n : Int) (w : World) : (Instr.makeMap 28 (some (.int .i64 n))).run Tryf.prog w = .ok (.map (some w.heap.size)) (w.alloc (.map #[] 0)) := by
  simp [Instr.makeMap, run_underlying Tryf.underlying28, asInt, newObj, Sem.run, Result.andThen]
  rfl
/-- The map at block b. -/
abbrev Om (w : World) (b n : Nat) (D : DataW Value) : Prop := w.ownsMap Tryf.prog 9 RG b n D
def keyL (s : ByteArray) : Lit := .string s.data.toList
def HasAll (n : Nat) (S : Nat → ByteArray) (D : DataW Value) : Prop := ∀ j, j < n → has D (keyL (S j)) = true

def Built (nil : Bool) (n : Nat) (S : Nat → ByteArray) (w : World) (e : Ending) (w' : World) : Prop :=
  Below w.heap.size w w' ∧ ((nil = true ∧ e = .returned (.tuple #[.map none, .bool true])) ∨ (nil = false ∧ e = .returned (.tuple #[.map none, .bool false])) ∨
    ∃ b D, nil = false ∧ e = .returned (.tuple #[.map (some b), .bool true]) ∧ w.heap.size ≤ b ∧ Om w' b n D ∧ HasAll n S D)

theorem has_put {D : DataW Value} {n : Nat} {S : Nat → ByteArray} (h : HasAll n S D) (hm : IsMap D) (d : DataW Value) : HasAll (n + 1) S (D.put (keyL (S n)) d) := fun j hj => by
  by_cases e : keyL (S j) = keyL (S n)
  · rw [e]; exact has_put_same (k := keyL (S n)) hm trivial d
  · rw [has_put_other e]
    exact h j (by have : j ≠ n := fun x => e (by rw [x]); omega)

set_option maxRecDepth 100000 in
set_option maxHeartbeats 1000000 in
theorem build_any (nil : Bool) (A : Option Addr) (n c : Nat) (S : Nat → ByteArray) (B : Option Addr) (m d : Nat) (T : Nat → ByteArray) (C : Option Addr) (l f : Nat) (Z : Nat → Bool) (w : World)
    (hA : Rd w w.heap.size 1 A n (fun j => .string (S j))) (hB : Rd w w.heap.size 1 B m (fun j => .string (T j))) (hC : Rd w w.heap.size 1 C l (fun j => .bool (Z j)))
    (hn : n ≤ 1048576) (hm : m ≤ 1048576) (hl : l ≤ 1048576) (hS : ∀ j, j < n → (S j).size ≤ maxLen) :
    Calls Tryf.prog 8 #[.bool nil, .slice A n c, .slice B m d, .slice C l f] w (Built nil n S w) := by
  have HA := Lib.hid hA
  have HB := Lib.hid hB
  have HC := Lib.hid hC
  have HS := Lib.hid hS
  clear hA hB hC hS
  cases hnil : nil
  case true =>
    go_enter Tryf.func8, Tryf.ntmps8
    go_wp2
    go_returns
    exact ⟨Below.refl _ _, .inl ⟨rfl, rfl⟩⟩
  clear hnil
  have hh := run_hint (n : Int)
  go_enter Tryf.func8, Tryf.ntmps8
  go_wp2
  clear hh
  go_loopw [11] (fun i wr => ∃ (k : Nat) (D : DataW Value), k ≤ n ∧ i = .int .i64 k ∧ Hid (Om wr w.heap.size k D) ∧ Hid (HasAll k S D) ∧ Hid (Below w.heap.size w wr)) (fun i _ => n - (intOf i).toNat)
  case atStart => exact ⟨0, _, by omega, rfl, Lib.hid (World.ownsMap_made w Tryf.prog 9 RG), Lib.hid (fun j hj => absurd hj (by omega)), Lib.hid (by go_grown)⟩
  case round =>
    obtain ⟨k, D, hk, rfl, HM, HH, HW⟩ := hrel
    obtain ⟨wo, rfl⟩ : ∃ wo : World, wo = wr := ⟨_, rfl⟩
    by_cases hlt : k < n
    · obtain ⟨b, off, rfl, hb, hc⟩ := HA.out (by omega)
      have hck : wo.cell? ⟨b, off + k, none⟩ = some (.string (S k)) := (HW.out.cell (p := ⟨b, off + k, none⟩) hb).trans (hc k (by omega))
      have hu := fun (v : Value) (hv : Good v) => HM.out.update lawK Tryf.underlying28 (by unfold maxLen; omega) (keyOf_string_mk Tryf.underlying9 (HS.out k hlt)) (RG_mk hv)
      clear hc hb
      by_cases hz : k < l
      · obtain ⟨bz, oz, rfl, hbz, hcz⟩ := HC.out (by omega)
        have hzk : wo.cell? ⟨bz, oz + k, none⟩ = some (.bool (Z k)) := (HW.out.cell (p := ⟨bz, oz + k, none⟩) hbz).trans (hcz k (by omega))
        have q0 : (0 : Int) ≤ (k : Int) := by omega
        have q1 : (k : Int) < (l : Int) := by omega
        have q2 : (k : Int) < (n : Int) := by omega
        clear hcz hbz
        cases hzv : Z k
        · rw [hzv] at hzk
          by_cases hy : k < m
          · obtain ⟨by', oy, rfl, hby, hcy⟩ := HB.out (by omega)
            have hyk : wo.cell? ⟨by', oy + k, none⟩ = some (.string (T k)) := (HW.out.cell (p := ⟨by', oy + k, none⟩) hby).trans (hcy k (by omega))
            have q3 : (k : Int) < (m : Int) := by omega
            have q4 : decide ((k : Int) < (m : Int)) = true := decide_eq_true q3
            clear hcy hby
            by_cases hp : T k = protoS
            · have tp : ((T k).toList == [95, 95, 112, 114, 111, 116, 111, 95, 95]) = true := (proto_beq _).trans (decide_eq_true hp)
              clear hp hu
              go_wp2
              go_returns
              exact ⟨HW.out, .inr (.inl ⟨rfl, rfl⟩)⟩
            · have tp : ((T k).toList == [95, 95, 112, 114, 111, 116, 111, 95, 95]) = false := (proto_beq _).trans (decide_eq_false hp)
              obtain ⟨w2, r2, o2, gr2⟩ := hu _ (Good.str (T k) hp)
              have HM2 := Lib.hid o2
              have HH2 := Lib.hid (has_put HH.out HM.out.isMap (.held (.iface 9 (.string (T k)))))
              have HW2 := Lib.hid (HW.out.grown gr2 HW.out.size (fun x hx => by cases hx; exact Nat.le_refl _))
              clear hu o2 gr2 hp
              go_wp2
              go_roundw
              case rel => exact ⟨k + 1, _, by omega, by go_num, HM2, HH2, HW2⟩
              case measure => simp [intOf]; omega
          · have q4 : decide ((k : Int) < (m : Int)) = false := decide_eq_false (by omega)
            have q5 : decide (k < m) = false := decide_eq_false hy
            obtain ⟨w2, r2, o2, gr2⟩ := hu _ (Good.str ⟨#[]⟩ (by unfold protoS; simp))
            have HM2 := Lib.hid o2
            have HH2 := Lib.hid (has_put HH.out HM.out.isMap (.held (.iface 9 (.string ⟨#[]⟩))))
            have HW2 := Lib.hid (HW.out.grown gr2 HW.out.size (fun x hx => by cases hx; exact Nat.le_refl _))
            clear hu o2 gr2
            go_wp2
            go_roundw
            case rel => exact ⟨k + 1, _, by omega, by go_num, HM2, HH2, HW2⟩
            case measure => simp [intOf]; omega
        · rw [hzv] at hzk
          obtain ⟨w2, r2, o2, gr2⟩ := hu _ Good.no
          have HM2 := Lib.hid o2
          have HH2 := Lib.hid (has_put HH.out HM.out.isMap (.held (.iface 4 (.bool false))))
          have HW2 := Lib.hid (HW.out.grown gr2 HW.out.size (fun x hx => by cases hx; exact Nat.le_refl _))
          clear hu o2 gr2
          go_wp2
          go_roundw
          case rel => exact ⟨k + 1, _, by omega, by go_num, HM2, HH2, HW2⟩
          case measure => simp [intOf]; omega
      · have z4 : decide (k < l) = false := decide_eq_false hz
        by_cases hy : k < m
        · obtain ⟨by', oy, rfl, hby, hcy⟩ := HB.out (by omega)
          have hyk : wo.cell? ⟨by', oy + k, none⟩ = some (.string (T k)) := (HW.out.cell (p := ⟨by', oy + k, none⟩) hby).trans (hcy k (by omega))
          have q3 : (k : Int) < (m : Int) := by omega
          have q4 : decide ((k : Int) < (m : Int)) = true := decide_eq_true q3
          clear hcy hby
          by_cases hp : T k = protoS
          · have tp : ((T k).toList == [95, 95, 112, 114, 111, 116, 111, 95, 95]) = true := (proto_beq _).trans (decide_eq_true hp)
            clear hp hu
            go_wp2
            go_returns
            exact ⟨HW.out, .inr (.inl ⟨rfl, rfl⟩)⟩
          · have tp : ((T k).toList == [95, 95, 112, 114, 111, 116, 111, 95, 95]) = false := (proto_beq _).trans (decide_eq_false hp)
            obtain ⟨w2, r2, o2, gr2⟩ := hu _ (Good.str (T k) hp)
            have HM2 := Lib.hid o2
            have HH2 := Lib.hid (has_put HH.out HM.out.isMap (.held (.iface 9 (.string (T k)))))
            have HW2 := Lib.hid (HW.out.grown gr2 HW.out.size (fun x hx => by cases hx; exact Nat.le_refl _))
            clear hu o2 gr2 hp
            go_wp2
            go_roundw
            case rel => exact ⟨k + 1, _, by omega, by go_num, HM2, HH2, HW2⟩
            case measure => simp [intOf]; omega
        · have q4 : decide ((k : Int) < (m : Int)) = false := decide_eq_false (by omega)
          have q5 : decide (k < m) = false := decide_eq_false hy
          obtain ⟨w2, r2, o2, gr2⟩ := hu _ (Good.str ⟨#[]⟩ (by unfold protoS; simp))
          have HM2 := Lib.hid o2
          have HH2 := Lib.hid (has_put HH.out HM.out.isMap (.held (.iface 9 (.string ⟨#[]⟩))))
          have HW2 := Lib.hid (HW.out.grown gr2 HW.out.size (fun x hx => by cases hx; exact Nat.le_refl _))
          clear hu o2 gr2
          go_wp2
          go_roundw
          case rel => exact ⟨k + 1, _, by omega, by go_num, HM2, HH2, HW2⟩
          case measure => simp [intOf]; omega
    · have z0 : decide (k < n) = false := decide_eq_false (by omega)
      obtain rfl : k = n := by omega
      go_wp2
      go_returns
      exact ⟨HW.out, .inr (.inr ⟨_, D, rfl, rfl, Nat.le_refl _, HM.out, HH.out⟩)⟩
end Go.Proofs.YtkliapmijogfeaaFmt.Gb
