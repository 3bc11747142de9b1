/-
  Proved: the sum of lengths, the look-ups of the law and its loops: which keys were seen, what the given map holds, how many keys are new.
  Conditions: those that each theorem names as its hypotheses, and no others.
-/
import Derived.Test.YtobpghjknciobaeFmtMr
import Derived.Test.YtobpghjknciobaeFmtSz
import Derived.Deep.RegionLaw
namespace Go.Proofs.YtobpghjknciobaeFmt.Ms
open Go.RowKit Go.PlainAid Mem Ho Ml Mp Mq Mr Pg Lg Sz Go.Maps Go.WideMaps Go.WideShapes
set_option linter.unusedVariables false
set_option linter.unusedSimpArgs false
/-- The keys among the first strings. -/
def Ks (S : Nat → ByteArray) : Nat → List UInt8 → Bool
  | 0, _ => false
  | n + 1, s => Ks S n s || decide (s = (S n).data.toList)
theorem ks_succ (S : Nat → ByteArray) (n : Nat) (s : List UInt8) : Ks S (n + 1) s = (Ks S n s || decide (s = (S n).data.toList)) := rfl
theorem ks_at (S : Nat → ByteArray) {j n : Nat} (h : j < n) : Ks S n (S j).data.toList = true := by
  induction n with
  | zero => omega
  | succ n ih =>
    rw [ks_succ]
    by_cases e : j = n
    · subst e; simp
    · rw [ih (by omega)]; rfl
theorem ks_same {S : Nat → ByteArray} {n : Nat} (h : Ks S n (S n).data.toList = true) (s : List UInt8) : Ks S (n + 1) s = Ks S n s := by
  rw [ks_succ]
  by_cases e : s = (S n).data.toList
  · rw [e, h]; rfl
  · rw [decide_eq_false e, Bool.or_false]
theorem look29 {w : World} {b n : Nat} {D : DV} {s : ByteArray} {v : Value} (h : Om w b n D) (hs : s.size ≤ maxLen) (ha : D.atKey (.string s.data.toList) (.held (.int .u8 0)) = .held v) :
    (Instr.lookup 29 (.map (some b)) (.string s) true).run Tryf.prog w = .ok (.tuple #[v, .bool (has D (.string s.data.toList))]) w := by
  obtain ⟨x, ps, hr, hx⟩ := h.look_ok lawK Tryf.underlying29 (Tryf.zeroValue33 w) (zd := .held (.int .u8 0)) (zp := []) rfl (keyS s hs)
  rw [ha] at hx
  simp only [Mvs.RV, Option.some.injEq, Prod.mk.injEq, DataW.held.injEq] at hx
  obtain ⟨rfl, _⟩ := hx
  exact hr
theorem look27 {w : World} {b n : Nat} {D : DV} {s : ByteArray} {v : Value} (h : Om w b n D) (hs : s.size ≤ maxLen) (ha : ∀ zd, D.atKey (.string s.data.toList) zd = .held v) :
    (Instr.lookup 27 (.map (some b)) (.string s) false).run Tryf.prog w = .ok v w := by
  obtain ⟨x, ps, hr, hx⟩ := h.lookup lawK Tryf.underlying27 (Tryf.zeroValue28 w) (zd := _) (zp := []) rfl (keyS s hs)
  rw [ha] at hx
  simp only [Mvs.RV, Option.some.injEq, Prod.mk.injEq, DataW.held.injEq] at hx
  obtain ⟨rfl, _⟩ := hx
  exact hr
/-- The set that the law keeps of the keys it has seen. -/
def Seen (D : DV) (p : List UInt8 → Bool) : Prop := ∀ s, D.atKey (.string s) (.held (.bool false)) = .held (.bool (p s))
theorem Seen.start : Seen (.map []) (fun _ => false) := fun s => rfl
theorem Seen.put {D : DV} {S : Nat → ByteArray} {n : Nat} (h : Seen D (Ks S n)) (hm : IsMap D) : Seen (D.put (.string (S n).data.toList) (.held (.bool true))) (Ks S (n + 1)) := fun s => by
  rw [ks_succ]
  by_cases e : s = (S n).data.toList
  · subst e
    rw [atKey_put_same (k := .string _) hm trivial]
    simp
  · rw [atKey_put_other (by simp; exact e), h s, decide_eq_false e, Bool.or_false]
theorem look32 {w : World} {b n : Nat} {D : DV} {p : List UInt8 → Bool} {s : ByteArray} (h : Om w b n D) (hs : s.size ≤ maxLen) (ha : Seen D p) :
    (Instr.lookup 32 (.map (some b)) (.string s) false).run Tryf.prog w = .ok (.bool (p s.data.toList)) w := by
  obtain ⟨x, ps, hr, hx⟩ := h.lookup lawK Tryf.underlying32 (Tryf.zeroValue4 w) (zd := _) (zp := []) rfl (keyS s hs)
  rw [ha s.data.toList] at hx
  simp only [Mvs.RV, Option.some.injEq, Prod.mk.injEq, DataW.held.injEq] at hx
  obtain ⟨rfl, _⟩ := hx
  exact hr
theorem hint27 (n : Int) (w : World) : (Instr.makeMap 27 (some (.int .i64 n))).run Tryf.prog w = .ok (.map (some w.heap.size)) (w.alloc (.map #[] 0)) := by
  simp [Instr.makeMap, run_underlying Tryf.underlying27, asInt, newObj, Sem.run, Result.andThen]
  rfl
theorem hint32 (n : Int) (w : World) : (Instr.makeMap 32 (some (.int .i64 n))).run Tryf.prog w = .ok (.map (some w.heap.size)) (w.alloc (.map #[] 0)) := by
  simp [Instr.makeMap, run_underlying Tryf.underlying32, asInt, newObj, Sem.run, Result.andThen]
  rfl
/-- What the loop that fills `in` keeps. -/
structure InOf (D : DV) (S : Nat → ByteArray) (n : Nat) : Prop where
  has : ∀ s, has D (.string s) = Ks S n s
  good : GoodIn D
theorem InOf.start (S : Nat → ByteArray) : InOf (.map []) S 0 := ⟨fun s => rfl, fun s h => by cases h⟩
theorem InOf.put {D : DV} {S : Nat → ByteArray} {n : Nat} (h : InOf D S n) (hm : IsMap D) (hs : (S n).size ≤ 1048576) {z : Int} (h0 : 0 ≤ z) (h1 : z ≤ 16) : InOf (D.put (.string (S n).data.toList) (.held (.int .u16 z))) S (n + 1) := by
  refine ⟨fun s => ?_, fun s hs' => ?_⟩
  · rw [ks_succ]
    by_cases e : s = (S n).data.toList
    · subst e
      rw [has_put_same (k := .string _) hm trivial]
      simp
    · rw [has_put_other (by simp; exact e), h.has s, decide_eq_false e, Bool.or_false]
  · by_cases e : s = (S n).data.toList
    · subst e
      refine ⟨by simpa using hs, z, h0, h1, fun zd => atKey_put_same (k := .string _) hm trivial _ _⟩
    · rw [has_put_other (by simp; exact e)] at hs'
      obtain ⟨a, z', b, c, d⟩ := h.good s hs'
      exact ⟨a, z', b, c, fun zd => by rw [atKey_put_other (by simp; exact e)]; exact d zd⟩
/-- The loop over the extensions. -/
structure Seek (X G : DV) (S : Nat → ByteArray) (n : Nat) : Prop where
  sX : SetOf X (fun s => Ks S n s && !Maps.has base (.string s))
  sG : SetOf G (fun s => Ks S n s && badL s)
theorem Seek.start (S : Nat → ByteArray) : Seek (.map []) (.map []) S 0 := ⟨SetOf.start.congr fun s => rfl, SetOf.start.congr fun s => rfl⟩
theorem Seek.same {X G : DV} {S : Nat → ByteArray} {n : Nat} (h : Seek X G S n) (hk : Ks S n (S n).data.toList = true) : Seek X G S (n + 1) :=
  ⟨h.sX.congr fun s => by rw [ks_same hk], h.sG.congr fun s => by rw [ks_same hk]⟩
theorem SetOf.more {X : DV} {S : Nat → ByteArray} {n : Nat} {f : List UInt8 → Bool} (h : SetOf X (fun s => Ks S n s && f s)) (hk : Ks S n (S n).data.toList = false) :
    ∃ X', SetOf X' (fun s => Ks S (n + 1) s && f s) ∧ size X' = size X + (if f (S n).data.toList then 1 else 0) := by
  cases hf : f (S n).data.toList
  · refine ⟨X, h.congr fun s => ?_, rfl⟩
    rw [ks_succ]
    by_cases e : s = (S n).data.toList
    · subst e; rw [hf, Bool.and_false, Bool.and_false]
    · rw [decide_eq_false e, Bool.or_false]
  · obtain ⟨a, b⟩ := h.add (s := (S n).data.toList) (p' := fun s => Ks S (n + 1) s && f s) (by rw [hk]; rfl) (fun r => by
      rw [ks_succ]
      by_cases e : r = (S n).data.toList
      · subst e; rw [hf]; simp
      · rw [decide_eq_false e]; simp)
    exact ⟨_, a, b⟩
theorem Seek.more {X G : DV} {S : Nat → ByteArray} {n : Nat} (h : Seek X G S n) (hk : Ks S n (S n).data.toList = false) :
    ∃ X' G', Seek X' G' S (n + 1) ∧ size X' = size X + (if (!Maps.has base (.string (S n).data.toList)) then 1 else 0) ∧ size G' = size G + (if badL (S n).data.toList then 1 else 0) := by
  obtain ⟨X', a, b⟩ := SetOf.more h.sX hk
  obtain ⟨G', c, d⟩ := SetOf.more h.sG hk
  exact ⟨X', G', ⟨a, c⟩, b, d⟩
/-- The end. -/
theorem Seek.fin {X G D0 E : DV} {S : Nat → ByteArray} {n m : Nat} (h : Seek X G S n) (hI : InOf D0 S n) (hF : Fin base D0 E badL m) : size E = size base + size X ∧ m = size G := by
  obtain ⟨X', hX', hE⟩ := hF.sE
  obtain ⟨G', hG', hm⟩ := hF.sG
  refine ⟨by rw [hE, hX'.size_eq (h.sX.congr fun s => by rw [hI.has])], by rw [← hm, hG'.size_eq (h.sG.congr fun s => by rw [hI.has])]⟩
theorem base_at (s : List UInt8) : ∃ z : Int, base.atKey (.string s) (.held (.int .u8 0)) = .held (.int .u8 z) := by
  unfold base
  have step : ∀ (D : DV) (k : List UInt8) (z : Int), IsMap D → (∃ y : Int, D.atKey (.string s) (.held (.int .u8 0)) = .held (.int .u8 y)) → ∃ y : Int, (D.put (.string k) (.held (.int .u8 z))).atKey (.string s) (.held (.int .u8 0)) = .held (.int .u8 y) := fun D k z hm ⟨y, hy⟩ => by
    by_cases e : s = k
    · subst e; exact ⟨z, atKey_put_same (k := .string _) hm trivial _ _⟩
    · exact ⟨y, by rw [atKey_put_other (by simp; exact e)]; exact hy⟩
  have m0 : IsMap (.map [] : DV) := ⟨_, rfl⟩
  have mp : ∀ (D : DV) (k : Lit) (d : DV), IsMap D → IsMap (D.put k d) := fun D k d ⟨es, h⟩ => by subst h; exact ⟨_, rfl⟩
  refine step _ _ _ (by repeat' (first | exact m0 | apply mp)) ?_
  refine step _ _ _ (by repeat' (first | exact m0 | apply mp)) ?_
  refine step _ _ _ (by repeat' (first | exact m0 | apply mp)) ?_
  refine step _ _ _ (by repeat' (first | exact m0 | apply mp)) ?_
  refine step _ _ _ (by repeat' (first | exact m0 | apply mp)) ?_
  refine step _ _ _ (by repeat' (first | exact m0 | apply mp)) ?_
  refine step _ _ _ (by repeat' (first | exact m0 | apply mp)) ?_
  refine step _ _ _ (by repeat' (first | exact m0 | apply mp)) ?_
  refine step _ _ _ (by repeat' (first | exact m0 | apply mp)) ?_
  refine step _ _ _ (by repeat' (first | exact m0 | apply mp)) ?_
  refine step _ _ _ (by repeat' (first | exact m0 | apply mp)) ?_
  refine step _ _ _ (by repeat' (first | exact m0 | apply mp)) ?_
  refine step _ _ _ (by repeat' (first | exact m0 | apply mp)) ?_
  exact ⟨0, rfl⟩
set_option maxRecDepth 100000 in
theorem sum5 (A : Option Addr) (n c : Nat) (S : Nat → ByteArray) (w : World) (hA : Rd w w.heap.size 1 A n (fun j => .string (S j))) (hn : n ≤ 1048576) (hS : ∀ j, j < n → (S j).size ≤ 1048576) :
    Calls Tryf.prog 5 #[.slice A n c] w fun e w' => (∃ v : Nat, e = .returned (.int .i64 v) ∧ 8 * n ≤ v ∧ v ≤ 1099600000000) ∧ w = w' := by
  have HA := Lib.hid hA
  have HS := Lib.hid hS
  clear hA hS
  go_enter Tryf.func5, Tryf.ntmps5
  go_wp2
  go_loop [3, 4] (fun z i => ∃ k v : Nat, k ≤ n ∧ i = .int .i64 k ∧ z = .int .i64 v ∧ 8 * n ≤ v ∧ v ≤ 8 * n + k * 1048576) (fun _ i => n - (intOf i).toNat)
  case atStart => exact ⟨0, 8 * n, by omega, rfl, by rw [Int.natCast_mul]; rfl, by omega, by omega⟩
  case round =>
    obtain ⟨k, v, hk, rfl, rfl, hv, hv2⟩ := hrel
    by_cases hlt : k < n
    · obtain ⟨b, off, rfl, hb, hc⟩ := HA.out (by omega)
      have hck := hc k (by omega)
      have hsk := HS.out k hlt
      clear hc
      go_wp2
      go_round
      case rel => exact ⟨k + 1, v + (S k).size, by omega, by go_num, by go_num, by omega, by omega⟩
      case measure => simp [intOf]; omega
    · obtain rfl : n = k := by omega
      clear hlt
      go_wp2
      go_ret
      exact ⟨⟨v, rfl, hv, by omega⟩, rfl⟩
end Go.Proofs.YtobpghjknciobaeFmt.Ms
