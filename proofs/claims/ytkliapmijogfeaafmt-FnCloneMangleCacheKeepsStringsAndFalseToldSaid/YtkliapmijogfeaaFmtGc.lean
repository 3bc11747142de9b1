/-
  Contracts for the mangle cache: the clone of the map. Conditions: sizes alone.
-/
import Derived.Test.YtkliapmijogfeaaFmtGb
namespace Go.Proofs.YtkliapmijogfeaaFmt.Gc
open Go.RowKit Go.PlainAid Str Mem Sz Ga Gb Go.Maps Go.WideMaps Go.WideShapes
set_option linter.unusedVariables false

theorem cmp9 : (Tryf.prog.info? 9).map (·.comparable) = some true := by kernel_rfl
theorem cmp4 : (Tryf.prog.info? 4).map (·.comparable) = some true := by kernel_rfl
theorem run_eql_map_nil (W : World) (p : Option Nat) : (binOp .eql 28 (.map p) (.map none)).run Tryf.prog W = .ok (.bool p.isNone) W := by
  have h : ∀ d, (Op.equalIn (d + 1) 28 (.map p) (.map none)).run Tryf.prog W = .ok p.isNone W := fun d => by
    cases p <;> simp [Op.equalIn, run_underlying Tryf.underlying28]
  simp only [binOp]
  simp [Op.equal, Op.maxDepth, h 9999]
theorem bb (a b : ByteArray) : (a == b) = decide (a = b) := by
  rw [Bool.eq_iff_iff]
  cases a with | mk x =>
  cases b with | mk y =>
  show ((x == y) = true) ↔ _
  simp
theorem eqS (W : World) (a b : ByteArray) : (Op.equal 20 (.iface 9 (.string a)) (.iface 9 (.string b))).run Tryf.prog W = .ok (decide (a = b)) W := by
  obtain ⟨i, hi, hc⟩ : ∃ i, Tryf.prog.info? 9 = some i ∧ i.comparable = true := by
    have h := cmp9
    cases hi : Tryf.prog.info? 9 with
    | none => simp [hi] at h
    | some i => exact ⟨i, rfl, by simpa [hi] using h⟩
  have h : ∀ d : Nat, (Op.equalIn (d + 2) 20 (.iface 9 (.string a)) (.iface 9 (.string b))).run Tryf.prog W = .ok (decide (a = b)) W := fun d => by
    simp [Op.equalIn, run_underlying Tryf.underlying20, run_underlying Tryf.underlying9, typeInfo, hi, hc]
    exact bb a b
  exact h 9998
theorem eqF (W : World) : (Op.equal 20 (.iface 4 (.bool false)) (.iface 4 (.bool false))).run Tryf.prog W = .ok true W := by
  obtain ⟨i, hi, hc⟩ : ∃ i, Tryf.prog.info? 4 = some i ∧ i.comparable = true := by
    have h := cmp4
    cases hi : Tryf.prog.info? 4 with
    | none => simp [hi] at h
    | some i => exact ⟨i, rfl, by simpa [hi] using h⟩
  have h : ∀ d : Nat, (Op.equalIn (d + 2) 20 (.iface 4 (.bool false)) (.iface 4 (.bool false))).run Tryf.prog W = .ok true W := fun d => by
    simp [Op.equalIn, run_underlying Tryf.underlying20, run_underlying Tryf.underlying4, typeInfo, hi, hc]
  exact h 9998
theorem eqX (W : World) (b : ByteArray) : (Op.equal 20 (.iface 4 (.bool false)) (.iface 9 (.string b))).run Tryf.prog W = .ok false W := by
  have h : ∀ d : Nat, (Op.equalIn (d + 2) 20 (.iface 4 (.bool false)) (.iface 9 (.string b))).run Tryf.prog W = .ok false W := fun d => by
    simp [Op.equalIn, run_underlying Tryf.underlying20]
  exact h 9998
theorem asS (W : World) (s : ByteArray) : (Instr.typeAssert (.iface 9 (.string s)) 20 9 true).run Tryf.prog W = .ok (.tuple #[.string s, .bool true]) W := by
  simp [Instr.typeAssert, run_underlying Tryf.underlying9, go_sem, Result.andThen]
theorem asF (W : World) : (Instr.typeAssert (.iface 4 (.bool false)) 20 9 true).run Tryf.prog W = .ok (.tuple #[.string ⟨#[]⟩, .bool false]) W := by
  simp [Instr.typeAssert, run_underlying Tryf.underlying9, go_sem, Result.andThen, Tryf.zeroValue9]
theorem b_eql (W : World) (t u : TypeId) (x y : Value) (r : Bool) (h : (Op.equal 20 (.iface t x) (.iface u y)).run Tryf.prog W = .ok r W) : (binOp .eql 20 (.iface t x) (.iface u y)).run Tryf.prog W = .ok (.bool r) W := by
  simp [binOp, h]
theorem b_neq (W : World) (t u : TypeId) (x y : Value) (r : Bool) (h : (Op.equal 20 (.iface t x) (.iface u y)).run Tryf.prog W = .ok r W) : (binOp .neq 20 (.iface t x) (.iface u y)).run Tryf.prog W = .ok (.bool (!r)) W := by
  simp [binOp, h]

def logZ : Array Value := #[.nilFunc, .nilFunc, .nilFunc, .nilFunc, .int .i8 0, .map none]
theorem size_le {w : World} {b n : Nat} {D : DataW Value} (h : Om w b n D) : Maps.size D ≤ n := by
  obtain ⟨es, clock, _, _, hs, rfl⟩ := h
  simpa [Maps.size, length_sorted] using hs

def Cloned (n : Nat) (D : DataW Value) (w : World) (e : Ending) (w' : World) : Prop :=
  ∃ b, e = .returned (.map (some b)) ∧ w.heap.size ≤ b ∧ Om w' b n D ∧ Below w.heap.size w w'

set_option maxRecDepth 100000 in
set_option maxHeartbeats 4000000 in
theorem clone10 (b n : Nat) (D : DataW Value) (w : World) (hM : Om w b n D) (hn : n ≤ 1048576) :
    Calls Tryf.prog 10 #[.agg logZ, .map (some b)] w (Cloned n D w) := by
  have hbl := hM.lt
  have hM1 := hM.alloc (.cells logZ 41)
  have hlen := fun ty => hM1.len Tryf.underlying28 ty
  have hh := run_hint (Maps.size D : Int)
  have hM2 := hM1.alloc (.map #[] 0)
  have hO2 : Om ((w.alloc (.cells logZ 41)).alloc (.map #[] 0)) (w.heap.size + 1) 0 (.map []) := by
    have h := World.ownsMap_made (w.alloc (.cells logZ 41)) Tryf.prog 9 RG
    simpa using h
  obtain ⟨w1, r1, hr, g1, z1⟩ := hM2.range lawK Tryf.underlying28
  have hO := hO2.kept g1 (by simp)
  have hB : Below w.heap.size w w1 := ((((Below.refl w.heap.size w).alloc (Nat.le_refl _) (.cells logZ 41)).alloc (by simp) (.map #[] 0)).grown g1 (by simp; omega) (fun x hx => by cases hx))
  have hsz := size_le hM
  have er : ((w.alloc (.cells logZ 41)).alloc (.map #[] 0)).heap.size = w.heap.size + 1 + 1 := by simp
  rw [er] at hr r1
  have HR := Lib.hid hr
  have HO := Lib.hid hO
  have HB := Lib.hid hB
  have HZ := Lib.hid hsz
  clear hr hO hB hsz hM1 hM2 hO2 hM g1 z1 er
  unfold logZ at hlen r1
  unfold logZ
  have hmn := fun W => run_eql_map_nil W (some b)
  go_enter Tryf.func10, Tryf.ntmps10
  go_wp2
  clear hlen hh hmn r1
  go_loopw [17] (fun x wr => ∃ (k : Nat) (E : DataW Value) (left : Lit → Bool) (cnt : Nat), k + cnt ≤ n ∧ Hid (wr.ranges Tryf.prog 9 RG b (w.heap.size + 1 + 1) n D left cnt) ∧ Hid (Om wr (w.heap.size + 1) k E) ∧ Hid (Agree E D left) ∧ Hid (Below w.heap.size w wr)) (fun _ wr => wr.rangeLeft b (w.heap.size + 1 + 1))
  case atStart => exact ⟨0, _, _, _, by have := HZ.out; omega, HR, HO, Lib.hid (agree_start D), HB⟩
  case round =>
    clear HR HO HB HZ
    obtain ⟨k, E, left, cnt, hk, HR, HO, HA, HB⟩ := hrel
    obtain ⟨wo, rfl⟩ : ∃ wo : World, wo = wr := ⟨_, rfl⟩
    have hm0 := HR.out.left_eq
    rcases HR.out.next lawK 0 with ⟨h0, hl, hrun⟩ | ⟨key, v, kl, y, w2, cnt', hkey, hlk, hv, hat, hrun, hrg, hlt, hgr, hsz, hen⟩
    · have HE := Lib.hid (agree_end HA.out hl (HO.out.canon lawK) (HR.out.owns.canon lawK))
      have HO2 := Lib.hid (HO.out.mono (n' := n) (by omega))
      clear HR HO HA hl hm0
      go_wp2
      go_ret
      exact ⟨_, rfl, by omega, by have := HO2.out; rw [HE.out] at this; exact this, HB.out⟩
    · obtain ⟨s, rfl, hs, rfl⟩ := key_inv hkey
      obtain ⟨hg, rfl⟩ := RG_inv hv
      have hO2 := HO.out.kept hgr (by simp)
      obtain ⟨w3, r3, o3, g3⟩ := hO2.update lawK Tryf.underlying28 (by unfold maxLen; omega) (keyOf_string_mk Tryf.underlying9 hs) (RG_mk hg)
      have HR3 := Lib.hid (hrg.kept g3 (by simp <;> omega) (by simp <;> omega))
      have HO3 := Lib.hid o3
      have HA3 := Lib.hid (agree_step HA.out HO.out.isMap (kl := .string s.data.toList) trivial hat)
      have HB3 := Lib.hid ((HB.out.grown hgr HB.out.size (fun x hx => by cases hx; omega)).grown g3 (Nat.le_trans HB.out.size hgr.size) (fun x hx => by cases hx; omega))
      have hm1 := HR3.out.left_eq
      clear hrg hO2 o3 g3 hat hlk hkey hv hgr hsz HR HO HA HB
      cases hg with
      | str u hu =>
        have c1 := b_eql w2 9 9 _ _ _ ((eqS w2 u protoS).trans (by rw [decide_eq_false hu]))
        have c2 := asS w2 u
        unfold protoS at c1
        clear hu
        go_wp2
        go_roundw
        case rel => exact ⟨k + 1, _, _, cnt', by omega, HR3, HO3, HA3, HB3⟩
        case measure => rw [hm0, hm1]; exact hlt
      | no =>
        have c1 := b_eql w2 4 9 _ _ _ (eqX w2 protoS)
        have c2 := asF w2
        have c3 := b_eql w2 4 4 _ _ _ (eqF w2)
        unfold protoS at c1
        go_wp2
        go_roundw
        case rel => exact ⟨k + 1, _, _, cnt', by omega, HR3, HO3, HA3, HB3⟩
        case measure => rw [hm0, hm1]; exact hlt

set_option maxRecDepth 100000 in
set_option maxHeartbeats 4000000 in
theorem clone10n (w : World) : Calls Tryf.prog 10 #[.agg logZ, .map none] w fun e w' => e = .returned (.map none) ∧ Below w.heap.size w w' := by
  have hmn := fun W => run_eql_map_nil W none
  unfold logZ
  go_enter Tryf.func10, Tryf.ntmps10
  go_wp2
  go_ret
  exact ⟨rfl, by go_grown⟩

set_option maxRecDepth 100000 in
theorem clone9 (b n : Nat) (D : DataW Value) (w : World) (hM : Om w b n D) (hn : n ≤ 1048576) :
    Calls Tryf.prog 9 #[.map (some b)] w (Cloned n D w) := by
  have HC := Lib.hid (clone10 b n D w hM hn)
  clear hM
  go_enter Tryf.func9, Tryf.ntmps9
  go_wp2_with fail
  refine HC.out.mono ?_
  rintro e w' ⟨b', rfl, h⟩
  go_wp2_with fail
  go_ret
  exact ⟨b', rfl, h⟩

set_option maxRecDepth 100000 in
theorem clone9n (w : World) : Calls Tryf.prog 9 #[.map none] w fun e w' => e = .returned (.map none) ∧ Below w.heap.size w w' := by
  have HC := Lib.hid (clone10n w)
  go_enter Tryf.func9, Tryf.ntmps9
  go_wp2_with fail
  refine HC.out.mono ?_
  rintro e w' ⟨rfl, h⟩
  go_wp2_with fail
  go_ret
  exact ⟨rfl, h⟩

theorem look_has {w : World} {b n : Nat} {D : DataW Value} {s : ByteArray} (h : Om w b n D) (hh : has D (keyL s) = true) (hs : s.size ≤ maxLen) (c : Bool) :
    ∃ v, Gb.Good v ∧ (∀ zd, D.atKey (keyL s) zd = .held v) ∧ (Instr.lookup 28 (.map (some b)) (.string s) c).run Tryf.prog w = .ok (if c then .tuple #[v, .bool true] else v) w := by
  obtain ⟨es, clock, hb, F, _, rfl⟩ := h
  rcases Maps.fit_look c lawK Tryf.underlying28 (Tryf.zeroValue20 w) hb F (keyOf_string_mk Tryf.underlying9 hs) with ⟨_, _, hat⟩ | ⟨e0, y, _, _, hrun, hRv, hat, _⟩
  · have := has_false_of_atKey hat
    unfold keyL at hh
    rw [this] at hh
    cases hh
  · obtain ⟨hg, rfl⟩ := RG_inv hRv
    exact ⟨e0.val, hg, hat, hrun⟩

/-- Two maps that read alike give one value at a key that they hold. -/
theorem look_two {w : World} {b b' n : Nat} {D : DataW Value} {s : ByteArray} (h : Om w b n D) (h' : Om w b' n D) (hh : has D (keyL s) = true) (hs : s.size ≤ maxLen) :
    ∃ v, Gb.Good v ∧ (Instr.lookup 28 (.map (some b)) (.string s) true).run Tryf.prog w = .ok (.tuple #[v, .bool true]) w ∧ (Instr.lookup 28 (.map (some b')) (.string s) false).run Tryf.prog w = .ok v w ∧ (binOp .neq 20 v v).run Tryf.prog w = .ok (.bool false) w := by
  obtain ⟨v, g, ha, hr⟩ := Gc.look_has h hh hs true
  obtain ⟨v', g', ha', hr'⟩ := look_has h' hh hs false
  obtain rfl : v = v' := by
    have := (ha .nil).symm.trans (ha' .nil)
    simpa using this
  refine ⟨v, g, hr, hr', ?_⟩
  cases g with
  | str u hu => exact b_neq w 9 9 _ _ true ((eqS w u u).trans (by simp))
  | no => exact b_neq w 4 4 _ _ true (eqF w)
end Go.Proofs.YtkliapmijogfeaaFmt.Gc
