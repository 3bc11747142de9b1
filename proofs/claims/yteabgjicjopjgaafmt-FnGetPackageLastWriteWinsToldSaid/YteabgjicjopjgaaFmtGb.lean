/-
  Contracts for the registry law: the new registry, its two writers and its reader. Conditions: sizes alone.
-/
import Derived.Test.YteabgjicjopjgaaFmtGa
import Derived.Deep.AppendLies
namespace Go.Proofs.YteabgjicjopjgaaFmt.Gb
open Go.RowKit Go.PlainAid Mem Mvs Sz Ga
set_option linter.unusedVariables false

theorem grown_trans {w w1 w2 : World} {row : Option Nat} (h : w.grownBy w1 row) (k : w1.grownBy w2 row) : w.grownBy w2 row := by
  obtain ⟨a1, a2, a3, a4, a5⟩ := h
  obtain ⟨b1, b2, b3, b4, b5⟩ := k
  exact ⟨b1.trans a1, b2.trans a2, b3.trans a3, Nat.le_trans a4 b4, fun i hi hr => (b5 i (Nat.lt_of_lt_of_le hi a4) hr).trans (a5 i hi hr)⟩

theorem new_cell (w : World) (t : TypeId) (cs : Array Value) (g i : Nat) (hg : g = w.heap.size) : (w.alloc (.cells cs t)).cell? ⟨g, i, none⟩ = cs[i]? := by
  rw [hg]; exact (Own.new w t cs).cell i

/-- The registry's outer map, an inner map. -/
abbrev Mo (w : World) (b n : Nat) (f : ByteArray → Option Value) : Prop := Mf Tryf.prog 9 w b n f
def pkg0 : Array Value := #[.map none, .string ⟨#[]⟩, .int .i32 0, .int .i32 0, .bool false]

/-- The registry at block g with the outer map b. -/
def Reg (w : World) (g b : Nat) : Prop := w.cell? ⟨g, 4, none⟩ = some (.map (some b))

def NewReg (w : World) (e : Ending) (w' : World) : Prop :=
  ∃ g b : Nat, e = .returned (.pointer (some ⟨g, 0, none⟩)) ∧ Mo w' b 0 (fun _ => none) ∧ Reg w' g b ∧ w.heap.size ≤ g ∧ w.heap.size ≤ b ∧ b ≠ g ∧ g < w'.heap.size ∧ Below w.heap.size w w'

set_option maxRecDepth 100000 in
set_option maxHeartbeats 1000000 in
theorem new_any (w : World) : Calls Tryf.prog 9 #[] w (NewReg w) := by
  have hmm := @run_makeMap Tryf.prog
  go_enter Tryf.func9, Tryf.ntmps9
  go_wp2
  go_ret
  refine ⟨w.heap.size + 1 + 1, w.heap.size, rfl, ((Mf.made Tryf.prog 9 w).alloc _).alloc _, ?_, by omega, by omega, by omega, by simp, by go_grown⟩
  exact (new_cell _ _ _ _ 4 (by simp)).trans rfl

def PutI (w : World) (b n : Nat) (f : ByteArray → Option Value) (s : ByteArray) (e : Ending) (w' : World) : Prop :=
  e = .returned (.tuple #[]) ∧ Mo w' b (n + 1) (fun r => if r = s then some (.map (some w.heap.size)) else f r) ∧ Mo w' w.heap.size 0 (fun _ => none) ∧ w.heap.size + 1 ≤ w'.heap.size ∧ w.grownBy w' (some b)

set_option maxRecDepth 100000 in
set_option maxHeartbeats 1000000 in
theorem put10 (g b n : Nat) (f : ByteArray → Option Value) (s : ByteArray) (w : World) (hR : Reg w g b) (hM : Mo w b n f) (hn : n < maxLen) (hs : s.size ≤ maxLen) :
    Calls Tryf.prog 10 #[.pointer (some ⟨g, 0, none⟩), .string s] w (PutI w b n f s) := by
  have hmm := @run_makeMap Tryf.prog
  obtain ⟨w1, r1, m1, g1⟩ := (hM.alloc (.map #[] 0)).update Tryf.underlying9 Tryf.underlying34 hn hs (.map (some w.heap.size))
  have hlt := hM.lt
  have hc : w.cell? ⟨g, 4, none⟩ = some (.map (some b)) := hR
  have hi := (Mf.made Tryf.prog 9 w).kept g1 (by simp; omega)
  have hg := grown_trans (World.grownBy_alloc w (.map #[] 0) (some b)) g1
  have hsz : w.heap.size + 1 ≤ w1.heap.size := by
    have := g1.size
    simpa using this
  have HM := Lib.hid m1
  have HI := Lib.hid hi
  have HG := Lib.hid hg
  clear m1 hi hg g1 hM
  go_enter Tryf.func10, Tryf.ntmps10
  go_wp2
  go_returns
  exact ⟨rfl, HM.out, HI.out, hsz, HG.out⟩

def pkgV (l : ByteArray) (d : Nat) : Value := .agg #[.map (some d), .string l, .int .i32 0, .int .i32 0, .bool false]
def PutP (w : World) (c m : Nat) (h : ByteArray → Option Value) (r l : ByteArray) (e : Ending) (w' : World) : Prop :=
  e = .returned (.tuple #[]) ∧ Mo w' c (m + 1) (fun x => if x = r then some (pkgV l w.heap.size) else h x) ∧ w'.heap[w.heap.size]? = some (.map #[] 0) ∧ w.heap.size + 1 ≤ w'.heap.size ∧ w.grownBy w' (some c)

set_option maxRecDepth 100000 in
set_option maxHeartbeats 1000000 in
theorem put11 (g b n c m : Nat) (f h : ByteArray → Option Value) (s r l : ByteArray) (w : World) (hR : Reg w g b) (hM : Mo w b n f) (hf : f s = some (.map (some c))) (hC : Mo w c m h) (hm : m < maxLen) (hs : s.size ≤ maxLen) (hr : r.size ≤ maxLen) :
    Calls Tryf.prog 11 #[.pointer (some ⟨g, 0, none⟩), .string s, .string r, .string l] w (PutP w c m h r l) := by
  have hmm := @run_makeMap Tryf.prog
  have hl := hM.look Tryf.underlying9 Tryf.underlying34 (Tryf.zeroValue45 w) hs
  rw [hf] at hl
  simp only [Option.getD_some] at hl
  obtain ⟨w1, r1, m1, g1⟩ := (hC.alloc (.map #[] 0)).update Tryf.underlying9 Tryf.underlying45 hm hr (pkgV l w.heap.size)
  have hlt := hC.lt
  have hc : w.cell? ⟨g, 4, none⟩ = some (.map (some b)) := hR
  have hi : w1.heap[w.heap.size]? = some (.map #[] 0) := (g1.block w.heap.size (by simp) (by simp; omega)).trans (MapKept.heap_alloc w _).1
  have hg := grown_trans (World.grownBy_alloc w (.map #[] 0) (some c)) g1
  have hsz : w.heap.size + 1 ≤ w1.heap.size := by
    have := g1.size
    simpa using this
  have HM := Lib.hid m1
  have HI := Lib.hid hi
  have HG := Lib.hid hg
  unfold pkgV at r1
  clear m1 hi hg g1 hM hC
  go_enter Tryf.func11, Tryf.ntmps11
  go_wp2
  go_returns
  exact ⟨rfl, HM.out, HI.out, hsz, HG.out⟩

def get13E (x : Option (ByteArray × Nat)) : Value :=
  match x with
  | some (l, d) => .tuple #[pkgV l d, .bool true]
  | none => .tuple #[.agg pkg0, .bool false]

set_option maxRecDepth 100000 in
set_option maxHeartbeats 1000000 in
/-- getPackage where the ident has an inner map and the reference a package. -/
theorem get13a (g b n c m : Nat) (f h : ByteArray → Option Value) (s r l : ByteArray) (d : Nat) (w : World) (hR : Reg w g b) (hM : Mo w b n f) (hf : f s = some (.map (some c))) (hC : Mo w c m h) (hh : h r = some (pkgV l d)) (hs : s.size ≤ maxLen) (hr : r.size ≤ maxLen) :
    Calls Tryf.prog 13 #[.agg #[.pointer none, .pointer none, .pointer none, .int .u8 0], .pointer (some ⟨g, 0, none⟩), .string s, .string r] w fun e w' => e = .returned (get13E (some (l, d))) ∧ Below w.heap.size w w' := by
  have hc : w.cell? ⟨g, 4, none⟩ = some (.map (some b)) := hR
  have hgl : g < w.heap.size := by
    rcases Nat.lt_or_ge g w.heap.size with h | h
    · exact h
    · simp [World.cell?, Array.getElem?_eq_none h] at hc
  have hl := ((hM.alloc (.cells #[.pointer none, .pointer none, .pointer none, .int .u8 0] 58)).alloc (.cells pkg0 51)).look_ok Tryf.underlying9 Tryf.underlying34 (Tryf.zeroValue45 _) hs
  rw [hf] at hl
  simp only [Option.getD_some, Option.isSome_some] at hl
  have hk := ((hC.alloc (.cells #[.pointer none, .pointer none, .pointer none, .int .u8 0] 58)).alloc (.cells pkg0 51)).look_ok Tryf.underlying9 Tryf.underlying45 (Tryf.zeroValue51 _) hr
  rw [hh] at hk
  simp only [Option.getD_some, Option.isSome_some] at hk
  unfold pkgV at hk
  unfold pkg0 at hl hk
  clear hM hC hR hf hh
  go_enter Tryf.func13, Tryf.ntmps13
  go_wp2
  go_returns
  exact ⟨rfl, by go_grown⟩

set_option maxRecDepth 100000 in
set_option maxHeartbeats 1000000 in
/-- getPackage where the ident has an inner map and the reference has no package. -/
theorem get13b (g b n c m : Nat) (f h : ByteArray → Option Value) (s r : ByteArray) (w : World) (hR : Reg w g b) (hM : Mo w b n f) (hf : f s = some (.map (some c))) (hC : Mo w c m h) (hh : h r = none) (hs : s.size ≤ maxLen) (hr : r.size ≤ maxLen) :
    Calls Tryf.prog 13 #[.agg #[.pointer none, .pointer none, .pointer none, .int .u8 0], .pointer (some ⟨g, 0, none⟩), .string s, .string r] w fun e w' => e = .returned (get13E none) ∧ Below w.heap.size w w' := by
  have hc : w.cell? ⟨g, 4, none⟩ = some (.map (some b)) := hR
  have hgl : g < w.heap.size := by
    rcases Nat.lt_or_ge g w.heap.size with h | h
    · exact h
    · simp [World.cell?, Array.getElem?_eq_none h] at hc
  have hl := ((hM.alloc (.cells #[.pointer none, .pointer none, .pointer none, .int .u8 0] 58)).alloc (.cells pkg0 51)).look_ok Tryf.underlying9 Tryf.underlying34 (Tryf.zeroValue45 _) hs
  rw [hf] at hl
  simp only [Option.getD_some, Option.isSome_some] at hl
  have hk := ((hC.alloc (.cells #[.pointer none, .pointer none, .pointer none, .int .u8 0] 58)).alloc (.cells pkg0 51)).look_ok Tryf.underlying9 Tryf.underlying45 (Tryf.zeroValue51 _) hr
  rw [hh] at hk
  simp only [Option.getD_none, Option.isSome_none] at hk
  unfold pkg0 at hl hk
  clear hM hC hR hf hh
  go_enter Tryf.func13, Tryf.ntmps13
  go_wp2
  go_returns
  exact ⟨rfl, by go_grown⟩

set_option maxRecDepth 100000 in
set_option maxHeartbeats 1000000 in
/-- getPackage where the ident has no inner map. -/
theorem get13c (g b n : Nat) (f : ByteArray → Option Value) (s r : ByteArray) (w : World) (hR : Reg w g b) (hM : Mo w b n f) (hf : f s = none) (hs : s.size ≤ maxLen) :
    Calls Tryf.prog 13 #[.agg #[.pointer none, .pointer none, .pointer none, .int .u8 0], .pointer (some ⟨g, 0, none⟩), .string s, .string r] w fun e w' => e = .returned (get13E none) ∧ Below w.heap.size w w' := by
  have hc : w.cell? ⟨g, 4, none⟩ = some (.map (some b)) := hR
  have hgl : g < w.heap.size := by
    rcases Nat.lt_or_ge g w.heap.size with h | h
    · exact h
    · simp [World.cell?, Array.getElem?_eq_none h] at hc
  have hl := ((hM.alloc (.cells #[.pointer none, .pointer none, .pointer none, .int .u8 0] 58)).alloc (.cells pkg0 51)).look_ok Tryf.underlying9 Tryf.underlying34 (Tryf.zeroValue45 _) hs
  rw [hf] at hl
  simp only [Option.getD_none, Option.isSome_none] at hl
  unfold pkg0 at hl
  clear hM hR hf
  go_enter Tryf.func13, Tryf.ntmps13
  go_wp2
  go_returns
  exact ⟨rfl, by go_grown⟩

/-- What the reader finds: none, or the location of a package without dependencies. -/
def Has (w : World) (f : ByteArray → Option Value) (s r : ByteArray) (x : Option ByteArray) : Prop :=
  (f s = none ∧ x = none) ∨ ∃ (c m : Nat) (h : ByteArray → Option Value), f s = some (.map (some c)) ∧ Mo w c m h ∧
    ((h r = none ∧ x = none) ∨ ∃ l d, h r = some (pkgV l d) ∧ w.heap[d]? = some (.map #[] 0) ∧ x = some l)

theorem get13 (g b n : Nat) (f : ByteArray → Option Value) (s r : ByteArray) (x : Option ByteArray) (w : World) (hR : Reg w g b) (hM : Mo w b n f) (hH : Has w f s r x) (hs : s.size ≤ maxLen) (hr : r.size ≤ maxLen) :
    Calls Tryf.prog 13 #[.agg #[.pointer none, .pointer none, .pointer none, .int .u8 0], .pointer (some ⟨g, 0, none⟩), .string s, .string r] w fun e w' =>
      ((x = none ∧ e = .returned (get13E none)) ∨ ∃ l d, x = some l ∧ e = .returned (get13E (some (l, d))) ∧ w'.heap[d]? = some (.map #[] 0)) ∧ Below w.heap.size w w' := by
  rcases hH with ⟨hf, rfl⟩ | ⟨c, m, h, hf, hC, ⟨hh, rfl⟩ | ⟨l, d, hh, hd, rfl⟩⟩
  · exact (get13c g b n f s r w hR hM hf hs).mono fun e w' ⟨h1, h2⟩ => ⟨.inl ⟨rfl, h1⟩, h2⟩
  · exact (get13b g b n c m f h s r w hR hM hf hC hh hs hr).mono fun e w' ⟨h1, h2⟩ => ⟨.inl ⟨rfl, h1⟩, h2⟩
  · have hd' : d < w.heap.size := (Array.getElem?_eq_some_iff.1 hd).1
    exact (get13a g b n c m f h s r l d w hR hM hf hC hh hs hr).mono fun e w' ⟨h1, h2⟩ => ⟨.inr ⟨l, d, rfl, h1, (h2.block d hd').trans hd⟩, h2⟩

theorem len_run (W : World) (d : Nat) (h : W.heap[d]? = some (.map #[] 0)) : (Builtin.len_ #[35] 3 #[.map (some d)]).run Tryf.prog W = .ok (.int .i64 0) W := by
  simp [Builtin.len_, run_underlying Tryf.underlying35, MapKept.run_getObj_map h, Result.andThen, goInt]

def GetE (w : World) (x : Option ByteArray) (e : Ending) (w' : World) : Prop :=
  e = .returned (.tuple #[.string (x.getD ⟨#[]⟩), .int .i64 0, .bool x.isSome]) ∧ Below w.heap.size w w'

set_option maxRecDepth 100000 in
set_option maxHeartbeats 1000000 in
theorem get12 (g b n : Nat) (f : ByteArray → Option Value) (s r : ByteArray) (x : Option ByteArray) (w : World) (hR : Reg w g b) (hM : Mo w b n f) (hH : Has w f s r x) (hs : s.size ≤ maxLen) (hr : r.size ≤ maxLen) :
    Calls Tryf.prog 12 #[.pointer (some ⟨g, 0, none⟩), .string s, .string r] w (GetE w x) := by
  have HG := get13 g b n f s r x w hR hM hH hs hr
  clear hR hM hH hs hr
  go_enter Tryf.func12, Tryf.ntmps12
  go_wp2_with fail
  refine HG.mono ?_
  rintro e w1 ⟨⟨rfl, rfl⟩ | ⟨l, d, rfl, rfl, hd⟩, hB⟩
  · unfold get13E pkg0
    have hB' := Lib.hid hB
    clear hB HG
    go_wp2_with fail
    go_ret3
    exact ⟨rfl, hB'.out.alloc hB'.out.size _⟩
  · unfold get13E pkgV
    have hB' := Lib.hid hB
    have hd1 : (w1.alloc (.cells #[.map (some d), .string l, .int .i32 0, .int .i32 0, .bool false] 51)).heap[d]? = some (.map #[] 0) := (Below.heap_alloc w1 _ d (Array.getElem?_eq_some_iff.1 hd).1).trans hd
    have hgo := len_run _ d hd1
    clear hB HG hd hd1
    go_wp2_with fail
    go_ret3
    exact ⟨rfl, hB'.out.alloc hB'.out.size _⟩
end Go.Proofs.YteabgjicjopjgaaFmt.Gb
