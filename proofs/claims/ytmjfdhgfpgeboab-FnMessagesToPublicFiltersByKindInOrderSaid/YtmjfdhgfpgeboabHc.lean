/-
  Contracts: a location as the public one. Conditions: none.
-/
import Derived.Test.YtmjfdhgfpgeboabHa
import Derived.Test.YtmjfdhgfpgeboabHo
import Derived.Deep.RegionHeld3
import Derived.Deep.CutRange
namespace Go.Proofs.Ytmjfdhgfpgeboab.Hc
open Go.RowKit Go.PlainAid Mem Ha Ho
set_option linter.unusedVariables false
set_option linter.unusedSimpArgs false

/-- the path style as a number -/
def stI (ab : Bool) : Int := if ab then 1 else 0
structure LD where
  a : ByteArray
  r : ByteArray
  ns : ByteArray
  lt : ByteArray
  sg : ByteArray
  ln : Int
  cl : Int
  le : Int
def LD.c50 (d : LD) : Array Value := #[.string d.a, .string d.r, .string d.ns, .string d.lt, .string d.sg, .int .i64 d.ln, .int .i64 d.cl, .int .i64 d.le]
def LD.file (d : LD) (ab : Bool) : ByteArray := if ab then d.a else d.r
def LD.c40 (ab : Bool) (d : LD) : Array Value := #[.string (d.file ab), .string d.ns, .int .i64 d.ln, .int .i64 d.cl, .int .i64 d.le, .string d.lt, .string d.sg]

def S50 (p : Nat) (d : LD) (W : World) : Prop :=
  Own W p 50 d.c50 ∧ W.cell? ⟨p, 0, none⟩ = some (.string d.a) ∧ W.cell? ⟨p, 1, none⟩ = some (.string d.r) ∧ W.cell? ⟨p, 2, none⟩ = some (.string d.ns) ∧ W.cell? ⟨p, 3, none⟩ = some (.string d.lt) ∧ W.cell? ⟨p, 4, none⟩ = some (.string d.sg) ∧
  W.cell? ⟨p, 5, none⟩ = some (.int .i64 d.ln) ∧ W.cell? ⟨p, 6, none⟩ = some (.int .i64 d.cl) ∧ W.cell? ⟨p, 7, none⟩ = some (.int .i64 d.le)
theorem sOf {p : Nat} {d : LD} {W : World} (h : Own W p 50 d.c50) : S50 p d W := ⟨h, (h.cell 0).trans rfl, (h.cell 1).trans rfl, (h.cell 2).trans rfl, (h.cell 3).trans rfl, (h.cell 4).trans rfl, (h.cell 5).trans rfl, (h.cell 6).trans rfl, (h.cell 7).trans rfl⟩

theorem sel19 (p : Nat) (d : LD) (ab : Bool) (w : World) (h : Own w p 50 d.c50) : Calls Try.prog 19 #[.pointer (some ⟨p, 0, none⟩), .int .u8 (stI ab)] w fun e w' => e = .returned (.string (d.file ab)) ∧ w = w' := by
  obtain ⟨_, c0, c1, _⟩ := sOf h
  clear h
  unfold LD.file
  cases ab
  · show Calls Try.prog 19 #[_, .int .u8 0] w _
    go_enter Try.func19, Try.ntmps19
    go_wp2
    go_ret
    exact ⟨rfl, rfl⟩
  · show Calls Try.prog 19 #[_, .int .u8 1] w _
    go_enter Try.func19, Try.ntmps19
    go_wp2
    go_ret
    exact ⟨rfl, rfl⟩

def Conv (ab : Bool) (L : Option LD) (w : World) (e : Ending) (w' : World) : Prop := (∃ a, e = .returned (.pointer a) ∧ Lc w' 40 a (L.map (LD.c40 ab))) ∧ Below w.heap.size w w'
theorem conv17n (ab : Bool) (w : World) : Calls Try.prog 17 #[.pointer none, .int .u8 (stI ab)] w (Conv ab none w) := by
  go_enter Try.func17, Try.ntmps17
  go_wp2
  go_ret
  exact ⟨⟨_, rfl, .inl ⟨rfl, rfl⟩⟩, Below.refl _ _⟩
set_option maxRecDepth 100000 in
set_option maxHeartbeats 1000000 in
theorem conv17s (p : Nat) (d : LD) (ab : Bool) (w : World) (h : Own w p 50 d.c50) : Calls Try.prog 17 #[.pointer (some ⟨p, 0, none⟩), .int .u8 (stI ab)] w (Conv ab (some d) w) := by
  have H := Lib.hid h
  clear h
  go_enter Try.func17, Try.ntmps17
  go_upto_region 2 with fail
  go_region_held3 (fun W => Own W p 50 d.c50 ∧ W.cell? ⟨p, 0, none⟩ = some (.string d.a) ∧ W.cell? ⟨p, 1, none⟩ = some (.string d.r) ∧ W.cell? ⟨p, 2, none⟩ = some (.string d.ns) ∧ W.cell? ⟨p, 3, none⟩ = some (.string d.lt) ∧ W.cell? ⟨p, 4, none⟩ = some (.string d.sg) ∧
      W.cell? ⟨p, 5, none⟩ = some (.int .i64 d.ln) ∧ W.cell? ⟨p, 6, none⟩ = some (.int .i64 d.cl) ∧ W.cell? ⟨p, 7, none⟩ = some (.int .i64 d.le))
    (first | assumption | exact sOf (Own.drew H.out) | exact sOf (Own.alloc (And.left (by assumption)) _))
    ((go_at_call 19; refine (sel19 p d ab _ (And.left (by assumption))).mono ?_; rintro e w1 ⟨rfl, rfl⟩))
  go_wp2_with fail
  go_ret
  exact ⟨⟨_, rfl, .inr ⟨_, _, rfl, rfl, Own.new _ _ _⟩⟩, by go_grown⟩
end Go.Proofs.Ytmjfdhgfpgeboab.Hc
