/-
  Proved: the types of the law's arguments are what the opening lemmas ask, and the start argument is two numbers below 2^32. Conditions: those that
  each theorem names as its hypotheses, and no others.
-/
import Derived.Test.YtmjfdhgfpgeboacFs
import Derived.Test.YtmjfdhgfpgeboacProg
namespace Go.Proofs.Ytmjfdhgfpgeboac.Ty
open Go.RowKit Go.ChangeShapes Go.WideShapes Go.Deep Mem Orw Fs
set_option maxRecDepth 1000000 in
noncomputable def tys : Fs.Tys Try.prog where
  b := 4
  u := 23
  d := 25
  ds := 104
  p := 106
  ps := 101
  f := 103
  fd := _
  fp := _
  ff := _
  hb := Try.underlying4
  hu := Try.underlying23
  hd := Try.underlying25
  hds := Try.underlying104
  hp := Try.underlying106
  hps := Try.underlying101
  hf := Try.underlying103
  cb := by kernel_rfl
  cu := by kernel_rfl
  cd := by kernel_rfl
  cds := by kernel_rfl
  cp := by kernel_rfl
  cps := by kernel_rfl
  cf := by kernel_rfl
  kd := rfl
  kp := rfl
  kf := rfl
theorem cells25 : Try.prog.cellsOf 25 = 2 := by kernel_rfl
set_option maxRecDepth 1000000 in
theorem open_dep {H : Type} {enc : TypeId × Value → H} {W : World} {r : Reach} {b0 : Nat} {v : Value} {d : DataW H} {ps : List MemPlace}
    (hval : Value.okWide Try.prog W r b0 25 v) (hd : DataW.Trod enc Try.prog W 0 (fun _ => true) true 25 v d ps) :
    ∃ (a b : Nat), v = .agg #[.int .u32 (a : Int), .int .u32 (b : Int)] ∧ a < 4294967296 ∧ b < 4294967296 := by
  simp only [Value.okWide, Try.underlying25] at hval
  obtain ⟨cs, rfl, hs, _⟩ := hval
  rw [cells25] at hs
  obtain ⟨fuel, hf⟩ := hd
  obtain ⟨x, hx, h1, h2⟩ := dep_of tys (cs := cs.toList) hf (by simpa using hs)
  refine ⟨x.1, x.2, ?_, h1, h2⟩
  have : cs = (dcells x).toArray := by rw [← hx]
  rw [this]
  rfl
end Go.Proofs.Ytmjfdhgfpgeboac.Ty
