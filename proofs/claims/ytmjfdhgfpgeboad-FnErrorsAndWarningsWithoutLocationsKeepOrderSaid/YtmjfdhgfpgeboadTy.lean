/-
  Proved: the types of the law's arguments are what the opening lemmas ask. Conditions: those that each theorem names as its hypotheses, and no
  others.
-/
import Derived.Test.YtmjfdhgfpgeboadMsr
import Derived.Test.YtmjfdhgfpgeboadProg
namespace Go.Proofs.Ytmjfdhgfpgeboad.Ty
set_option maxRecDepth 1000000 in
noncomputable def tys : Msr.Tys Try.prog where
  b := 4
  s := 9
  i := 3
  l := 26
  n := 45
  ns := 27
  m := 29
  fl := _
  fn := _
  fm := _
  hb := Try.underlying4
  hs := Try.underlying9
  hi := Try.underlying3
  hl := Try.underlying26
  hn := Try.underlying45
  hns := Try.underlying27
  hm := Try.underlying29
  cb := by kernel_rfl
  cs := by kernel_rfl
  ci := by kernel_rfl
  cl := by kernel_rfl
  cn := by kernel_rfl
  cns := by kernel_rfl
  cm := by kernel_rfl
  kl := rfl
  kn := rfl
  km := rfl
end Go.Proofs.Ytmjfdhgfpgeboad.Ty
