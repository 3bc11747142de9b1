/-
  Proved: sort.Sort on entries of three cells sorts them all. Conditions: those that each theorem names as its hypotheses, and no others.
-/
import Derived.Test.YtfmeiljapojoiaaSj
import Derived.Test.YtfmeiljapojoiaaStr
import Derived.Deep.CutRange
namespace Go.Proofs.Ytfmeiljapojoiaa.Sk
open Go.RowKit Mem Rws Sa Sc Sj
set_option linter.unusedVariables false
set_option linter.unusedSimpArgs false
theorem bl64 : Lib.bitLen 64 = 7 := by decide +kernel
set_option maxRecDepth 100000 in
set_option maxHeartbeats 4000000 in
theorem sort9 (g : Nat) (d : Array El) (w : World) (h : Rw g d w) : Calls Try.prog 9 #[IV g] w (Srt g 0 64 d w) := by
  have H := Lib.hid h
  clear h
  go_enter Try.func9, Try.ntmps9
  go_wp2_with fail
  refine (len46 g _).mono ?_
  rintro e w1 ⟨rfl, rfl⟩
  go_wp2_with fail
  refine (Try.bits_Len 64 _ (by decide) (by decide)).mono ?_
  rintro e w1 ⟨rfl, rfl⟩
  have e7 : ((Lib.bitLen (64 : Int).toNat : Nat) : Int) = 7 := by rw [show (64 : Int).toNat = 64 from rfl, bl64]; rfl
  rw [e7]
  go_wp2_with fail
  refine (pdq12 g 65 0 64 7 d _ (by decide) (by decide) (by decide) (by decide) (Or.inl rfl) H.out).mono ?_
  rintro e w1 ⟨rfl, d', hp, hr, hf⟩
  have HR := Lib.hid (And.intro hp (And.intro hr hf))
  clear hp hr hf
  go_wp2_with fail
  go_end0
  exact ⟨rfl, d', HR.out.1, HR.out.2.1, HR.out.2.2⟩
end Go.Proofs.Ytfmeiljapojoiaa.Sk
