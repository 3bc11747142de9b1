/-
  The shelf's contracts of math/bits.Len and of sort's xorshift and nextPowerOfTwo at this dump. Conditions: sizes alone.
-/
import Derived.Shelf.Small.Bits
import Derived.Shelf.Strconv.Itoa0
import Derived.Ground.GgsProg
import Derived.Shelf.SlSortFunc.Xorshift
import Derived.Test.YtfmeiljapojoiaaProg
namespace Go.Proofs
open Go.Shelf
def Try.lays128_ren : Go.Shelf.Ren := ⟨fun | 128 => 13 | n => n, fun | 51 => 44 | 3 => 3 | 4 => 4 | 46 => 41 | 5 => 5 | 9 => 9 | n => n, fun | n => n⟩
theorem Try.lays128 : Go.Proofs.Lays.n128 Try.prog Try.lays128_ren := {
  mixed := by kernel_rfl
  f128 := Try.func13.trans (congrArg some (by kernel_rfl))
  t3 := Try.underlying3
  a3 := Try.isAgg3
  z3 := Try.sizeOf3
  v3 := Try.zeroValue3
  t4 := Try.underlying4
  a4 := Try.isAgg4
  z4 := Try.sizeOf4
  v4 := Try.zeroValue4
  t5 := Try.underlying5
  a5 := Try.isAgg5
  z5 := Try.sizeOf5
  v5 := Try.zeroValue5
  t9 := Try.underlying9
  a9 := Try.isAgg9
  z9 := Try.sizeOf9
  v9 := Try.zeroValue9
  t46 := Try.underlying41
  a46 := Try.isAgg41
  z46 := Try.sizeOf41
  v46 := Try.zeroValue41
  t51 := Try.underlying44
  a51 := Try.isAgg44
  z51 := Try.sizeOf44
  v51 := Try.zeroValue44 }
theorem Try.bits_Len32 (x : Int) (w : World) (h0 : 0 ≤ x) (h1 : x ≤ 4294967295) :
    Calls Try.prog 13 #[.int .u32 x] w fun e w' => e = .returned (.int .i64 (Lib.bitLen x.toNat)) ∧ w' = w := Any.bits_Len32 Try.lays128 x w h0 h1
def Try.lays125_ren : Go.Shelf.Ren := ⟨fun | 125 => 11 | 128 => 13 | 129 => 14 | n => n, fun | 46 => 41 | 3 => 3 | 51 => 44 | 53 => 46 | 4 => 4 | 5 => 5 | 9 => 9 | n => n, fun | n => n⟩
theorem Try.lays125 : Go.Proofs.Lays.n125 Try.prog Try.lays125_ren := {
  mixed := by kernel_rfl
  f125 := Try.func11.trans (congrArg some (by kernel_rfl))
  f128 := Try.func13.trans (congrArg some (by kernel_rfl))
  f129 := Try.func14.trans (congrArg some (by kernel_rfl))
  t3 := Try.underlying3
  a3 := Try.isAgg3
  z3 := Try.sizeOf3
  v3 := Try.zeroValue3
  t4 := Try.underlying4
  a4 := Try.isAgg4
  z4 := Try.sizeOf4
  v4 := Try.zeroValue4
  t5 := Try.underlying5
  a5 := Try.isAgg5
  z5 := Try.sizeOf5
  v5 := Try.zeroValue5
  t9 := Try.underlying9
  a9 := Try.isAgg9
  z9 := Try.sizeOf9
  v9 := Try.zeroValue9
  t46 := Try.underlying41
  a46 := Try.isAgg41
  z46 := Try.sizeOf41
  v46 := Try.zeroValue41
  t51 := Try.underlying44
  a51 := Try.isAgg44
  z51 := Try.sizeOf44
  v51 := Try.zeroValue44
  t53 := Try.underlying46
  a53 := Try.isAgg46
  z53 := Try.sizeOf46
  v53 := Try.zeroValue46 }
theorem Try.bits_Len (x : Int) (w : World) (h0 : 0 ≤ x) (h1 : x ≤ 18446744073709551615) :
    Calls Try.prog 11 #[.int .u64 x] w fun e w' => e = .returned (.int .i64 (Lib.bitLen x.toNat)) ∧ w' = w := Any.bits_Len Try.lays125 x w h0 h1
def Try.lays129_ren : Go.Shelf.Ren := ⟨fun | 129 => 14 | n => n, fun | 53 => 46 | 3 => 3 | 4 => 4 | 46 => 41 | 5 => 5 | 9 => 9 | n => n, fun | n => n⟩
theorem Try.lays129 : Go.Proofs.Lays.n129 Try.prog Try.lays129_ren := {
  mixed := by kernel_rfl
  f129 := Try.func14.trans (congrArg some (by kernel_rfl))
  t3 := Try.underlying3
  a3 := Try.isAgg3
  z3 := Try.sizeOf3
  v3 := Try.zeroValue3
  t4 := Try.underlying4
  a4 := Try.isAgg4
  z4 := Try.sizeOf4
  v4 := Try.zeroValue4
  t5 := Try.underlying5
  a5 := Try.isAgg5
  z5 := Try.sizeOf5
  v5 := Try.zeroValue5
  t9 := Try.underlying9
  a9 := Try.isAgg9
  z9 := Try.sizeOf9
  v9 := Try.zeroValue9
  t46 := Try.underlying41
  a46 := Try.isAgg41
  z46 := Try.sizeOf41
  v46 := Try.zeroValue41
  t53 := Try.underlying46
  a53 := Try.isAgg46
  z53 := Try.sizeOf46
  v53 := Try.zeroValue46 }
theorem Try.bits_Len64 (x : Int) (w : World) (h0 : 0 ≤ x) (h1 : x ≤ 18446744073709551615) :
    Calls Try.prog 14 #[.int .u64 x] w fun e w' => e = .returned (.int .i64 (Lib.bitLen x.toNat)) ∧ w' = w := Any.bits_Len64 Try.lays129 x w h0 h1
def Try.laysGg36_ren : Go.Shelf.Ren := ⟨fun | 36 => 25 | n => n, fun | 66 => 63 | 51 => 46 | 0 => 0 | 60 => 57 | 41 => 41 | n => n, fun | n => n⟩
theorem Try.laysGg36 : Go.Proofs.LaysGg.n36 Try.prog Try.laysGg36_ren := {
  mixed := by kernel_rfl
  f36 := Try.func25.trans (congrArg some (by kernel_rfl))
  t0 := Try.underlying0
  a0 := Try.isAgg0
  z0 := Try.sizeOf0
  v0 := Try.zeroValue0
  i0 := by kernel_rfl
  t41 := Try.underlying41
  a41 := Try.isAgg41
  z41 := Try.sizeOf41
  v41 := Try.zeroValue41
  i41 := by kernel_rfl
  t51 := Try.underlying46
  a51 := Try.isAgg46
  z51 := Try.sizeOf46
  v51 := Try.zeroValue46
  i51 := by kernel_rfl
  t60 := Try.underlying57
  a60 := Try.isAgg57
  z60 := Try.sizeOf57
  v60 := Try.zeroValue57
  i60 := by kernel_rfl
  t66 := Try.underlying63
  a66 := Try.isAgg63
  z66 := Try.sizeOf63
  v66 := Try.zeroValue63
  i66 := by kernel_rfl }
open Go.RowKit Go.Lib Go.Sort in
theorem Try.xorshift_Next (rb ro X : Nat) (hX : X < 18446744073709551616) (w : World) (hc : w.cell? ⟨rb, ro, none⟩ = some (.int .u64 X)) (hf : w.frozen? ⟨rb, ro, none⟩ = false) :
    Calls Try.prog 25 #[.pointer (some ⟨rb, ro, none⟩)] w fun e w' => e = .returned (.int .u64 (xorNextN X : Nat)) ∧ w' = (w.setCell ⟨rb, ro, none⟩ (.int .u64 (xorNextN X : Nat))).drewN 3 := Any.xorshift_Next Try.laysGg36 rb ro X hX w hc hf
def Try.laysGg35_ren : Go.Shelf.Ren := ⟨fun | 35 => 24 | 13 => 11 | 24 => 13 | 25 => 14 | n => n, fun | 3 => 3 | 41 => 41 | 49 => 44 | 51 => 46 | 4 => 4 | 5 => 5 | 9 => 9 | n => n, fun | n => n⟩
theorem Try.laysGg35 : Go.Proofs.LaysGg.n35 Try.prog Try.laysGg35_ren := {
  mixed := by kernel_rfl
  f13 := Try.func11.trans (congrArg some (by kernel_rfl))
  f24 := Try.func13.trans (congrArg some (by kernel_rfl))
  f25 := Try.func14.trans (congrArg some (by kernel_rfl))
  f35 := Try.func24.trans (congrArg some (by kernel_rfl))
  t3 := Try.underlying3
  a3 := Try.isAgg3
  z3 := Try.sizeOf3
  v3 := Try.zeroValue3
  i3 := by kernel_rfl
  t4 := Try.underlying4
  a4 := Try.isAgg4
  z4 := Try.sizeOf4
  v4 := Try.zeroValue4
  i4 := by kernel_rfl
  t5 := Try.underlying5
  a5 := Try.isAgg5
  z5 := Try.sizeOf5
  v5 := Try.zeroValue5
  i5 := by kernel_rfl
  t9 := Try.underlying9
  a9 := Try.isAgg9
  z9 := Try.sizeOf9
  v9 := Try.zeroValue9
  i9 := by kernel_rfl
  t41 := Try.underlying41
  a41 := Try.isAgg41
  z41 := Try.sizeOf41
  v41 := Try.zeroValue41
  i41 := by kernel_rfl
  t49 := Try.underlying44
  a49 := Try.isAgg44
  z49 := Try.sizeOf44
  v49 := Try.zeroValue44
  i49 := by kernel_rfl
  t51 := Try.underlying46
  a51 := Try.isAgg46
  z51 := Try.sizeOf46
  v51 := Try.zeroValue46
  i51 := by kernel_rfl }
open Go.RowKit Go.Lib Go.Sort in
theorem Try.nextPowerOfTwo (n : Nat) (hn : n < 4611686018427387904) (w : World) :
    Calls Try.prog 24 #[.int .i64 n] w fun e w' => e = .returned (.int .u64 ((1 <<< bitsLen n : Nat) : Int)) ∧ w' = w := Any.nextPowerOfTwo Try.laysGg35 n hn w
end Go.Proofs
