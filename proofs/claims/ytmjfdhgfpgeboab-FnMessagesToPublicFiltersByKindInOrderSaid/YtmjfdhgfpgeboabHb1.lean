/-
  Contracts: the text of a message's number. Conditions: none.
-/
import Derived.Test.YtmjfdhgfpgeboabHa
import Derived.Test.YtmjfdhgfpgeboabHo
namespace Go.Proofs.Ytmjfdhgfpgeboab.Hb1
open Go.RowKit Go.PlainAid Mem Ha
set_option linter.unusedVariables false
set_option linter.unusedSimpArgs false

def Info (s : ByteArray) (w : World) (e : Ending) (w' : World) : Prop := (∃ k : Int, e = .returned (.agg #[.string s, .int .u8 k])) ∧ Below w.heap.size w w'
local macro "leaf18" : tactic => `(tactic| (go_enter Try.func18, Try.ntmps18; go_wp2; go_returns; exact ⟨⟨_, rfl⟩, by go_grown⟩))

set_option maxRecDepth 100000 in
set_option maxHeartbeats 1000000 in
theorem i1 (w : World) : Calls Try.prog 18 #[.int .u8 1] w (Info ⟨#[97, 115, 115, 101, 114, 116, 45, 116, 111, 45, 119, 105, 116, 104]⟩ w) := by leaf18
set_option maxRecDepth 100000 in
set_option maxHeartbeats 1000000 in
theorem i2 (w : World) : Calls Try.prog 18 #[.int .u8 2] w (Info ⟨#[97, 115, 115, 101, 114, 116, 45, 116, 121, 112, 101, 45, 106, 115, 111, 110]⟩ w) := by leaf18
set_option maxRecDepth 100000 in
set_option maxHeartbeats 1000000 in
theorem i3 (w : World) : Calls Try.prog 18 #[.int .u8 3] w (Info ⟨#[97, 115, 115, 105, 103, 110, 45, 116, 111, 45, 99, 111, 110, 115, 116, 97, 110, 116]⟩ w) := by leaf18
set_option maxRecDepth 100000 in
set_option maxHeartbeats 1000000 in
theorem i4 (w : World) : Calls Try.prog 18 #[.int .u8 4] w (Info ⟨#[97, 115, 115, 105, 103, 110, 45, 116, 111, 45, 100, 101, 102, 105, 110, 101]⟩ w) := by leaf18
set_option maxRecDepth 100000 in
set_option maxHeartbeats 1000000 in
theorem i5 (w : World) : Calls Try.prog 18 #[.int .u8 5] w (Info ⟨#[97, 115, 115, 105, 103, 110, 45, 116, 111, 45, 105, 109, 112, 111, 114, 116]⟩ w) := by leaf18
set_option maxRecDepth 100000 in
set_option maxHeartbeats 1000000 in
theorem i6 (w : World) : Calls Try.prog 18 #[.int .u8 6] w (Info ⟨#[98, 105, 103, 105, 110, 116]⟩ w) := by leaf18
set_option maxRecDepth 100000 in
set_option maxHeartbeats 1000000 in
theorem i7 (w : World) : Calls Try.prog 18 #[.int .u8 7] w (Info ⟨#[99, 97, 108, 108, 45, 105, 109, 112, 111, 114, 116, 45, 110, 97, 109, 101, 115, 112, 97, 99, 101]⟩ w) := by leaf18
set_option maxRecDepth 100000 in
set_option maxHeartbeats 1000000 in
theorem i8 (w : World) : Calls Try.prog 18 #[.int .u8 8] w (Info ⟨#[99, 108, 97, 115, 115, 45, 110, 97, 109, 101, 45, 119, 105, 108, 108, 45, 116, 104, 114, 111, 119]⟩ w) := by leaf18
set_option maxRecDepth 100000 in
set_option maxHeartbeats 1000000 in
theorem i9 (w : World) : Calls Try.prog 18 #[.int .u8 9] w (Info ⟨#[99, 111, 109, 109, 111, 110, 106, 115, 45, 118, 97, 114, 105, 97, 98, 108, 101, 45, 105, 110, 45, 101, 115, 109]⟩ w) := by leaf18
set_option maxRecDepth 100000 in
set_option maxHeartbeats 1000000 in
theorem i10 (w : World) : Calls Try.prog 18 #[.int .u8 10] w (Info ⟨#[99, 111, 110, 102, 117, 115, 105, 110, 103, 45, 116, 121, 112, 101, 115, 99, 114, 105, 112, 116, 45, 99, 97, 115, 116]⟩ w) := by leaf18
set_option maxRecDepth 100000 in
set_option maxHeartbeats 1000000 in
theorem i11 (w : World) : Calls Try.prog 18 #[.int .u8 11] w (Info ⟨#[100, 101, 108, 101, 116, 101, 45, 115, 117, 112, 101, 114, 45, 112, 114, 111, 112, 101, 114, 116, 121]⟩ w) := by leaf18
set_option maxRecDepth 100000 in
set_option maxHeartbeats 1000000 in
theorem i12 (w : World) : Calls Try.prog 18 #[.int .u8 12] w (Info ⟨#[100, 105, 114, 101, 99, 116, 45, 101, 118, 97, 108]⟩ w) := by leaf18
set_option maxRecDepth 100000 in
set_option maxHeartbeats 1000000 in
theorem i13 (w : World) : Calls Try.prog 18 #[.int .u8 13] w (Info ⟨#[100, 117, 112, 108, 105, 99, 97, 116, 101, 45, 99, 97, 115, 101]⟩ w) := by leaf18
set_option maxRecDepth 100000 in
set_option maxHeartbeats 1000000 in
theorem i14 (w : World) : Calls Try.prog 18 #[.int .u8 14] w (Info ⟨#[100, 117, 112, 108, 105, 99, 97, 116, 101, 45, 99, 108, 97, 115, 115, 45, 109, 101, 109, 98, 101, 114]⟩ w) := by leaf18
set_option maxRecDepth 100000 in
set_option maxHeartbeats 1000000 in
theorem i15 (w : World) : Calls Try.prog 18 #[.int .u8 15] w (Info ⟨#[100, 117, 112, 108, 105, 99, 97, 116, 101, 45, 111, 98, 106, 101, 99, 116, 45, 107, 101, 121]⟩ w) := by leaf18
set_option maxRecDepth 100000 in
set_option maxHeartbeats 1000000 in
theorem i16 (w : World) : Calls Try.prog 18 #[.int .u8 16] w (Info ⟨#[101, 109, 112, 116, 121, 45, 105, 109, 112, 111, 114, 116, 45, 109, 101, 116, 97]⟩ w) := by leaf18
set_option maxRecDepth 100000 in
set_option maxHeartbeats 1000000 in
theorem i17 (w : World) : Calls Try.prog 18 #[.int .u8 17] w (Info ⟨#[101, 113, 117, 97, 108, 115, 45, 110, 97, 110]⟩ w) := by leaf18
set_option maxRecDepth 100000 in
set_option maxHeartbeats 1000000 in
theorem i18 (w : World) : Calls Try.prog 18 #[.int .u8 18] w (Info ⟨#[101, 113, 117, 97, 108, 115, 45, 110, 101, 103, 97, 116, 105, 118, 101, 45, 122, 101, 114, 111]⟩ w) := by leaf18
set_option maxRecDepth 100000 in
set_option maxHeartbeats 1000000 in
theorem i19 (w : World) : Calls Try.prog 18 #[.int .u8 19] w (Info ⟨#[101, 113, 117, 97, 108, 115, 45, 110, 101, 119, 45, 111, 98, 106, 101, 99, 116]⟩ w) := by leaf18
set_option maxRecDepth 100000 in
set_option maxHeartbeats 1000000 in
theorem i20 (w : World) : Calls Try.prog 18 #[.int .u8 20] w (Info ⟨#[104, 116, 109, 108, 45, 99, 111, 109, 109, 101, 110, 116, 45, 105, 110, 45, 106, 115]⟩ w) := by leaf18
set_option maxRecDepth 100000 in
set_option maxHeartbeats 1000000 in
theorem i21 (w : World) : Calls Try.prog 18 #[.int .u8 21] w (Info ⟨#[105, 109, 112, 111, 115, 115, 105, 98, 108, 101, 45, 116, 121, 112, 101, 111, 102]⟩ w) := by leaf18
set_option maxRecDepth 100000 in
set_option maxHeartbeats 1000000 in
theorem i22 (w : World) : Calls Try.prog 18 #[.int .u8 22] w (Info ⟨#[105, 110, 100, 105, 114, 101, 99, 116, 45, 114, 101, 113, 117, 105, 114, 101]⟩ w) := by leaf18
set_option maxRecDepth 100000 in
set_option maxHeartbeats 1000000 in
theorem i23 (w : World) : Calls Try.prog 18 #[.int .u8 23] w (Info ⟨#[112, 114, 105, 118, 97, 116, 101, 45, 110, 97, 109, 101, 45, 119, 105, 108, 108, 45, 116, 104, 114, 111, 119]⟩ w) := by leaf18
set_option maxRecDepth 100000 in
set_option maxHeartbeats 1000000 in
theorem i24 (w : World) : Calls Try.prog 18 #[.int .u8 24] w (Info ⟨#[115, 101, 109, 105, 99, 111, 108, 111, 110, 45, 97, 102, 116, 101, 114, 45, 114, 101, 116, 117, 114, 110]⟩ w) := by leaf18
set_option maxRecDepth 100000 in
set_option maxHeartbeats 1000000 in
theorem i25 (w : World) : Calls Try.prog 18 #[.int .u8 25] w (Info ⟨#[115, 117, 115, 112, 105, 99, 105, 111, 117, 115, 45, 98, 111, 111, 108, 101, 97, 110, 45, 110, 111, 116]⟩ w) := by leaf18
set_option maxRecDepth 100000 in
set_option maxHeartbeats 1000000 in
theorem i26 (w : World) : Calls Try.prog 18 #[.int .u8 26] w (Info ⟨#[115, 117, 115, 112, 105, 99, 105, 111, 117, 115, 45, 100, 101, 102, 105, 110, 101]⟩ w) := by leaf18
set_option maxRecDepth 100000 in
set_option maxHeartbeats 1000000 in
theorem i27 (w : World) : Calls Try.prog 18 #[.int .u8 27] w (Info ⟨#[115, 117, 115, 112, 105, 99, 105, 111, 117, 115, 45, 108, 111, 103, 105, 99, 97, 108, 45, 111, 112, 101, 114, 97, 116, 111, 114]⟩ w) := by leaf18
set_option maxRecDepth 100000 in
set_option maxHeartbeats 1000000 in
theorem i28 (w : World) : Calls Try.prog 18 #[.int .u8 28] w (Info ⟨#[115, 117, 115, 112, 105, 99, 105, 111, 117, 115, 45, 110, 117, 108, 108, 105, 115, 104, 45, 99, 111, 97, 108, 101, 115, 99, 105, 110, 103]⟩ w) := by leaf18
set_option maxRecDepth 100000 in
set_option maxHeartbeats 1000000 in
theorem i29 (w : World) : Calls Try.prog 18 #[.int .u8 29] w (Info ⟨#[116, 104, 105, 115, 45, 105, 115, 45, 117, 110, 100, 101, 102, 105, 110, 101, 100, 45, 105, 110, 45, 101, 115, 109]⟩ w) := by leaf18
set_option maxRecDepth 100000 in
set_option maxHeartbeats 1000000 in
theorem i30 (w : World) : Calls Try.prog 18 #[.int .u8 30] w (Info ⟨#[117, 110, 115, 117, 112, 112, 111, 114, 116, 101, 100, 45, 100, 121, 110, 97, 109, 105, 99, 45, 105, 109, 112, 111, 114, 116]⟩ w) := by leaf18
set_option maxRecDepth 100000 in
set_option maxHeartbeats 1000000 in
theorem i31 (w : World) : Calls Try.prog 18 #[.int .u8 31] w (Info ⟨#[117, 110, 115, 117, 112, 112, 111, 114, 116, 101, 100, 45, 106, 115, 120, 45, 99, 111, 109, 109, 101, 110, 116]⟩ w) := by leaf18
set_option maxRecDepth 100000 in
set_option maxHeartbeats 1000000 in
theorem i32 (w : World) : Calls Try.prog 18 #[.int .u8 32] w (Info ⟨#[117, 110, 115, 117, 112, 112, 111, 114, 116, 101, 100, 45, 114, 101, 103, 101, 120, 112]⟩ w) := by leaf18
set_option maxRecDepth 100000 in
set_option maxHeartbeats 1000000 in
theorem i33 (w : World) : Calls Try.prog 18 #[.int .u8 33] w (Info ⟨#[117, 110, 115, 117, 112, 112, 111, 114, 116, 101, 100, 45, 114, 101, 113, 117, 105, 114, 101, 45, 99, 97, 108, 108]⟩ w) := by leaf18
set_option maxRecDepth 100000 in
set_option maxHeartbeats 1000000 in
theorem i34 (w : World) : Calls Try.prog 18 #[.int .u8 34] w (Info ⟨#[99, 115, 115, 45, 115, 121, 110, 116, 97, 120, 45, 101, 114, 114, 111, 114]⟩ w) := by leaf18
set_option maxRecDepth 100000 in
set_option maxHeartbeats 1000000 in
theorem i35 (w : World) : Calls Try.prog 18 #[.int .u8 35] w (Info ⟨#[105, 110, 118, 97, 108, 105, 100, 45, 64, 99, 104, 97, 114, 115, 101, 116]⟩ w) := by leaf18
set_option maxRecDepth 100000 in
set_option maxHeartbeats 1000000 in
theorem i36 (w : World) : Calls Try.prog 18 #[.int .u8 36] w (Info ⟨#[105, 110, 118, 97, 108, 105, 100, 45, 64, 105, 109, 112, 111, 114, 116]⟩ w) := by leaf18
set_option maxRecDepth 100000 in
set_option maxHeartbeats 1000000 in
theorem i37 (w : World) : Calls Try.prog 18 #[.int .u8 37] w (Info ⟨#[105, 110, 118, 97, 108, 105, 100, 45, 64, 108, 97, 121, 101, 114]⟩ w) := by leaf18
set_option maxRecDepth 100000 in
set_option maxHeartbeats 1000000 in
theorem i38 (w : World) : Calls Try.prog 18 #[.int .u8 38] w (Info ⟨#[105, 110, 118, 97, 108, 105, 100, 45, 99, 97, 108, 99]⟩ w) := by leaf18
set_option maxRecDepth 100000 in
set_option maxHeartbeats 1000000 in
theorem i39 (w : World) : Calls Try.prog 18 #[.int .u8 39] w (Info ⟨#[106, 115, 45, 99, 111, 109, 109, 101, 110, 116, 45, 105, 110, 45, 99, 115, 115]⟩ w) := by leaf18
set_option maxRecDepth 100000 in
set_option maxHeartbeats 1000000 in
theorem i40 (w : World) : Calls Try.prog 18 #[.int .u8 40] w (Info ⟨#[117, 110, 100, 101, 102, 105, 110, 101, 100, 45, 99, 111, 109, 112, 111, 115, 101, 115, 45, 102, 114, 111, 109]⟩ w) := by leaf18
set_option maxRecDepth 100000 in
set_option maxHeartbeats 1000000 in
theorem i41 (w : World) : Calls Try.prog 18 #[.int .u8 41] w (Info ⟨#[117, 110, 115, 117, 112, 112, 111, 114, 116, 101, 100, 45, 64, 99, 104, 97, 114, 115, 101, 116]⟩ w) := by leaf18
set_option maxRecDepth 100000 in
set_option maxHeartbeats 1000000 in
theorem i42 (w : World) : Calls Try.prog 18 #[.int .u8 42] w (Info ⟨#[117, 110, 115, 117, 112, 112, 111, 114, 116, 101, 100, 45, 64, 110, 97, 109, 101, 115, 112, 97, 99, 101]⟩ w) := by leaf18
set_option maxRecDepth 100000 in
set_option maxHeartbeats 1000000 in
theorem i43 (w : World) : Calls Try.prog 18 #[.int .u8 43] w (Info ⟨#[117, 110, 115, 117, 112, 112, 111, 114, 116, 101, 100, 45, 99, 115, 115, 45, 112, 114, 111, 112, 101, 114, 116, 121]⟩ w) := by leaf18
set_option maxRecDepth 100000 in
set_option maxHeartbeats 1000000 in
theorem i44 (w : World) : Calls Try.prog 18 #[.int .u8 44] w (Info ⟨#[117, 110, 115, 117, 112, 112, 111, 114, 116, 101, 100, 45, 99, 115, 115, 45, 110, 101, 115, 116, 105, 110, 103]⟩ w) := by leaf18
set_option maxRecDepth 100000 in
set_option maxHeartbeats 1000000 in
theorem i45 (w : World) : Calls Try.prog 18 #[.int .u8 45] w (Info ⟨#[97, 109, 98, 105, 103, 117, 111, 117, 115, 45, 114, 101, 101, 120, 112, 111, 114, 116]⟩ w) := by leaf18
set_option maxRecDepth 100000 in
set_option maxHeartbeats 1000000 in
theorem i46 (w : World) : Calls Try.prog 18 #[.int .u8 46] w (Info ⟨#[100, 105, 102, 102, 101, 114, 101, 110, 116, 45, 112, 97, 116, 104, 45, 99, 97, 115, 101]⟩ w) := by leaf18
set_option maxRecDepth 100000 in
set_option maxHeartbeats 1000000 in
theorem i47 (w : World) : Calls Try.prog 18 #[.int .u8 47] w (Info ⟨#[101, 109, 112, 116, 121, 45, 103, 108, 111, 98]⟩ w) := by leaf18
set_option maxRecDepth 100000 in
set_option maxHeartbeats 1000000 in
theorem i48 (w : World) : Calls Try.prog 18 #[.int .u8 48] w (Info ⟨#[105, 103, 110, 111, 114, 101, 100, 45, 98, 97, 114, 101, 45, 105, 109, 112, 111, 114, 116]⟩ w) := by leaf18
set_option maxRecDepth 100000 in
set_option maxHeartbeats 1000000 in
theorem i49 (w : World) : Calls Try.prog 18 #[.int .u8 49] w (Info ⟨#[105, 103, 110, 111, 114, 101, 100, 45, 100, 121, 110, 97, 109, 105, 99, 45, 105, 109, 112, 111, 114, 116]⟩ w) := by leaf18
set_option maxRecDepth 100000 in
set_option maxHeartbeats 1000000 in
theorem i50 (w : World) : Calls Try.prog 18 #[.int .u8 50] w (Info ⟨#[105, 109, 112, 111, 114, 116, 45, 105, 115, 45, 117, 110, 100, 101, 102, 105, 110, 101, 100]⟩ w) := by leaf18
set_option maxRecDepth 100000 in
set_option maxHeartbeats 1000000 in
theorem i51 (w : World) : Calls Try.prog 18 #[.int .u8 51] w (Info ⟨#[114, 101, 113, 117, 105, 114, 101, 45, 114, 101, 115, 111, 108, 118, 101, 45, 110, 111, 116, 45, 101, 120, 116, 101, 114, 110, 97, 108]⟩ w) := by leaf18
set_option maxRecDepth 100000 in
set_option maxHeartbeats 1000000 in
theorem i52 (w : World) : Calls Try.prog 18 #[.int .u8 52] w (Info ⟨#[105, 110, 118, 97, 108, 105, 100, 45, 115, 111, 117, 114, 99, 101, 45, 109, 97, 112, 112, 105, 110, 103, 115]⟩ w) := by leaf18
set_option maxRecDepth 100000 in
set_option maxHeartbeats 1000000 in
theorem i53 (w : World) : Calls Try.prog 18 #[.int .u8 53] w (Info ⟨#[109, 105, 115, 115, 105, 110, 103, 45, 115, 111, 117, 114, 99, 101, 45, 109, 97, 112]⟩ w) := by leaf18
set_option maxRecDepth 100000 in
set_option maxHeartbeats 1000000 in
theorem i54 (w : World) : Calls Try.prog 18 #[.int .u8 54] w (Info ⟨#[117, 110, 115, 117, 112, 112, 111, 114, 116, 101, 100, 45, 115, 111, 117, 114, 99, 101, 45, 109, 97, 112, 45, 99, 111, 109, 109, 101, 110, 116]⟩ w) := by leaf18
end Go.Proofs.Ytmjfdhgfpgeboab.Hb1