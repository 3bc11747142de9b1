/-
  Contracts for the law on reverse resolution at an array of condition objects: the array; the exact resolution. Conditions: sizes alone.
-/
import Derived.Test.YtjfegbkbhbhcoaaYa
namespace Go.Proofs.Ytjfegbkbhbhcoaa.Yb
open Go.RowKit Go.PlainAid Str Mem Rws Ex Go.Maps Ya
set_option linter.unusedVariables false
def itemL (h L : Nat) : List Value := [.string ⟨#[]⟩, .slice none 0 0, .slice (some ⟨h, 0, none⟩) L L, .slice none 0 0, .int .i32 0, .int .i32 0, .int .u8 3]
/-- n items, each an object of its own block. -/
def Arr (w : World) (g o n : Nat) (h L : Nat → Nat) (K V : Nat → Nat → ByteArray) (T : Nat → Nat → Int) : Prop := ∀ i, i < n → (∀ r, r < 7 → w.cell? ⟨g, o + (i * 7 + r), none⟩ = some ((itemL (h i) (L i)).getD r undef)) ∧ Ent w (h i) 0 (L i) (K i) (V i) (T i)
theorem Arr.below {w w' : World} {g o n : Nat} {h L : Nat → Nat} {K V : Nat → Nat → ByteArray} {T : Nat → Nat → Int} (hA : Arr w g o n h L K V T) (hb : Below w.heap.size w w') : Arr w' g o n h L K V T := fun i hi =>
  ⟨fun r hr => (hb.cell (p := ⟨g, o + (i * 7 + r), none⟩) (World.block_lt_of_cell? w _ ((hA i hi).1 r hr))).trans ((hA i hi).1 r hr), (hA i hi).2.below hb⟩
theorem sevenC {w : World} {g o n i : Nat} {h L : Nat → Nat} {K V : Nat → Nat → ByteArray} {T : Nat → Nat → Int} (hA : Arr w g o n h L K V T) (hi : i < n) : w.cell? ⟨g, o + i * 7, none⟩ = some (.string ⟨#[]⟩) ∧ w.cell? ⟨g, o + i * 7 + 1, none⟩ = some (.slice none 0 0) ∧ w.cell? ⟨g, o + i * 7 + 2, none⟩ = some (.slice (some ⟨h i, 0, none⟩) (L i) (L i)) ∧ w.cell? ⟨g, o + i * 7 + 3, none⟩ = some (.slice none 0 0) ∧ w.cell? ⟨g, o + i * 7 + 4, none⟩ = some (.int .i32 0) ∧ w.cell? ⟨g, o + i * 7 + 5, none⟩ = some (.int .i32 0) ∧ w.cell? ⟨g, o + i * 7 + 6, none⟩ = some (.int .u8 3) :=
  ⟨(hA i hi).1 0 (by omega), (hA i hi).1 1 (by omega), (hA i hi).1 2 (by omega), (hA i hi).1 3 (by omega), (hA i hi).1 4 (by omega), (hA i hi).1 5 (by omega), (hA i hi).1 6 (by omega)⟩
/-- What an array answers. -/
def AAns (cnd : ByteArray → Bool) (q key : ByteArray) (n : Nat) (L : Nat → Nat) (K V : Nat → Nat → ByteArray) (T : Nat → Nat → Int) (w : World) (e : Ending) (w' : World) : Prop :=
  ((∃ i, i < n ∧ ∃ j, j < L i ∧ hit cnd q (K i) (V i) j = true ∧ (∀ j', j' < j → hit cnd q (K i) (V i) j' = false) ∧ (∀ i', i' < i → ∀ j', j' < L i' → hit cnd q (K i') (V i') j' = false) ∧ e = .returned (yes3 key (T i j) 1)) ∨
    ((∀ i, i < n → ∀ j, j < L i → hit cnd q (K i) (V i) j = false) ∧ e = .returned no3)) ∧ Below w.heap.size w w'
abbrev arrV (g o n d : Nat) : Value := .agg #[.string ⟨#[]⟩, .slice (some ⟨g, o, none⟩) n d, .slice none 0 0, .slice none 0 0, .int .i32 0, .int .i32 0, .int .u8 2]
set_option maxRecDepth 100000 in
set_option maxHeartbeats 8000000 in
theorem arr24 (q key : ByteArray) (g o n d : Nat) (h L : Nat → Nat) (K V : Nat → Nat → ByteArray) (T : Nat → Nat → Int) (mp : Value) (cnd : ByteArray → Bool) (w : World) (hA : Arr w g o n h L K V T) (hn : n ≤ 4096) (hL : ∀ i, i < n → L i ≤ 4096) (hC : Cnd mp cnd w) (hK : ∀ i, i < n → ∀ j, j < L i → (K i j).size ≤ maxLen) :
    Calls Try.prog 24 #[rq, .string q, .string key, arrV g o n d, .int .u8 0, mp] w (AAns cnd q key n L K V T w) := by
  have HA := Lib.hid hA
  have HC := Lib.hid hC
  have HK := Lib.hid hK
  have HL := Lib.hid hL
  clear hA hC hK hL
  go_enter Try.func24, Try.ntmps24
  go_wp2_with fail
  have hN := Own.new ((w.alloc (.cells #[.pointer none, .pointer none, .pointer none, .int .u8 0] 58)).alloc (.cells #[.string ⟨#[]⟩, .slice (some ⟨g, o, none⟩) n d, .slice none 0 0, .slice none 0 0, .int .i32 0, .int .i32 0, .int .u8 2] 36)) 33 #[.int .i32 0, .int .i32 0]
  have hR := ((Own.new w 58 #[.pointer none, .pointer none, .pointer none, .int .u8 0]).alloc (.cells #[.string ⟨#[]⟩, .slice (some ⟨g, o, none⟩) n d, .slice none 0 0, .slice none 0 0, .int .i32 0, .int .i32 0, .int .u8 2] 36)).alloc (.cells #[.int .i32 0, .int .i32 0] 33)
  have hB : Below w.heap.size w (((w.alloc (.cells #[.pointer none, .pointer none, .pointer none, .int .u8 0] 58)).alloc (.cells #[.string ⟨#[]⟩, .slice (some ⟨g, o, none⟩) n d, .slice none 0 0, .slice none 0 0, .int .i32 0, .int .i32 0, .int .u8 2] 36)).alloc (.cells #[.int .i32 0, .int .i32 0] 33)) := by go_grown
  simp only [World.size_alloc] at hN hR
  generalize ((w.alloc (.cells #[.pointer none, .pointer none, .pointer none, .int .u8 0] 58)).alloc (.cells #[.string ⟨#[]⟩, .slice (some ⟨g, o, none⟩) n d, .slice none 0 0, .slice none 0 0, .int .i32 0, .int .i32 0, .int .u8 2] 36)).alloc (.cells #[.int .i32 0, .int .i32 0] 33) = w0 at *
  have HN := Lib.hid hN
  have HR := Lib.hid hR
  have HB := Lib.hid hB
  clear hN hR hB
  go_loopw [151] (fun i wr => ∃ k : Nat, k ≤ n ∧ i = .int .i64 k ∧ Hid (Below w0.heap.size w0 wr) ∧ Hid (∀ i, i < k → ∀ j, j < L i → hit cnd q (K i) (V i) j = false)) (fun i _ => n - (intOf i).toNat)
  case atStart => exact ⟨0, by omega, rfl, Lib.hid (Below.refl _ _), Lib.hid fun j hj => by omega⟩
  case round =>
    obtain ⟨k, hk, rfl, HW, HD⟩ := hrel
    obtain ⟨wo, rfl⟩ : ∃ wo : World, wo = wr := ⟨_, rfl⟩
    have hwb := HB.out.trans (HW.out.mono HB.out.size)
    have HWB := Lib.hid hwb
    clear hwb
    by_cases hlt : k < n
    · obtain ⟨l0, l1, l2, l3, l4, l5, l6⟩ := sevenC (HA.out.below HWB.out) hlt
      have hR1 := HR.out.below HW.out HR.out.lt
      have r0 := new_keep (hR1.cell 0)
      have r1 := new_keep (hR1.cell 1)
      have r2 := new_keep (hR1.cell 2)
      have r3 := new_keep (hR1.cell 3)
      clear hR1
      have hi0 : (0 : Int) ≤ (k : Int) := by omega
      have hi1 : (k : Int) < (n : Int) := by omega
      have hbx : Below w.heap.size w (wo.alloc (.cells #[.string ⟨#[]⟩, .slice none 0 0, .slice (some ⟨h k, 0, none⟩) (L k) (L k), .slice none 0 0, .int .i32 0, .int .i32 0, .int .u8 3] 36)) := HWB.out.alloc HWB.out.size _
      have HO := Lib.hid (obj24 q key (h k) 0 (L k) (L k) (K k) (V k) (T k) mp cnd (wo.alloc (.cells #[.string ⟨#[]⟩, .slice none 0 0, .slice (some ⟨h k, 0, none⟩) (L k) (L k), .slice none 0 0, .int .i32 0, .int .i32 0, .int .u8 3] 36)) (HA.out.below hbx k hlt).2 (HL.out k hlt) (HC.out.below hbx) (HK.out k hlt))
      clear hbx
      go_wp2_with fail
      refine HO.out.mono ?_
      rintro e w2 ⟨⟨j, hj, hh, hfst, rfl⟩ | ⟨hno, rfl⟩, hb2⟩
      · have HJ := Lib.hid (And.intro hj (And.intro hh hfst))
        have HW2 : Hid (Below w0.heap.size w0 w2) := Lib.hid ((HW.out.alloc HW.out.size _).trans (hb2.mono (by have := HW.out.size; simp; omega)))
        have hN1 := HN.out.below HW2.out HN.out.lt
        have q0 := new_keep (hN1.cell 0)
        have q1 := new_keep (hN1.cell 1)
        have f0 : ∀ x, (w2.alloc x).frozen? ⟨w.heap.size + 1 + 1, 0, none⟩ = false := fun x => (hN1.alloc x).frozen 0
        have f1 : ∀ x, (w2.alloc x).frozen? ⟨w.heap.size + 1 + 1, 1, none⟩ = false := fun x => (hN1.alloc x).frozen 1
        have hne : w2.heap.size ≠ w.heap.size + 1 + 1 := by have := hN1.lt; omega
        clear hb2 l0 l1 l2 l3 l4 l5 l6 r0 r1 r2 r3 hN1 hj hh hfst HO
        unfold yes3
        go_wp2_with fail
        go_region
        go_wp2_with fail
        refine bodyPost_ret (by simp [results, Try.results24, go_sem, q0, q1, yes3]) rfl ⟨.inl ⟨k, hlt, j, HJ.out.1, HJ.out.2.1, HJ.out.2.2, HD.out, rfl⟩, ?_⟩
        have hbz := HB.out.trans (HW2.out.mono HB.out.size)
        exact below_drew (((hbz.alloc hbz.size _).setCell (by show w.heap.size ≤ w.heap.size + 1 + 1; omega) _).setCell (by show w.heap.size ≤ w.heap.size + 1 + 1; omega) _)
      · have HW2 : Hid (Below w0.heap.size w0 w2) := Lib.hid ((HW.out.alloc HW.out.size _).trans (hb2.mono (by have := HW.out.size; simp; omega)))
        have HD2 : Hid (∀ i, i < k + 1 → ∀ j, j < L i → hit cnd q (K i) (V i) j = false) := Lib.hid fun i hi j hj => by
          by_cases e : i = k
          · subst e; exact hno j hj
          · exact HD.out i (by omega) j hj
        clear hb2 l0 l1 l2 l3 l4 l5 l6 r0 r1 r2 r3 hno HO
        go_wp2_with fail
        go_roundw
        case rel => exact ⟨k + 1, by omega, by go_num, Lib.hid (HW2.out.alloc HW2.out.size _), HD2⟩
        case measure => simp [intOf]; omega
    · obtain rfl : k = n := by omega
      have hN1 := HN.out.below HW.out HN.out.lt
      have q0 := hN1.cell 0
      have q1 := hN1.cell 1
      have f0 := hN1.frozen 0
      have f1 := hN1.frozen 1
      clear hN1
      go_wp2_with fail
      refine bodyPost_ret (by simp [results, Try.results24, go_sem, q0, q1]) rfl ⟨.inr ⟨HD.out, rfl⟩, ?_⟩
      exact (HWB.out.setCell (by show w.heap.size ≤ w.heap.size + 1 + 1; omega) _).setCell (by show w.heap.size ≤ w.heap.size + 1 + 1; omega) _
set_option maxRecDepth 100000 in
set_option maxHeartbeats 8000000 in
theorem rev18 (q key : ByteArray) (g o n d : Nat) (h L : Nat → Nat) (K V : Nat → Nat → ByteArray) (T : Nat → Nat → Int) (mp : Value) (cnd : ByteArray → Bool) (w : World) (hA : Arr w g o n h L K V T) (hn : n ≤ 4096) (hL : ∀ i, i < n → L i ≤ 4096) (hC : Cnd mp cnd w) (hK : ∀ i, i < n → ∀ j, j < L i → (K i j).size ≤ maxLen) :
    Calls Try.prog 18 #[.string q, .string key, arrV g o n d, mp] w (AAns cnd q key n L K V T w) := by
  have HX : Hid (∀ W, Below w.heap.size w W → Calls Try.prog 24 #[rq, .string q, .string key, arrV g o n d, .int .u8 0, mp] W (AAns cnd q key n L K V T W)) := Lib.hid fun W hb => arr24 q key g o n d h L K V T mp cnd W (hA.below hb) hn hL (hC.below hb) hK
  clear hA hL hC hK
  have hN := Own.new (w.alloc (.cells #[.string ⟨#[]⟩, .slice (some ⟨g, o, none⟩) n d, .slice none 0 0, .slice none 0 0, .int .i32 0, .int .i32 0, .int .u8 2] 36)) 33 #[.int .i32 0, .int .i32 0]
  have hB : Below w.heap.size w ((w.alloc (.cells #[.string ⟨#[]⟩, .slice (some ⟨g, o, none⟩) n d, .slice none 0 0, .slice none 0 0, .int .i32 0, .int .i32 0, .int .u8 2] 36)).alloc (.cells #[.int .i32 0, .int .i32 0] 33)) := by go_grown
  simp only [World.size_alloc] at hN
  go_enter Try.func18, Try.ntmps18
  go_wp2_with fail
  refine (HX.out _ hB).mono ?_
  generalize (w.alloc (.cells #[.string ⟨#[]⟩, .slice (some ⟨g, o, none⟩) n d, .slice none 0 0, .slice none 0 0, .int .i32 0, .int .i32 0, .int .u8 2] 36)).alloc (.cells #[.int .i32 0, .int .i32 0] 33) = wq at *
  rintro e w1 ⟨hans, b1⟩
  have hN1 := hN.below b1 hN.lt
  have q0 := hN1.cell 0
  have q1 := hN1.cell 1
  have f0 := hN1.frozen 0
  have f1 := hN1.frozen 1
  have HB1 := Lib.hid (hB.trans (b1.mono hB.size))
  clear hN hN1 hB b1 HX
  rcases hans with ⟨i, hi, j, hj, h1, h2, h3, rfl⟩ | ⟨h1, rfl⟩
  · have HJ := Lib.hid (And.intro hi (And.intro hj (And.intro h1 (And.intro h2 h3))))
    clear hi hj h1 h2 h3
    unfold yes3
    go_wp2_with fail
    refine bodyPost_ret (by simp [results, Try.results18, go_sem, q0, q1, yes3]) rfl ⟨.inl ⟨i, HJ.out.1, j, HJ.out.2.1, HJ.out.2.2.1, HJ.out.2.2.2.1, HJ.out.2.2.2.2, rfl⟩, ?_⟩
    exact (HB1.out.setCell (by show w.heap.size ≤ w.heap.size + 1; omega) _).setCell (by show w.heap.size ≤ w.heap.size + 1; omega) _
  · have HJ := Lib.hid h1
    clear h1
    go_wp2_with fail
    refine bodyPost_ret (by simp [results, Try.results18, go_sem, q0, q1]) rfl ⟨.inr ⟨HJ.out, rfl⟩, ?_⟩
    exact (HB1.out.setCell (by show w.heap.size ≤ w.heap.size + 1; omega) _).setCell (by show w.heap.size ≤ w.heap.size + 1; omega) _
end Go.Proofs.Ytjfegbkbhbhcoaa.Yb
