/-
  Proved: the name minifier is made of its two texts and gives them back, and the law itself returns true. Conditions: those that each theorem names
  as its hypotheses, and no others.
-/
import Derived.Test.YtfmeiljapojoiaaSn
import Derived.Deep.WholeRow
import Derived.Deep.RegionHeld3
import Derived.Deep.MidRow
namespace Go.Proofs.Ytfmeiljapojoiaa.So
open Go.RowKit Go.PlainAid Mem Rws Sa Sl Sm Sn
set_option linter.unusedVariables false
set_option linter.unusedSimpArgs false
theorem head7 (h t : ByteArray) (w : World) : Calls Try.prog 7 #[.agg #[.string h, .string t]] w (Giv (.string h) w) := by
  go_enter Try.func7, Try.ntmps7
  go_wp2_with fail
  go_ret
  exact ⟨rfl, by go_grown⟩
theorem tail8 (h t : ByteArray) (w : World) : Calls Try.prog 8 #[.agg #[.string h, .string t]] w (Giv (.string t) w) := by
  go_enter Try.func8, Try.ntmps8
  go_wp2_with fail
  go_ret
  exact ⟨rfl, by go_grown⟩
set_option maxHeartbeats 4000000 in
theorem new4 (h t : ByteArray) (w : World) : Calls Try.prog 4 #[.string h, .string t] w (Giv (.agg #[.string h, .string t]) w) := by
  go_enter Try.func4, Try.ntmps4
  go_wp2_with fail
  refine bodyPost_ret (v := .agg #[.string h, .string t]) ?_ rfl ⟨rfl, ?_⟩
  · simp [results, Try.results4, go_sem]
  · go_grown
theorem lt_alloc (w : World) (o : Obj) : w.heap.size < (w.alloc o).heap.size := by rw [World.size_alloc]; omega
theorem size22 : (Try.prog.info? 22).map (·.size) = some 64 := by kernel_rfl
theorem cell_of {zc : Array Value} {w : World} {g : Nat} (h : Own w g 22 zc) : w.rangeAt g 0 zc.toList := fun j v hv => by
  rw [Nat.zero_add]
  exact (h.cell j).trans (by simpa using hv)
theorem keepS {w V V' : World} {b4 : Nat} {zc : Array Value} {GH GT : ByteArray}
    (h : V.rangeAt w.heap.size 0 zc.toList ∧ V.cell? ⟨b4, 0, none⟩ = some (.string GH) ∧ V.cell? ⟨b4, 1, none⟩ = some (.string GT) ∧ Below w.heap.size w V ∧ w.heap.size < V.heap.size ∧ b4 < V.heap.size)
    (hb : Below V.heap.size V V') :
    V'.rangeAt w.heap.size 0 zc.toList ∧ V'.cell? ⟨b4, 0, none⟩ = some (.string GH) ∧ V'.cell? ⟨b4, 1, none⟩ = some (.string GT) ∧ Below w.heap.size w V' ∧ w.heap.size < V'.heap.size ∧ b4 < V'.heap.size := by
  obtain ⟨h1, h2, h3, h4, h5, h6⟩ := h
  refine ⟨fun j v hv => ?_, ?_, ?_, h4.trans (hb.mono h4.size), Nat.lt_of_lt_of_le h5 hb.size, Nat.lt_of_lt_of_le h6 hb.size⟩
  · have := h1 j v hv
    rw [← this]; simp only [World.cell?, hb.block _ h5]
  · rw [← h2]; simp only [World.cell?, hb.block _ h6]
  · rw [← h3]; simp only [World.cell?, hb.block _ h6]
set_option maxRecDepth 100000 in
set_option maxHeartbeats 16000000 in
theorem law3 (zc : Array Value) (z : Nat → Int) (w : World) (hz : zc.size = 64) (hzc : ∀ j, j < 64 → zc[j]? = some (.int .i32 (z j))) :
    Calls Try.prog 3 #[.agg zc] w (Giv (.bool true) w) := by
  have HZ := Lib.hid hz
  have HZC := Lib.hid hzc
  have HSZ := Lib.hid (show (Try.prog.info? 22).map (·.size) = some zc.size by rw [hz]; exact size22)
  clear hzc hz
  go_enter Try.func3, Try.ntmps3
  go_wp2_with fail
  refine (new4 _ _ _).mono ?_
  rintro e w1 ⟨rfl, hb1⟩
  have HO := Lib.hid ((Own.new w 22 zc).below hb1 (lt_alloc w _))
  have HB := Lib.hid (((Below.refl w.heap.size w).alloc (Nat.le_refl _) (Obj.cells zc 22)).trans (hb1.mono (Nat.le_of_lt (lt_alloc w _))))
  clear hb1
  go_wp2_with (refine wpList_load_row rfl 22 _ rfl w.heap.size rfl 22 zc (0, 0) _ (HO.out.alloc _) Try.underlying22 rfl HSZ.out ?_)
  generalize hV : w1.alloc _ = v
  have HO1 := Lib.hid (show Own v w.heap.size 22 zc from hV ▸ HO.out.alloc _)
  have HB1 := Lib.hid (show Below w.heap.size w v from hV ▸ HB.out.alloc HB.out.size _)
  clear hV
  refine (shuf5 _ _ zc z v HZ.out HZC.out rfl).mono ?_
  rintro e w2 ⟨d, hpd, rfl, hb2⟩
  have HM := Lib.hid (model rfl hpd.1 hpd.2)
  clear hpd
  generalize catH d 64 = GH at *
  generalize catT d 64 = GT at *
  have HO2 := Lib.hid (HO1.out.below hb2 HO1.out.lt)
  have HB2 := Lib.hid (HB1.out.trans (hb2.mono HB1.out.size))
  clear hb2 HO HB HO1 HB1
  go_wp2_with fail
  generalize hV : w2.alloc _ = w3
  have hS : w3.rangeAt w.heap.size 0 zc.toList ∧ w3.cell? ⟨w2.heap.size, 0, none⟩ = some (.string GH) ∧ w3.cell? ⟨w2.heap.size, 1, none⟩ = some (.string GT) ∧ Below w.heap.size w w3 ∧ w.heap.size < w3.heap.size ∧ w2.heap.size < w3.heap.size := by
    rw [← hV]
    have ho := Own.new w2 24 #[Value.string GH, Value.string GT]
    refine ⟨cell_of (HO2.out.alloc _), (ho.cell 0).trans rfl, (ho.cell 1).trans rfl, HB2.out.alloc HB2.out.size _, Nat.lt_of_lt_of_le HO2.out.lt (Nat.le_of_lt (lt_alloc _ _)), lt_alloc _ _⟩
  have HS := Lib.hid hS
  generalize w2.heap.size = b4 at *
  clear hS hV HO2 HB2
  have hL : (Try.prog.info? 22).map (·.size) = some zc.toList.length := by rw [HSZ.out, Array.length_toList]
  have hU := Try.underlying22
  have hS := HS.out
  clear HSZ HS
  go_region_held3 (fun V => V.rangeAt w.heap.size 0 zc.toList ∧ V.cell? ⟨b4, 0, none⟩ = some (.string GH) ∧ V.cell? ⟨b4, 1, none⟩ = some (.string GT) ∧ Below w.heap.size w V ∧ w.heap.size < V.heap.size ∧ b4 < V.heap.size) (first | with_reducible exact keepS hS (Below.drew (Below.refl _ _)) | with_reducible exact keepS (by assumption) hb | with_reducible assumption) (first | (go_at_call 7; refine (head7 _ _ _).mono ?_; rintro e w' ⟨rfl, hb⟩) | (go_at_call 8; refine (tail8 _ _ _).mono ?_; rintro e w' ⟨rfl, hb⟩) | (go_at_call 6; refine (model6 _ GH GT _ z _ (by simpa using HZ.out) (by simpa using HZC.out) HM.out).mono ?_; rintro e w' ⟨rfl, hb⟩))
  rename_i hHeld
  go_wp2_with fail
  go_ret
  exact ⟨rfl, hHeld.2.2.2.1⟩
end Go.Proofs.Ytfmeiljapojoiaa.So
