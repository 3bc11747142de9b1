/-
  Proved: msgsBytes returns some number and changes old memory nowhere. Conditions: those that each theorem names as its hypotheses, and no others.
-/
import Derived.Test.YtmjfdhgfpgeboadBm
namespace Go.Proofs.Ytmjfdhgfpgeboad.By
open Go.RowKit Go.PlainAid Mem Ho Rws Orw Lcs Msr Pg Idp Ct Lp Cl Bm
set_option linter.unusedVariables false
set_option linter.unusedSimpArgs false
def Num (w : World) (e : Ending) (w' : World) : Prop := (∃ x, e = .returned (.int .i64 x)) ∧ Below w.heap.size w w'
theorem bt {W0 W W1 : World} (h : Below W0.heap.size W0 W) (hb : Below W.heap.size W W1) : Below W0.heap.size W0 W1 := h.trans (hb.mono h.size)
set_option maxRecDepth 100000 in
set_option maxHeartbeats 4000000 in
theorem bytes5 (A : Option Addr) (n c : Nat) (M : Nat → Ms) (w : World) (hs : Src w A n M) (hn : n ≤ 1048576) (hnn : ∀ i, i < n → (M i).nn ≤ 1048576) : Calls Try.prog 5 #[.slice A n c] w (Num w) := by
  have HS := Lib.hid hs
  have HN := Lib.hid hnn
  clear hs hnn
  go_enter Try.func5, Try.ntmps5
  go_wp2_with fail
  go_loopw [3, 4] (fun t i wr => ∃ (x : Int) (k : Nat), t = .int .i64 x ∧ i = .int .i64 k ∧ k ≤ n ∧ Hid (Below w.heap.size w wr)) (fun _ i _ => n - (intOf i).toNat)
  case atStart => exact ⟨0, 0, rfl, rfl, by omega, Lib.hid (Below.refl _ _)⟩
  case round =>
    obtain ⟨x, k, rfl, rfl, hk, HB⟩ := hrel
    obtain ⟨wo, rfl⟩ : ∃ wo : World, wo = wr := ⟨_, rfl⟩
    by_cases hlt : k < n
    · have hs := HS.out.below HB.out
      obtain ⟨a, rfl⟩ : ∃ a, A = some a := by
        obtain ⟨b, off, e, _⟩ := hs.1 (by omega)
        exact ⟨_, e⟩
      obtain ⟨b, off, rfl, hbl, hcs⟩ := src_cells hs (by omega)
      have hwf := hs.2 k hlt
      have hc := hcs k hlt
      clear hcs hs
      obtain ⟨m, hm⟩ : ∃ m, m = M k := ⟨_, rfl⟩
      have hq1 := HN.out k hlt
      rw [← hm] at hc hwf hq1
      obtain ⟨id, pl, tx, ⟨pr, fl, ns, ln, co, le, lt, sg⟩, nA, nn, nc, nt⟩ := m
      have hq3 : nn ≤ 1048576 := hq1
      have r0 : wo.cell? ⟨b, off + k * 12, none⟩ = some (.string id) := (hc 0 (by decide)).trans rfl
      have r1 : wo.cell? ⟨b, off + k * 12 + 1, none⟩ = some (.string pl) := (hc 1 (by decide)).trans rfl
      have r2 : wo.cell? ⟨b, off + k * 12 + 2, none⟩ = some (.string tx) := (hc 2 (by decide)).trans rfl
      have r3 : wo.cell? ⟨b, off + k * 12 + 3, none⟩ = some (.bool pr) := (hc 3 (by decide)).trans rfl
      have r4 : wo.cell? ⟨b, off + k * 12 + 4, none⟩ = some (.string fl) := (hc 4 (by decide)).trans rfl
      have r5 : wo.cell? ⟨b, off + k * 12 + 5, none⟩ = some (.string ns) := (hc 5 (by decide)).trans rfl
      have r6 : wo.cell? ⟨b, off + k * 12 + 6, none⟩ = some (.int .i64 ln) := (hc 6 (by decide)).trans rfl
      have r7 : wo.cell? ⟨b, off + k * 12 + 7, none⟩ = some (.int .i64 co) := (hc 7 (by decide)).trans rfl
      have r8 : wo.cell? ⟨b, off + k * 12 + 8, none⟩ = some (.int .i64 le) := (hc 8 (by decide)).trans rfl
      have r9 : wo.cell? ⟨b, off + k * 12 + 9, none⟩ = some (.string lt) := (hc 9 (by decide)).trans rfl
      have r10 : wo.cell? ⟨b, off + k * 12 + 10, none⟩ = some (.string sg) := (hc 10 (by decide)).trans rfl
      have r11 : wo.cell? ⟨b, off + k * 12 + 11, none⟩ = some (.slice nA nn nc) := (hc 11 (by decide)).trans rfl
      clear hc hq1
      have q0 : (0 : Int) ≤ (k : Int) := by omega
      have q1 : (k : Int) < (n : Int) := by omega
      have HV := Lib.hid hwf
      clear hm hwf
      go_upto_region 6 with fail
      generalize hWm : wo.alloc _ = Wm
      have hom : Own Wm wo.heap.size 29 #[.string id, .string pl, .string tx, .bool pr, .string fl, .string ns, .int .i64 ln, .int .i64 co, .int .i64 le, .string lt, .string sg, .slice nA nn nc] := by rw [← hWm]; exact Own.new _ _ _
      have HBm : Hid (Below wo.heap.size wo Wm) := Lib.hid (by rw [← hWm]; exact (Below.refl _ _).alloc (Nat.le_refl _) _)
      have HOm := Lib.hid hom
      clear hom hWm r0 r1 r2 r3 r4 r5 r6 r7 r8 r9 r10 r11
      have hS := Lib.hid (show ∀ W, Below Wm.heap.size Wm W → (fun W => Below Wm.heap.size Wm W ∧ W.cell? ⟨wo.heap.size, 0, none⟩ = some (.string id) ∧ W.cell? ⟨wo.heap.size, 1, none⟩ = some (.string pl) ∧ W.cell? ⟨wo.heap.size, 2, none⟩ = some (.string tx) ∧ W.cell? ⟨wo.heap.size, 3, none⟩ = some (.bool pr) ∧ W.cell? ⟨wo.heap.size, 4, none⟩ = some (.string fl) ∧ W.cell? ⟨wo.heap.size, 5, none⟩ = some (.string ns) ∧ W.cell? ⟨wo.heap.size, 6, none⟩ = some (.int .i64 ln) ∧ W.cell? ⟨wo.heap.size, 7, none⟩ = some (.int .i64 co) ∧ W.cell? ⟨wo.heap.size, 8, none⟩ = some (.int .i64 le) ∧ W.cell? ⟨wo.heap.size, 9, none⟩ = some (.string lt) ∧ W.cell? ⟨wo.heap.size, 10, none⟩ = some (.string sg)) W from fun W h => ⟨h, ((HOm.out.below h HOm.out.lt).cell 0).trans rfl, ((HOm.out.below h HOm.out.lt).cell 1).trans rfl, ((HOm.out.below h HOm.out.lt).cell 2).trans rfl, ((HOm.out.below h HOm.out.lt).cell 3).trans rfl, ((HOm.out.below h HOm.out.lt).cell 4).trans rfl, ((HOm.out.below h HOm.out.lt).cell 5).trans rfl, ((HOm.out.below h HOm.out.lt).cell 6).trans rfl, ((HOm.out.below h HOm.out.lt).cell 7).trans rfl, ((HOm.out.below h HOm.out.lt).cell 8).trans rfl, ((HOm.out.below h HOm.out.lt).cell 9).trans rfl, ((HOm.out.below h HOm.out.lt).cell 10).trans rfl⟩)
      go_region_held3 (fun W => Below Wm.heap.size Wm W ∧ W.cell? ⟨wo.heap.size, 0, none⟩ = some (.string id) ∧ W.cell? ⟨wo.heap.size, 1, none⟩ = some (.string pl) ∧ W.cell? ⟨wo.heap.size, 2, none⟩ = some (.string tx) ∧ W.cell? ⟨wo.heap.size, 3, none⟩ = some (.bool pr) ∧ W.cell? ⟨wo.heap.size, 4, none⟩ = some (.string fl) ∧ W.cell? ⟨wo.heap.size, 5, none⟩ = some (.string ns) ∧ W.cell? ⟨wo.heap.size, 6, none⟩ = some (.int .i64 ln) ∧ W.cell? ⟨wo.heap.size, 7, none⟩ = some (.int .i64 co) ∧ W.cell? ⟨wo.heap.size, 8, none⟩ = some (.int .i64 le) ∧ W.cell? ⟨wo.heap.size, 9, none⟩ = some (.string lt) ∧ W.cell? ⟨wo.heap.size, 10, none⟩ = some (.string sg))
        (first | exact hS.out _ (below_drewN (Below.refl _ _) 1) | exact hS.out _ (bt (And.left (by assumption)) hb3))
        (first
          | (go_at_call 11; refine (bytes11 ⟨pr, fl, ns, ln, co, le, lt, sg⟩ _).mono ?_; rintro e w3 ⟨⟨x3, rfl⟩, hb3⟩))
      have HB3 : Hid (Below Wm.heap.size Wm w3) := Lib.hid (undrew hb3)
      clear hb3 hS
      have u11 : w3.cell? ⟨wo.heap.size, 11, none⟩ = some (.slice nA nn nc) := ((HOm.out.below HB3.out HOm.out.lt).cell 11).trans rfl
      go_upto_region 7 with fail
      generalize IntKind.i64.wrap (x + _) = X
      rcases Bool.eq_false_or_eq_true (decide ((1048576 : Int) < X)) with t0 | t0
      · go_wp2_with fail
        go_ret
        exact ⟨⟨_, rfl⟩, HB.out.trans ((HBm.out.trans (HB3.out.mono HBm.out.size)).mono HB.out.size)⟩
      · go_wp2_with fail
        clear u11
        go_loopw [3, 6] (fun t i wr => ∃ (x : Int) (j : Nat), t = .int .i64 x ∧ i = .int .i64 j ∧ j ≤ nn ∧ Hid (Below Wm.heap.size Wm wr)) (fun _ i _ => nn - (intOf i).toNat)
        case atStart => exact ⟨_, 0, rfl, rfl, by omega, HB3⟩
        case round =>
          clear HB3
          obtain ⟨y, j, rfl, rfl, hj, HBj⟩ := hrel
          obtain ⟨wi, rfl⟩ : ∃ wi : World, wi = wr := ⟨_, rfl⟩
          have HOi := Lib.hid (HOm.out.below HBj.out HOm.out.lt)
          have v11 : wi.cell? ⟨wo.heap.size, 11, none⟩ = some (.slice nA nn nc) := (HOi.out.cell 11).trans rfl
          have HBi := Lib.hid (HBm.out.trans (HBj.out.mono HBm.out.size))
          by_cases hjl : j < nn
          · obtain ⟨na, hna⟩ : ∃ na, nA = some na := by
              obtain ⟨b, off, e, _⟩ := HV.out.rows (show 0 < nn by omega)
              exact ⟨_, e⟩
            obtain ⟨nb, noff, hna2, hnbl, hns⟩ := note_cells (wf_below HV.out HBi.out) hna (show 0 < nn by omega)
            have hnc := hns j hjl
            simp only [] at hnc
            obtain ⟨nj, hnj⟩ : ∃ nj, nj = nt j := ⟨_, rfl⟩
            rw [← hnj] at hnc
            obtain ⟨ntx, npr, nfl, nns, nln, nco, nle, nlt, nsg⟩ := nj
            subst hna2
            subst hna
            have p0 : (0 : Int) ≤ (j : Int) := by omega
            have p1 : (j : Int) < (nn : Int) := by omega
            have HNC := Lib.hid hnc
            clear hns hnc hnj
            go_upto_region 12 with fail
            clear v11
            have hS := Lib.hid (show ∀ W, Below wi.heap.size wi W → (fun W => Below wi.heap.size wi W ∧ W.cell? ⟨wo.heap.size, 11, none⟩ = some (.slice (some ⟨nb, noff, none⟩) nn nc) ∧ W.cell? ⟨nb, noff + j * 9, none⟩ = some (.string ntx) ∧ W.cell? ⟨nb, noff + j * 9 + 1, none⟩ = some (.bool npr) ∧ W.cell? ⟨nb, noff + j * 9 + 2, none⟩ = some (.string nfl) ∧ W.cell? ⟨nb, noff + j * 9 + 3, none⟩ = some (.string nns) ∧ W.cell? ⟨nb, noff + j * 9 + 4, none⟩ = some (.int .i64 nln) ∧ W.cell? ⟨nb, noff + j * 9 + 5, none⟩ = some (.int .i64 nco) ∧ W.cell? ⟨nb, noff + j * 9 + 6, none⟩ = some (.int .i64 nle) ∧ W.cell? ⟨nb, noff + j * 9 + 7, none⟩ = some (.string nlt) ∧ W.cell? ⟨nb, noff + j * 9 + 8, none⟩ = some (.string nsg)) W from fun W h => ⟨h, ((HOi.out.below h HOi.out.lt).cell 11).trans rfl, (h.cell (p := ⟨nb, noff + j * 9, none⟩) hnbl).trans ((HNC.out 0 (by decide)).trans rfl), (h.cell (p := ⟨nb, noff + j * 9 + 1, none⟩) hnbl).trans ((HNC.out 1 (by decide)).trans rfl), (h.cell (p := ⟨nb, noff + j * 9 + 2, none⟩) hnbl).trans ((HNC.out 2 (by decide)).trans rfl), (h.cell (p := ⟨nb, noff + j * 9 + 3, none⟩) hnbl).trans ((HNC.out 3 (by decide)).trans rfl), (h.cell (p := ⟨nb, noff + j * 9 + 4, none⟩) hnbl).trans ((HNC.out 4 (by decide)).trans rfl), (h.cell (p := ⟨nb, noff + j * 9 + 5, none⟩) hnbl).trans ((HNC.out 5 (by decide)).trans rfl), (h.cell (p := ⟨nb, noff + j * 9 + 6, none⟩) hnbl).trans ((HNC.out 6 (by decide)).trans rfl), (h.cell (p := ⟨nb, noff + j * 9 + 7, none⟩) hnbl).trans ((HNC.out 7 (by decide)).trans rfl), (h.cell (p := ⟨nb, noff + j * 9 + 8, none⟩) hnbl).trans ((HNC.out 8 (by decide)).trans rfl)⟩)
            go_region_held3 (fun W => Below wi.heap.size wi W ∧ W.cell? ⟨wo.heap.size, 11, none⟩ = some (.slice (some ⟨nb, noff, none⟩) nn nc) ∧ W.cell? ⟨nb, noff + j * 9, none⟩ = some (.string ntx) ∧ W.cell? ⟨nb, noff + j * 9 + 1, none⟩ = some (.bool npr) ∧ W.cell? ⟨nb, noff + j * 9 + 2, none⟩ = some (.string nfl) ∧ W.cell? ⟨nb, noff + j * 9 + 3, none⟩ = some (.string nns) ∧ W.cell? ⟨nb, noff + j * 9 + 4, none⟩ = some (.int .i64 nln) ∧ W.cell? ⟨nb, noff + j * 9 + 5, none⟩ = some (.int .i64 nco) ∧ W.cell? ⟨nb, noff + j * 9 + 6, none⟩ = some (.int .i64 nle) ∧ W.cell? ⟨nb, noff + j * 9 + 7, none⟩ = some (.string nlt) ∧ W.cell? ⟨nb, noff + j * 9 + 8, none⟩ = some (.string nsg))
              (first | exact hS.out _ (below_drewN (Below.refl _ _) 1) | exact hS.out _ (bt (And.left (by assumption)) hb4))
              (first
                | (go_at_call 11; refine (bytes11 ⟨npr, nfl, nns, nln, nco, nle, nlt, nsg⟩ _).mono ?_; rintro e w4 ⟨⟨x4, rfl⟩, hb4⟩))
            have HB4 : Hid (Below Wm.heap.size Wm w4) := Lib.hid (HBj.out.trans ((undrew hb4).mono HBj.out.size))
            clear hb4 hS
            go_upto_region 13 with fail
            generalize IntKind.i64.wrap (y + _) = Y
            rcases Bool.eq_false_or_eq_true (decide ((1048576 : Int) < Y)) with t1 | t1
            · go_wp2_with fail
              go_ret
              exact ⟨⟨_, rfl⟩, HB.out.trans ((HBm.out.trans (HB4.out.mono HBm.out.size)).mono HB.out.size)⟩
            · go_wp2_with fail
              go_roundw
              case rel => exact ⟨_, j + 1, rfl, by go_num, by omega, HB4⟩
              case measure => simp [intOf]; omega
          · obtain rfl : nn = j := by omega
            have y0 : decide ((nn : Int) < nn) = false := decide_eq_false (by omega)
            go_wp2_with fail
            go_roundw
            case rel => exact ⟨_, k + 1, rfl, by go_num, by omega, Lib.hid (HB.out.trans (HBi.out.mono HB.out.size))⟩
            case measure => simp [intOf]; omega
    · obtain rfl : n = k := by omega
      have z0 : decide ((n : Int) < n) = false := decide_eq_false (by omega)
      go_wp2_with fail
      go_ret
      exact ⟨⟨_, rfl⟩, HB.out⟩
end Go.Proofs.Ytmjfdhgfpgeboad.By
