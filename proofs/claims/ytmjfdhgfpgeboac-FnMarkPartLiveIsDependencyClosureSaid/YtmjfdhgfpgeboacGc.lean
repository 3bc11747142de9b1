/-
  Proved: tsBytes returns some number and tsAllValid answers true only when every dependency is in range. Conditions: those that each theorem names as
  its hypotheses, and no others.
-/
import Derived.Test.YtmjfdhgfpgeboacGb
namespace Go.Proofs.Ytmjfdhgfpgeboac.Gc
open Go.RowKit Go.PlainAid Mem Ho Rws Orw Fs Ga Gb
set_option linter.unusedVariables false
set_option linter.unusedSimpArgs false
def Num (w : World) (e : Ending) (w' : World) : Prop := (∃ x, e = .returned (.int .i64 x)) ∧ Below w.heap.size w w'
set_option maxRecDepth 100000 in
set_option maxHeartbeats 4000000 in
theorem bytes5 (A : Option Addr) (n c : Nat) (F : Nat → Fl) (w : World) (hs : Src w A n F) (hn : n ≤ 1048576) (hp : ∀ i, i < n → (F i).np ≤ 1048576) : Calls Try.prog 5 #[.slice A n c] w (Num w) := by
  have HS := Lib.hid hs
  have HP := Lib.hid hp
  clear hs hp
  go_enter Try.func5, Try.ntmps5
  go_upto_region 2 with fail
  rcases Bool.eq_false_or_eq_true (decide ((1048576 : Int) < 8 * (n : Int))) with t0 | t0
  · go_wp2_with fail
    go_ret
    exact ⟨⟨_, rfl⟩, Below.refl _ _⟩
  go_wp2_with fail
  clear t0
  go_loopw [3, 4] (fun z i wr => ∃ (x : Int) (k : Nat), z = .int .i64 x ∧ i = .int .i64 k ∧ k ≤ n ∧ wr = w) (fun _ i _ => n - (intOf i).toNat)
  case atStart => exact ⟨_, 0, rfl, rfl, by omega, rfl⟩
  case round =>
    obtain ⟨x, k, rfl, rfl, hk, hwr⟩ := hrel
    have hwr2 := hwr.symm
    subst hwr2
    clear hwr
    by_cases hlt : k < n
    · obtain ⟨bl, off, rfl, hbl, hc⟩ := file_cell HS.out (by omega)
      have hf := hc k hlt
      have hwf := HS.out.2 k hlt
      have hq := HP.out k hlt
      generalize F k = m at hf hwf hq
      obtain ⟨pA, np, pc, pt⟩ := m
      simp only [] at hf hq
      have HV := Lib.hid hwf
      have q0 : (0 : Int) ≤ (k : Int) := by omega
      have q1 : (k : Int) < (n : Int) := by omega
      clear hc hwf
      go_upto_region 8 with fail
      generalize hX : wrap64 (x + _) = X
      clear hX
      rcases Bool.eq_false_or_eq_true (decide ((1048576 : Int) < X)) with t0 | t0
      · go_wp2_with fail
        go_ret
        exact ⟨⟨_, rfl⟩, Below.refl _ _⟩
      go_wp2_with fail
      clear t0
      go_loopw [3, 5] (fun z i wr => ∃ (x : Int) (j : Nat), z = .int .i64 x ∧ i = .int .i64 j ∧ j ≤ np ∧ wr = w) (fun _ i _ => np - (intOf i).toNat)
      case atStart => exact ⟨_, 0, rfl, rfl, by omega, rfl⟩
      case round =>
        obtain ⟨x2, j, rfl, rfl, hj, hwr⟩ := hrel
        have hwr2 := hwr.symm
        subst hwr2
        clear hwr
        by_cases hjl : j < np
        · obtain ⟨pb, poff, hpA, hpbl, hpc⟩ := part_cells HV.out (show 0 < np by omega)
          simp only [] at hpA
          subst hpA
          have hd := (hpc j hjl).2
          simp only [] at hd
          generalize (pt j).nd = nd at hd
          generalize (pt j).dA = dA at hd
          generalize (pt j).dc = dc at hd
          have p0 : (0 : Int) ≤ (j : Int) := by omega
          have p1 : (j : Int) < (np : Int) := by omega
          clear hpc
          go_upto_region 14 with fail
          generalize hY : wrap64 (x2 + _) = Y
          clear hY
          rcases Bool.eq_false_or_eq_true (decide ((1048576 : Int) < Y)) with t0 | t0
          · go_wp2_with fail
            go_ret
            exact ⟨⟨_, rfl⟩, Below.refl _ _⟩
          go_wp2_with fail
          go_roundw
          case rel => exact ⟨_, j + 1, rfl, by go_num, by omega, (by first | rfl | trivial)⟩
          case measure => simp [intOf]; omega
        · obtain rfl : np = j := by omega
          have y0 : decide ((np : Int) < np) = false := decide_eq_false (by omega)
          go_wp2_with fail
          go_roundw
          case rel => exact ⟨_, k + 1, rfl, by go_num, by omega, (by first | rfl | trivial)⟩
          case measure => simp [intOf]; omega
    · obtain rfl : n = k := by omega
      have z0 : decide ((n : Int) < n) = false := decide_eq_false (by omega)
      go_wp2_with fail
      go_ret
      exact ⟨⟨_, rfl⟩, Below.refl _ _⟩
def Valid (n : Nat) (F : Nat → Fl) : Prop := ∀ i, i < n → ∀ j, j < (F i).np → ∀ k, k < ((F i).pt j).nd → okD n F (((F i).pt j).dep k).1 (((F i).pt j).dep k).2 = true
def All (n : Nat) (F : Nat → Fl) (w : World) (e : Ending) (w' : World) : Prop := Below w.heap.size w w' ∧ ∃ b, e = .returned (.bool b) ∧ (b = true → Valid n F)
set_option maxRecDepth 100000 in
set_option maxHeartbeats 4000000 in
theorem valid6 (A : Option Addr) (n c : Nat) (F : Nat → Fl) (w : World) (hs : Src w A n F) (hn : n ≤ 1048576) (hp : ∀ i, i < n → (F i).np ≤ 1048576) (hd : ∀ i, i < n → ∀ j, j < (F i).np → ((F i).pt j).nd ≤ 1048576) : Calls Try.prog 6 #[.slice A n c] w (All n F w) := by
  have HS := Lib.hid hs
  have HP := Lib.hid hp
  have HDD := Lib.hid hd
  clear hs hp hd
  go_enter Try.func6, Try.ntmps6
  go_wp2_with fail
  go_loopw [3] (fun i wr => ∃ (k : Nat), i = .int .i64 k ∧ k ≤ n ∧ Hid (Below w.heap.size w wr) ∧ Hid (∀ i, i < k → ∀ j, j < (F i).np → ∀ l, l < ((F i).pt j).nd → okD n F (((F i).pt j).dep l).1 (((F i).pt j).dep l).2 = true)) (fun i _ => n - (intOf i).toNat)
  case atStart => exact ⟨0, rfl, by omega, Lib.hid (Below.refl _ _), Lib.hid (fun i hi => absurd hi (by omega))⟩
  case round =>
    obtain ⟨k, rfl, hk, HB, HO⟩ := hrel
    obtain ⟨wo, rfl⟩ : ∃ wo : World, wo = wr := ⟨_, rfl⟩
    by_cases hlt : k < n
    · go_wp2_with fail
      go_loopw [4] (fun i wr => ∃ (j : Nat), i = .int .i64 j ∧ j ≤ (F k).np ∧ Hid (Below w.heap.size w wr) ∧ Hid (∀ j', j' < j → ∀ l, l < ((F k).pt j').nd → okD n F (((F k).pt j').dep l).1 (((F k).pt j').dep l).2 = true)) (fun i _ => (F k).np - (intOf i).toNat)
      case atStart => exact ⟨0, rfl, by omega, HB, Lib.hid (fun i hi => absurd hi (by omega))⟩
      case round =>
        clear HB
        obtain ⟨j, rfl, hj, HB, HO2⟩ := hrel
        obtain ⟨wi, rfl⟩ : ∃ wi : World, wi = wr := ⟨_, rfl⟩
        have HSi := Lib.hid (HS.out.below HB.out)
        obtain ⟨bl, off, rfl, hbl, hc⟩ := file_cell HSi.out (by omega)
        have hf := hc k hlt
        have hwf := HSi.out.2 k hlt
        have hq := HP.out k hlt
        have hdd := HDD.out k hlt
        obtain ⟨m, hm⟩ : ∃ m, m = F k := ⟨_, rfl⟩
        rw [← hm] at hf hwf hq hj hdd HO2 ⊢
        obtain ⟨pA, np, pc, pt⟩ := m
        simp only [] at hf hq hj hdd HO2 ⊢
        have HM := Lib.hid hm
        have HV := Lib.hid hwf
        have HD3 := Lib.hid hdd
        have q0 : (0 : Int) ≤ (k : Int) := by omega
        have q1 : (k : Int) < (n : Int) := by omega
        clear hc hwf hdd hm
        by_cases hjl : j < np
        · obtain ⟨pb, poff, hpA, hpbl, hpc⟩ := part_cells HV.out (show 0 < np by omega)
          simp only [] at hpA
          subst hpA
          have hd := (hpc j hjl).2
          have hpw := HV.out.parts j hjl
          have hnd := HD3.out j hjl
          simp only [] at hd hpw
          obtain ⟨p, hpp⟩ : ∃ p, p = pt j := ⟨_, rfl⟩
          rw [← hpp] at hd hpw hnd
          obtain ⟨kp, dA, nd, dc, dep⟩ := p
          simp only [] at hd hnd
          have HPP := Lib.hid hpp
          have HPW := Lib.hid hpw
          have p0 : (0 : Int) ≤ (j : Int) := by omega
          have p1 : (j : Int) < (np : Int) := by omega
          clear hpc hpp hpw
          go_wp2_with fail
          go_loopw [6] (fun i wr => ∃ (l : Nat), i = .int .i64 l ∧ l ≤ nd ∧ Hid (Below wi.heap.size wi wr) ∧ Hid (∀ l', l' < l → okD n F (dep l').1 (dep l').2 = true)) (fun i _ => nd - (intOf i).toNat)
          case atStart => exact ⟨0, rfl, by omega, Lib.hid (Below.refl _ _), Lib.hid (fun i hi => absurd hi (by omega))⟩
          case round =>
            clear hf hd
            obtain ⟨l, rfl, hl, HBl, HO3⟩ := hrel
            obtain ⟨wl, rfl⟩ : ∃ wl : World, wl = wr := ⟨_, rfl⟩
            by_cases hll : l < nd
            · obtain ⟨db, doff, hdA, hdbl, hdc⟩ := dep_cells (HPW.out.below HBl.out) (show 0 < nd by omega)
              simp only [] at hdA
              subst hdA
              have hd0 := (hdc l hll).1
              have hd1 := (hdc l hll).2
              have hu := HPW.out.u32 l hll
              simp only [] at hd0 hd1 hu
              obtain ⟨da, hda⟩ : ∃ da, da = (dep l).1 := ⟨_, rfl⟩
              obtain ⟨de, hde⟩ : ∃ de, de = (dep l).2 := ⟨_, rfl⟩
              rw [← hda] at hd0 hu
              rw [← hde] at hd1 hu
              have H7 := Lib.hid (depok7 (some ⟨bl, off, none⟩) n c F da de wl (HSi.out.below HBl.out) (by unfold maxLen; omega) (fun i hi => by have := HP.out i hi; unfold maxLen; omega) hu.1 hu.2)
              have HDA := Lib.hid hda
              have HDE := Lib.hid hde
              have o0 : (0 : Int) ≤ (l : Int) := by omega
              have o1 : (l : Int) < (nd : Int) := by omega
              clear hdc hda hde hu
              go_wp2_with fail
              refine H7.out.mono ?_
              rintro e w7 ⟨rfl, hb7⟩
              have HB7 := Lib.hid (HBl.out.trans (hb7.mono HBl.out.size))
              clear hb7 H7
              cases hok : okD n F da de with
              | false =>
                go_wp2_with fail
                go_ret
                exact ⟨HB.out.trans (HB7.out.mono HB.out.size), false, rfl, fun h => (by cases h)⟩
              | true =>
                have HOK := Lib.hid hok
                clear hok
                go_wp2_with fail
                go_roundw
                case rel =>
                  refine ⟨l + 1, by go_num, by omega, HB7, Lib.hid fun l' hl' => ?_⟩
                  rcases Nat.lt_or_ge l' l with h | h
                  · exact HO3.out l' h
                  · obtain rfl : l' = l := by omega
                    rw [← HDA.out, ← HDE.out]
                    exact HOK.out
                case measure => simp [intOf]; omega
            · obtain rfl : nd = l := by omega
              have y0 : decide ((nd : Int) < nd) = false := decide_eq_false (by omega)
              go_wp2_with fail
              go_roundw
              case rel =>
                refine ⟨j + 1, by go_num, by omega, Lib.hid (HB.out.trans (HBl.out.mono HB.out.size)), Lib.hid fun j' hj' => ?_⟩
                rcases Nat.lt_or_ge j' j with h | h
                · exact HO2.out j' h
                · obtain rfl : j' = j := by omega
                  rw [← HPP.out]
                  exact HO3.out
              case measure => simp [intOf]; omega
        · obtain rfl : np = j := by omega
          have y0 : decide ((np : Int) < np) = false := decide_eq_false (by omega)
          go_wp2_with fail
          go_roundw
          case rel =>
            refine ⟨k + 1, by go_num, by omega, HB, Lib.hid fun i hi => ?_⟩
            rcases Nat.lt_or_ge i k with h | h
            · exact HO.out i h
            · obtain rfl : i = k := by omega
              rw [← HM.out]
              exact HO2.out
          case measure => simp [intOf]; omega
    · obtain rfl : n = k := by omega
      have z0 : decide ((n : Int) < n) = false := decide_eq_false (by omega)
      go_wp2_with fail
      go_ret
      exact ⟨HB.out, true, rfl, fun _ => HO.out⟩
end Go.Proofs.Ytmjfdhgfpgeboac.Gc
