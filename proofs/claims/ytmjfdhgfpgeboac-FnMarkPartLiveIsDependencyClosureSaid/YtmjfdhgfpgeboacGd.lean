/-
  Proved: tsClone returns a copy of the files in new blocks, with the same graph. Conditions: those that each theorem names as its hypotheses, and no
  others.
-/
import Derived.Test.YtmjfdhgfpgeboacGb
import Derived.Test.YtmjfdhgfpgeboacFil
namespace Go.Proofs.Ytmjfdhgfpgeboac.Gd
open Go.RowKit Go.PlainAid Mem Ho Rws Orw Fs Ga Gb Fil
set_option linter.unusedVariables false
set_option linter.unusedSimpArgs false
def mkP (p : Pt) (A : Option Addr) (c : Nat) : Pt := ⟨p.kp, A, p.nd, c, p.dep⟩
def mkF (m : Fl) (A : Option Addr) (c : Nat) (dA : Nat → Option Addr) (dc : Nat → Nat) : Fl := ⟨A, m.np, c, fun j => mkP (m.pt j) (dA j) (dc j)⟩
theorem gr_mk (n : Nat) (F : Nat → Fl) (A : Nat → Option Addr) (c : Nat → Nat) (dA : Nat → Nat → Option Addr) (dc : Nat → Nat → Nat) : gr n (fun i => mkF (F i) (A i) (c i) (dA i) (dc i)) = gr n F := rfl
structure CP (w : World) (p : Pt) (A : Option Addr) (c : Nat) : Prop where
  le : p.nd ≤ c
  cap : c ≤ maxLen
  nil : A = none → p.nd = 0 ∧ c = 0
  at_ : 0 < p.nd → ∃ g, A = some ⟨g, 0, none⟩ ∧ Filled w g 25 2 p.nd p.nd (fun k => dcells (p.dep k))
theorem CP.keep {w w' : World} {p : Pt} {A : Option Addr} {c : Nat} (h : CP w p A c) (k : ∀ g cs, Own w g 25 cs → Own w' g 25 cs) : CP w' p A c := ⟨h.le, h.cap, h.nil, fun hn => by
  obtain ⟨g, e, f⟩ := h.at_ hn
  exact ⟨g, e, f.own fun cs o => k _ _ o⟩⟩
structure CF (w : World) (m : Fl) (A : Option Addr) (c : Nat) (dA : Nat → Option Addr) (dc : Nat → Nat) : Prop where
  le : m.np ≤ c
  cap : c ≤ maxLen
  nil : A = none → m.np = 0 ∧ c = 0
  at_ : 0 < m.np → ∃ g, A = some ⟨g, 0, none⟩ ∧ Filled w g 106 2 m.np m.np (fun j => (mkP (m.pt j) (dA j) (dc j)).cells)
  parts : ∀ j, j < m.np → CP w (m.pt j) (dA j) (dc j)
theorem CF.keep {w w' : World} {m : Fl} {A : Option Addr} {c : Nat} {dA : Nat → Option Addr} {dc : Nat → Nat} (h : CF w m A c dA dc) (k : ∀ g t cs, Own w g t cs → t ≠ 103 → Own w' g t cs) : CF w' m A c dA dc := ⟨h.le, h.cap, h.nil, fun hn => by
  obtain ⟨g, e, f⟩ := h.at_ hn
  exact ⟨g, e, f.own fun cs o => k _ _ _ o (by decide)⟩, fun j hj => (h.parts j hj).keep fun g cs o => k _ _ _ o (by decide)⟩
theorem CP.wf {w : World} {p : Pt} {A : Option Addr} {c : Nat} (h : CP w p A c) (hu : ∀ k, k < p.nd → (p.dep k).1 < 4294967296 ∧ (p.dep k).2 < 4294967296) : (mkP p A c).wf w := ⟨h.le, h.cap, h.nil, fun hn => by
  obtain ⟨g, e, f⟩ := h.at_ hn
  show ∃ b off, A = _ ∧ _
  rw [e]
  exact Filled.rd (by decide) (fun i hi => rfl) f hn, hu⟩
theorem CF.wf {w w0 : World} {m : Fl} {A : Option Addr} {c : Nat} {dA : Nat → Option Addr} {dc : Nat → Nat} (h : CF w m A c dA dc) (hm : m.wf w0) : (mkF m A c dA dc).wf w := ⟨h.le, h.cap, h.nil, fun hn => by
  obtain ⟨g, e, f⟩ := h.at_ hn
  show ∃ b off, A = _ ∧ _
  rw [e]
  exact Filled.rd (by decide) (fun i hi => rfl) f hn, fun j hj => (h.parts j hj).wf (hm.parts j hj).u32⟩
def z103 : Array Value := #[.slice none 0 0]
theorem info103 : (Try.prog.info? 103).map (fun i => (i.zero, i.size, i.bytes)) = some (some (.agg z103), 1, 24) := by kernel_rfl
def z106 : Array Value := #[.bool false, .slice none 0 0]
theorem info106 : (Try.prog.info? 106).map (fun i => (i.zero, i.size, i.bytes)) = some (some (.agg z106), 2, 32) := by kernel_rfl
def z25 : Array Value := #[.int .u32 0, .int .u32 0]
theorem info25 : (Try.prog.info? 25).map (fun i => (i.zero, i.size, i.bytes)) = some (some (.agg z25), 2, 8) := by kernel_rfl
theorem size25 : (Try.prog.info? 25).map (·.size) = some 2 := by kernel_rfl
def Cloned (w : World) (n : Nat) (F : Nat → Fl) (e : Ending) (w' : World) : Prop := ∃ A c F', e = .returned (.slice A n c) ∧ Src w' A n F' ∧ gr n F' = gr n F ∧ Below w.heap.size w w'
set_option maxRecDepth 100000 in
set_option maxHeartbeats 4000000 in
theorem clone8 (A : Option Addr) (n c : Nat) (F : Nat → Fl) (w : World) (hs : Src w A n F) (hz : A = none → n = 0 ∧ c = 0) (hn : n ≤ 1048576) (hp : ∀ i, i < n → (F i).np ≤ 1048576) (hd : ∀ i, i < n → ∀ j, j < (F i).np → ((F i).pt j).nd ≤ 1048576) : Calls Try.prog 8 #[.slice A n c] w (Cloned w n F) := by
  have HS := Lib.hid hs
  have HP := Lib.hid hp
  have HDD := Lib.hid hd
  clear hs hp hd
  have hnil := fun W => Lib.run_eql_slice_nil (P := Try.prog) W 22 103 A n c 0 0 Try.underlying22
  cases A with
  | none =>
    obtain ⟨rfl, rfl⟩ := hz rfl
    go_enter Try.func8, Try.ntmps8
    go_wp2
    go_ret
    exact ⟨none, 0, F, rfl, ⟨Rd.zero _ _ _ _ _, fun i hi => absurd hi (by omega)⟩, rfl, Below.refl _ _⟩
  | some a =>
    have hmk := run_mkc (P := Try.prog) 22 103 _ z103 rfl _ _ Try.underlying22 info103 n n (Nat.le_refl _) (by omega) (by omega)
    go_enter Try.func8, Try.ntmps8
    go_wp2_with fail
    generalize hWm : w.alloc _ = Wm
    have HBm : Hid (Below w.heap.size w Wm) := Lib.hid (by rw [← hWm]; exact (Below.refl _ _).alloc (Nat.le_refl _) _)
    have hom : Own Wm w.heap.size 103 (madeCells z103 (n * 1)) := by rw [Nat.mul_one, ← hWm]; exact Own.new _ _ _
    go_loopw [4] (fun i wr => ∃ (k : Nat) (PA : Nat → Option Addr) (PC : Nat → Nat) (DA : Nat → Nat → Option Addr) (DC : Nat → Nat → Nat) (cs : Array Value), i = .int .i64 k ∧ k ≤ n ∧ Hid (Fz wr w.heap.size 103 1 n k (fun i => (mkF (F i) (PA i) (PC i) (DA i) (DC i)).cells) [.slice none 0 0] cs) ∧ Hid (∀ i, i < k → CF wr (F i) (PA i) (PC i) (DA i) (DC i)) ∧ Hid (Below w.heap.size w wr)) (fun i _ => n - (intOf i).toNat)
    case atStart => exact ⟨0, fun _ => none, fun _ => 0, fun _ _ => none, fun _ _ => 0, _, rfl, by omega, Lib.hid (Fz.made hom rfl), Lib.hid (fun i hi => absurd hi (by omega)), HBm⟩
    case round =>
      clear HBm hom hWm
      obtain ⟨k, PA, PC, DA, DC, cs, rfl, hk, HF, HC, HB⟩ := hrel
      obtain ⟨wo, rfl⟩ : ∃ wo : World, wo = wr := ⟨_, rfl⟩
      by_cases hlt : k < n
      · obtain ⟨b, off, hab, hbl, hcs⟩ := file_cell HS.out (by omega)
        injection hab with hab
        subst hab
        have hf := (HB.out.cell (p := ⟨b, off + k, none⟩) hbl).trans (hcs k hlt)
        have hwf := HS.out.2 k hlt
        have hq := HP.out k hlt
        have hdd := HDD.out k hlt
        obtain ⟨m, hm⟩ : ∃ m, m = F k := ⟨_, rfl⟩
        rw [← hm] at hf hwf hq hdd
        obtain ⟨pA, np, pc, pt⟩ := m
        simp only [] at hf hq hdd
        have HM := Lib.hid hm
        have HV := Lib.hid hwf
        have HD3 := Lib.hid hdd
        have hgl : w.heap.size < wo.heap.size := HF.out.own.lt
        have q0 : (0 : Int) ≤ (k : Int) := by omega
        have q1 : (k : Int) < (n : Int) := by omega
        have hnil2 := fun W => Lib.run_eql_slice_nil (P := Try.prog) W 101 106 pA np pc 0 0 Try.underlying101
        clear hcs hwf hdd hm
        cases pA with
        | none =>
          obtain ⟨rfl, rfl⟩ : np = 0 ∧ pc = 0 := HV.out.nil rfl
          go_wp2_with fail
          go_roundw
          case rel =>
            refine ⟨k + 1, fun i => if i = k then none else PA i, fun i => if i = k then 0 else PC i, DA, DC, cs, by go_num, by omega, Lib.hid (Fz.step (F := fun i => (mkF (F i) (if i = k then none else PA i) (if i = k then 0 else PC i) (DA i) (DC i)).cells) (HF.out.congr fun i hi => by simp only [if_neg (show i ≠ k by omega)]) HF.out.own rfl (fun _ _ => rfl) fun q hq => ?_), Lib.hid fun i hi => ?_, HB⟩
            · have := HF.out.rest k (Nat.le_refl _) hlt q hq
              rw [this]
              obtain rfl : q = 0 := by omega
              simp only [if_true]
              rw [← HM.out]
              rfl
            · by_cases h : i = k
              · subst h
                simp only [if_true]
                rw [← HM.out]
                exact ⟨Nat.le_refl _, by unfold maxLen; omega, fun _ => ⟨rfl, rfl⟩, fun h => absurd h (by simp), fun j hj => absurd hj (by simp)⟩
              · simp only [if_neg h]
                exact HC.out i (by omega)
          case measure => simp [intOf]; omega
        | some pa =>
          have hmk2 := run_mkc (P := Try.prog) 101 106 _ z106 rfl _ _ Try.underlying101 info106 np np (Nat.le_refl _) (by omega) (by omega)
          go_upto_region 10 with fail
          generalize hWp : wo.alloc _ = Wp
          have HBp : Hid (Below wo.heap.size wo Wp) := Lib.hid (by rw [← hWp]; exact (Below.refl _ _).alloc (Nat.le_refl _) _)
          have hop : Own Wp wo.heap.size 106 (madeCells z106 (np * 2)) := by rw [← hWp]; exact Own.new _ _ _
          have HFp := Lib.hid (Fz.made (F := fun j => (mkP (pt j) none 0).cells) hop rfl)
          clear hWp hop hmk2 hf
          go_wp2_with fail
          go_loopw [7] (fun i wr => ∃ (j : Nat) (dA : Nat → Option Addr) (dc : Nat → Nat) (cs : Array Value), i = .int .i64 j ∧ j ≤ np ∧ Hid (Fz wr wo.heap.size 106 2 np j (fun j => (mkP (pt j) (dA j) (dc j)).cells) [.bool false, .slice none 0 0] cs) ∧ Hid (∀ l, l < j → CP wr (pt l) (dA l) (dc l)) ∧ Hid (Below wo.heap.size wo wr)) (fun i _ => np - (intOf i).toNat)
          case atStart => exact ⟨0, fun _ => none, fun _ => 0, _, rfl, by omega, HFp, Lib.hid (fun i hi => absurd hi (by omega)), HBp⟩
          case round =>
            clear HFp HBp
            obtain ⟨j, dA, dc, cs2, rfl, hj, HFj, HCj, HBj⟩ := hrel
            obtain ⟨wi, rfl⟩ : ∃ wi : World, wi = wr := ⟨_, rfl⟩
            by_cases hjl : j < np
            · obtain ⟨pb, poff, hpA, hpbl, hpc⟩ := part_cells HV.out (show 0 < np by omega)
              injection hpA with hpA
              subst hpA
              have HBi := Lib.hid (HB.out.trans (HBj.out.mono HB.out.size))
              have hp0 := (HBi.out.cell (p := ⟨pb, poff + j * 2, none⟩) hpbl).trans (hpc j hjl).1
              have hp1 := (hpc j hjl).2
              have hpw := HV.out.parts j hjl
              have hnd := HD3.out j hjl
              simp only [] at hp0 hp1 hpw
              obtain ⟨p, hpp⟩ : ∃ p, p = pt j := ⟨_, rfl⟩
              rw [← hpp] at hp0 hp1 hpw hnd
              obtain ⟨kp, eA, nd, ec, dep⟩ := p
              simp only [] at hp0 hp1 hnd
              have HPP := Lib.hid hpp
              have HPW := Lib.hid hpw
              have hgj : wo.heap.size < wi.heap.size := HFj.out.own.lt
              have x0 : wi.cell? ⟨wo.heap.size, j * 2, none⟩ = some (.bool false) := (HFj.out.own.cell _).trans (HFj.out.rest j (Nat.le_refl _) hjl 0 (by decide))
              have f0 : wi.frozen? ⟨wo.heap.size, j * 2, none⟩ = false := HFj.out.own.frozen _
              have p0 : (0 : Int) ≤ (j : Int) := by omega
              have p1 : (j : Int) < (np : Int) := by omega
              clear hpc hpp hpw
              go_upto_region 14 with fail
              generalize hW1 : wi.setCell _ _ = W1
              have ho1 : Own W1 wo.heap.size 106 (cs2.setIfInBounds (j * 2) (.bool kp)) := by rw [← hW1]; exact HFj.out.own.set _ _
              have hb1 : Below wo.heap.size wo W1 := by rw [← hW1]; exact HBj.out.setCell (Nat.le_refl _) _
              have hk1 : ∀ g t cs, Own wi g t cs → t ≠ 106 → Own W1 g t cs := fun g t cs o ht => by rw [← hW1]; exact o.far (p := ⟨wo.heap.size, j * 2, none⟩) (own_ne o HFj.out.own ht) _
              have hbw1 : Below w.heap.size w W1 := HB.out.trans (hb1.mono HB.out.size)
              have hp1' : W1.cell? ⟨pb, poff + j * 2 + 1, none⟩ = some (.slice eA nd ec) := (hbw1.cell (p := ⟨pb, poff + j * 2 + 1, none⟩) hpbl).trans hp1
              have HBW1 := Lib.hid hbw1
              have HO1 := Lib.hid ho1
              have HB1 := Lib.hid hb1
              have HK1 := Lib.hid hk1
              have hneq := fun W => run_neq_slice_nil (P := Try.prog) W 104 25 eA nd ec Try.underlying104
              have HCS := Lib.hid (show (cs2.setIfInBounds (j * 2) (.bool kp)).size = cs2.size by simp)
              clear hW1 ho1 hb1 hk1 x0 f0 hp0 hbw1
              cases eA with
              | none =>
                have hz0 : nd = 0 ∧ ec = 0 := HPW.out.nil rfl
                obtain ⟨rfl, rfl⟩ := hz0
                go_wp2_with fail
                go_roundw
                case rel =>
                  refine ⟨j + 1, fun l => if l = j then none else dA l, fun l => if l = j then 0 else dc l, _, by go_num, by omega, Lib.hid (Fz.step (F := fun l => (mkP (pt l) (if l = j then none else dA l) (if l = j then 0 else dc l)).cells) (HFj.out.congr fun i hi => by simp only [if_neg (show i ≠ j by omega)]) HO1.out HCS.out (fun l hl => ?_) fun q hq => ?_), Lib.hid fun l hl => ?_, HB1⟩
                  · rw [Array.getElem?_setIfInBounds, if_neg (by omega)]
                  · simp only [if_true]
                    rw [← HPP.out]
                    have hs2 := HFj.out.size
                    match q, hq with
                    | 0, _ => rw [Array.getElem?_setIfInBounds, if_pos (by omega), if_pos (by omega)]; rfl
                    | 1, _ => rw [Array.getElem?_setIfInBounds, if_neg (by omega), HFj.out.rest j (Nat.le_refl _) hjl 1 (by decide)]; rfl
                  · by_cases h : l = j
                    · subst h
                      simp only [if_true]
                      rw [← HPP.out]
                      exact ⟨Nat.le_refl _, by unfold maxLen; omega, fun _ => ⟨rfl, rfl⟩, fun h => absurd h (by simp)⟩
                    · simp only [if_neg h]
                      exact (HCj.out l (by omega)).keep fun g cs o => HK1.out _ _ _ o (by decide)
                case measure => simp [intOf]; omega
              | some ea =>
                have hmk3 := run_mkc (P := Try.prog) 104 25 _ z25 rfl _ _ Try.underlying104 info25 nd nd (Nat.le_refl _) (by omega) (by omega)
                go_upto_region 16 with fail
                generalize hWd : W1.alloc _ = Wd
                have HBd : Hid (Below W1.heap.size W1 Wd) := Lib.hid (by rw [← hWd]; exact (Below.refl _ _).alloc (Nat.le_refl _) _)
                have hod : Own Wd W1.heap.size 25 (madeCells z25 (nd * 2)) := by rw [← hWd]; exact Own.new _ _ _
                have HFd : Hid (Filled Wd W1.heap.size 25 2 nd 0 (fun l => dcells (dep l))) := Lib.hid (Filled.zero hod (made_size _ _))
                clear hWd hod hmk3
                go_wp2_with fail
                go_loopw [9] (fun i wr => ∃ (l : Nat), i = .int .i64 l ∧ l ≤ nd ∧ Hid (Filled wr W1.heap.size 25 2 nd l (fun l => dcells (dep l))) ∧ Hid (Below W1.heap.size W1 wr)) (fun i _ => nd - (intOf i).toNat)
                case atStart => exact ⟨0, rfl, by omega, HFd, HBd⟩
                case round =>
                  clear HFd HBd
                  obtain ⟨l, rfl, hl, HFl, HBl⟩ := hrel
                  obtain ⟨wl, rfl⟩ : ∃ wl : World, wl = wr := ⟨_, rfl⟩
                  have HBwl := Lib.hid (HBW1.out.trans (HBl.out.mono HBW1.out.size))
                  have hp1'' : wl.cell? ⟨pb, poff + j * 2 + 1, none⟩ = some (.slice (some ea) nd ec) := (HBwl.out.cell (p := ⟨pb, poff + j * 2 + 1, none⟩) hpbl).trans hp1
                  by_cases hll : l < nd
                  · obtain ⟨db, doff, hdA, hdbl, hdc⟩ := dep_cells HPW.out (show 0 < nd by omega)
                    injection hdA with hdA
                    subst hdA
                    have hd0 := (HBwl.out.cell (p := ⟨db, doff + l * 2, none⟩) hdbl).trans (hdc l hll).1
                    have hd1 := (HBwl.out.cell (p := ⟨db, doff + l * 2 + 1, none⟩) hdbl).trans (hdc l hll).2
                    simp only [] at hd0 hd1
                    obtain ⟨dd, hdd⟩ : ∃ dd, dd = dep l := ⟨_, rfl⟩
                    rw [← hdd] at hd0 hd1
                    have HDE := Lib.hid hdd
                    have o0 : (0 : Int) ≤ (l : Int) := by omega
                    have o1 : (l : Int) < (nd : Int) := by omega
                    clear hdc hdd hp1'
                    go_wp2_with (first
                      | (refine wpList_put rfl 25 (.tmp 79) (.tmp 78) rfl W1.heap.size (l * 2) 2 [.int .u32 (dd.1 : Int), .int .u32 (dd.2 : Int)] rfl rfl ?it rfl size25 ?i1 ?_)
                      | fail)
                    case it => exact HFl.out.there hll
                    case i1 => simp [Value.oneCell']
                    go_roundw
                    case rel =>
                      exact ⟨l + 1, by go_num, by omega, Lib.hid (HFl.out.set hll (by rw [← HDE.out]; rfl) rfl), Lib.hid (Go.Proofs.Ytmjfdhgfpgeboac.Rws.below_setCells _ (Nat.le_refl _) _ _ _ HBl.out)⟩
                    case measure => simp [intOf]; omega
                  · obtain rfl : nd = l := by omega
                    have y0 : decide ((nd : Int) < nd) = false := decide_eq_false (by omega)
                    clear hp1'
                    have ho2 := HO1.out.below HBl.out HO1.out.lt
                    have x1 : wl.cell? ⟨wo.heap.size, j * 2 + 1, none⟩ = some (.slice none 0 0) := (ho2.cell _).trans (by rw [Array.getElem?_setIfInBounds, if_neg (by omega)]; exact HFj.out.rest j (Nat.le_refl _) hjl 1 (by decide))
                    have f1 : wl.frozen? ⟨wo.heap.size, j * 2 + 1, none⟩ = false := ho2.frozen _
                    have HO2 := Lib.hid ho2
                    have HBwj := Lib.hid (HB1.out.trans (HBl.out.mono HB1.out.size))
                    have hgw1 : wo.heap.size < W1.heap.size := HO1.out.lt
                    clear ho2
                    go_upto_region 12 with fail
                    generalize hW3 : wl.setCell _ _ = W3
                    have HO3 : Hid (Own W3 wo.heap.size 106 ((cs2.setIfInBounds (j * 2) (.bool kp)).setIfInBounds (j * 2 + 1) (.slice (some ⟨W1.heap.size, 0, none⟩) nd nd))) := Lib.hid (by rw [← hW3]; exact HO2.out.set _ _)
                    have HB3 : Hid (Below wo.heap.size wo W3) := Lib.hid (by rw [← hW3]; exact HBwj.out.setCell (Nat.le_refl _) _)
                    have HK3 : Hid (∀ g cs, Own wl g 25 cs → Own W3 g 25 cs) := Lib.hid (fun g cs o => by rw [← hW3]; exact o.far (p := ⟨wo.heap.size, j * 2 + 1, none⟩) (own_ne o HO2.out (by decide)) _)
                    have HS3 := Lib.hid (show ((cs2.setIfInBounds (j * 2) (.bool kp)).setIfInBounds (j * 2 + 1) (.slice (some ⟨W1.heap.size, 0, none⟩) nd nd)).size = cs2.size by simp)
                    clear hW3 x1 f1 hp1''
                    go_wp2_with fail
                    go_roundw
                    case rel =>
                      refine ⟨j + 1, fun l => if l = j then some ⟨W1.heap.size, 0, none⟩ else dA l, fun l => if l = j then nd else dc l, _, by go_num, by omega, Lib.hid (Fz.step (F := fun l => (mkP (pt l) (if l = j then some ⟨W1.heap.size, 0, none⟩ else dA l) (if l = j then nd else dc l)).cells) (HFj.out.congr fun i hi => by simp only [if_neg (show i ≠ j by omega)]) HO3.out HS3.out (fun l hl => ?_) fun q hq => ?_), Lib.hid fun l hl => ?_, HB3⟩
                      · rw [Array.getElem?_setIfInBounds, if_neg (by omega), Array.getElem?_setIfInBounds, if_neg (by omega)]
                      · simp only [if_true]
                        rw [← HPP.out]
                        have hs2 := HFj.out.size
                        match q, hq with
                        | 0, _ => rw [Array.getElem?_setIfInBounds, if_neg (by omega), Array.getElem?_setIfInBounds, if_pos (by omega), if_pos (by omega)]; rfl
                        | 1, _ => rw [Array.getElem?_setIfInBounds, if_pos (by omega), if_pos (by simp; omega)]; rfl
                      · by_cases h : l = j
                        · subst h
                          simp only [if_true]
                          rw [← HPP.out]
                          exact ⟨Nat.le_refl _, by unfold maxLen; omega, fun h => (by cases h), fun _ => ⟨_, rfl, HFl.out.own fun cs o => HK3.out _ _ o⟩⟩
                        · simp only [if_neg h]
                          exact (((HCj.out l (by omega)).keep fun g cs o => HK1.out _ _ _ o (by decide)).keep fun g cs o => o.below HBl.out o.lt).keep fun g cs o => HK3.out _ _ o
                    case measure => simp [intOf]; omega
            · obtain rfl : np = j := by omega
              have y0 : decide ((np : Int) < np) = false := decide_eq_false (by omega)
              have ho2 := HF.out.own.below HBj.out HF.out.own.lt
              have x1 : wi.cell? ⟨w.heap.size, k, none⟩ = some (.slice none 0 0) := (ho2.cell _).trans (by have := HF.out.rest k (Nat.le_refl _) hlt 0 (by decide); rwa [Nat.mul_one, Nat.add_zero] at this)
              have f1 : wi.frozen? ⟨w.heap.size, k, none⟩ = false := ho2.frozen _
              have HO2 := Lib.hid ho2
              have HBwi := Lib.hid (HB.out.trans (HBj.out.mono HB.out.size))
              clear ho2
              go_upto_region 6 with fail
              generalize hW3 : wi.setCell _ _ = W3
              have HO3 : Hid (Own W3 w.heap.size 103 (cs.setIfInBounds k (.slice (some ⟨wo.heap.size, 0, none⟩) np np))) := Lib.hid (by rw [← hW3]; exact HO2.out.set _ _)
              have HB3 : Hid (Below w.heap.size w W3) := Lib.hid (by rw [← hW3]; exact HBwi.out.setCell (Nat.le_refl _) _)
              have HK3 : Hid (∀ g t cs, Own wi g t cs → t ≠ 103 → Own W3 g t cs) := Lib.hid (fun g t cs o ht => by rw [← hW3]; exact o.far (p := ⟨w.heap.size, k, none⟩) (own_ne o HO2.out ht) _)
              have HS3 := Lib.hid (show (cs.setIfInBounds k (.slice (some ⟨wo.heap.size, 0, none⟩) np np)).size = cs.size by simp)
              clear hW3 x1 f1
              go_wp2_with fail
              go_roundw
              case rel =>
                refine ⟨k + 1, fun i => if i = k then some ⟨wo.heap.size, 0, none⟩ else PA i, fun i => if i = k then np else PC i, fun i => if i = k then dA else DA i, fun i => if i = k then dc else DC i, _, by go_num, by omega, Lib.hid (Fz.step (F := fun i => (mkF (F i) (if i = k then some ⟨wo.heap.size, 0, none⟩ else PA i) (if i = k then np else PC i) (if i = k then dA else DA i) (if i = k then dc else DC i)).cells) (HF.out.congr fun i hi => by simp only [if_neg (show i ≠ k by omega)]) HO3.out HS3.out (fun l hl => ?_) fun q hq => ?_), Lib.hid fun i hi => ?_, HB3⟩
                · rw [Array.getElem?_setIfInBounds, if_neg (by omega)]
                · simp only [if_true]
                  rw [← HM.out]
                  have hs2 := HF.out.size
                  obtain rfl : q = 0 := by omega
                  rw [Array.getElem?_setIfInBounds, if_pos (by omega), if_pos (by omega)]
                  rfl
                · by_cases h : i = k
                  · subst h
                    simp only [if_true]
                    rw [← HM.out]
                    exact ⟨Nat.le_refl _, by unfold maxLen; omega, fun h => (by cases h), fun _ => ⟨_, rfl, Filled.own ⟨cs2, HFj.out.own, HFj.out.size, HFj.out.done⟩ fun cs o => HK3.out _ _ _ o (by decide)⟩, fun l hl => (HCj.out l hl).keep fun g cs o => HK3.out _ _ _ o (by decide)⟩
                  · simp only [if_neg h]
                    exact ((HC.out i (by omega)).keep fun g t cs o ht => o.below HBj.out o.lt).keep fun g t cs o ht => HK3.out _ _ _ o ht
              case measure => simp [intOf]; omega
      · obtain rfl : n = k := by omega
        have z0 : decide ((n : Int) < n) = false := decide_eq_false (by omega)
        go_wp2_with fail
        go_ret
        exact ⟨_, n, fun i => mkF (F i) (PA i) (PC i) (DA i) (DC i), rfl, ⟨HF.out.rd (by decide) (fun i hi => rfl), fun i hi => (HC.out i hi).wf (HS.out.2 i hi)⟩, rfl, HB.out⟩
end Go.Proofs.Ytmjfdhgfpgeboac.Gd
