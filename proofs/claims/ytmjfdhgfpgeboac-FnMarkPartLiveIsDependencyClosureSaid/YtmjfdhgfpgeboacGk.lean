/-
  Proved: tsBuild makes the linker files, the parts and their dependencies of the graph, nothing marked. Conditions: those that each theorem names as
  its hypotheses, and no others.
-/
import Derived.Test.YtmjfdhgfpgeboacGi
import Derived.BigRegion
namespace Go.Proofs.Ytmjfdhgfpgeboac.Gk
open Go.RowKit Go.PlainAid Mem Ho Rws Orw Dg Fs Ga Gb Gc Fil Gd Ge Gg Gi
set_option linter.unusedVariables false
set_option linter.unusedSimpArgs false
def z153 : Array Value := #[.map none, .map none, .map none, .pointer none, .pointer none, .slice none 0 0, .map none, .slice none 0 0, .int .u32 0, .int .u32 0, .bool false, .int .u8 0, .bool false, .bool false, .bool false, .bool false, .pointer none, .int .i32 0, .int .i32 0, .int .u8 0, .slice none 0 0, .slice none 0 0, .map none, .pointer none, .pointer none, .nilIface, .int .i32 0, .string ⟨#[]⟩, .slice none 0 0, .string ⟨#[]⟩, .map none, .map none, .map none, .map none, .map none, .slice none 0 0, .map none, .map none, .slice none 0 0, .string ⟨#[]⟩, .int .i32 0, .int .i32 0, .int .i32 0, .int .i32 0, .int .i32 0, .int .i32 0, .int .i32 0, .int .i32 0, .int .u32 0, .int .u32 0, .int .u32 0, .int .u32 0, .int .u32 0, .int .u32 0, .int .i32 0, .int .u32 0, .int .u32 0, .int .u32 0, .int .u32 0, .bool false, .bool false, .bool false, .int .u8 0, .int .u32 0]
def rcells (p np : Nat) : Array Value := z153.setIfInBounds 20 (.slice (some ⟨p, 0, none⟩) np np)
def z119 : Array Value := #[.slice none 0 0, .slice none 0 0, .slice none 0 0, .slice none 0 0, .map none, .map none, .map none, .slice none 0 0, .bool false, .bool false, .bool false]
theorem info119 : (Try.prog.info? 119).map (fun i => (i.zero, i.size, i.bytes)) = some (some (.agg z119), 11, 152) := by kernel_rfl
theorem size119 : (Try.prog.info? 119).map (·.size) = some 11 := by kernel_rfl
theorem info180 : (Try.prog.info? 180).map (fun i => (i.zero, i.size, i.bytes)) = some (some (.agg z180), 24, 280) := by kernel_rfl
theorem info120 : (Try.prog.info? 120).map (fun i => (i.zero, i.size, i.bytes)) = some (some (.pointer none), 1, 8) := by kernel_rfl
theorem info110 : (Try.prog.info? 110).map (fun i => (i.zero, i.size, i.bytes)) = some (some (.agg #[.int .u32 0, .int .u32 0]), 2, 8) := by kernel_rfl
def non : L := fun _ => false
structure Lz (w : World) (lo lf n : Nat) (g : G) (rb pt : Nat → Nat) (db : Nat → Nat → Nat) : Prop where
  files : ∃ cs, Own w lf 180 cs ∧ ∀ i, i < n → cs[i * 24 + 2]? = some (.iface 120 (.pointer (some ⟨rb i, 0, none⟩))) ∧ cs[i * 24 + 23]? = some (.bool false)
  reprs : ∀ i, i < n → Own w (rb i) 153 (rcells (pt i) (g.np i))
  parts : ∀ i, i < n → Filled w (pt i) 119 11 (g.np i) (g.np i) (fun j => prow g db non i j)
  deps : ∀ i, i < n → ∀ j, j < g.np i → Filled w (db i j) 110 2 (g.nd i j) (g.nd i j) (fun k => dcells (g.dep i j k))
  inj : ∀ i j, i < n → j < n → pt i = pt j → i = j
  low : lo ≤ lf ∧ ∀ i, i < n → lo ≤ pt i
def Made (w : World) (n : Nat) (F : Nat → Fl) (e : Ending) (w' : World) : Prop :=
  ∃ lf rp rb pt db cr, e = .returned (.tuple #[.slice (some ⟨lf, 0, none⟩) n n, .slice (some ⟨rp, 0, none⟩) n n]) ∧ Own w' rp 120 cr ∧ (∀ i, i < n → cr[i]? = some (.pointer (some ⟨rb i, 0, none⟩))) ∧ Lz w' w.heap.size lf n (gr n F) rb pt db ∧ Below w.heap.size w w'
set_option maxRecDepth 100000 in
set_option maxHeartbeats 4000000 in
theorem build11 (A : Option Addr) (n c : Nat) (F : Nat → Fl) (w : World) (hs : Src w A n F) (hn : n ≤ 1048576) (hp : ∀ i, i < n → (F i).np ≤ 1048576) (hd : ∀ i, i < n → ∀ j, j < (F i).np → ((F i).pt j).nd ≤ 1048576) : Calls Try.prog 11 #[.slice A n c] w (Made w n F) := by
  have HS := Lib.hid hs
  have HP := Lib.hid hp
  have HDD := Lib.hid hd
  clear hs hp hd
  have hmk := run_mkc (P := Try.prog) 35 180 _ z180 rfl _ _ Try.underlying35 info180 n n (Nat.le_refl _) (by omega) (by omega)
  have hmk2 := run_mkc (P := Try.prog) 36 120 _ #[.pointer none] rfl _ _ Try.underlying36 info120 n n (Nat.le_refl _) (by omega) (by omega)
  go_enter Try.func11, Try.ntmps11
  go_upto_region 4 with fail
  generalize hWm : World.alloc _ _ = Wm
  have HBm : Hid (Below w.heap.size w Wm) := Lib.hid (by rw [← hWm]; go_grown)
  have ho1 : Own Wm w.heap.size 180 (madeCells z180 (n * 24)) := by rw [← hWm]; exact (Own.new _ _ _).alloc _
  have ho2 : Own Wm (w.heap.size + 1) 120 (madeCells #[.pointer none] (n * 1)) := by
    rw [Nat.mul_one, ← hWm]
    have h := Own.new (w.alloc (.cells (madeCells z180 (n * 24)) 180)) 120 (madeCells #[.pointer none] n)
    rwa [show (w.alloc (Obj.cells (madeCells z180 (n * 24)) 180)).heap.size = w.heap.size + 1 by simp] at h
  clear hWm hmk hmk2
  go_loopw [6] (fun i wr => ∃ (k : Nat) (rb pt : Nat → Nat) (db : Nat → Nat → Nat) (cs1 cs2 : Array Value), i = .int .i64 k ∧ k ≤ n ∧ Hid (Fz wr w.heap.size 180 24 n k (fun i => lrow (some ⟨rb i, 0, none⟩)) z180.toList cs1) ∧ Hid (Fz wr (w.heap.size + 1) 120 1 n k (fun i => [.pointer (some ⟨rb i, 0, none⟩)]) [.pointer none] cs2) ∧ Hid (∀ i, i < k → Own wr (rb i) 153 (rcells (pt i) (F i).np)) ∧ Hid (∀ i, i < k → Filled wr (pt i) 119 11 (F i).np (F i).np (fun j => prow (gr n F) db non i j)) ∧ Hid (∀ i, i < k → ∀ j, j < (F i).np → Filled wr (db i j) 110 2 ((F i).pt j).nd ((F i).pt j).nd (fun l => dcells (((F i).pt j).dep l))) ∧ Hid (∀ i, i < k → w.heap.size + 1 < pt i ∧ ∀ j, j < i → pt j < pt i) ∧ Hid (Below w.heap.size w wr)) (fun i _ => n - (intOf i).toNat)
  case atStart => exact ⟨0, fun _ => 0, fun _ => 0, fun _ _ => 0, _, _, rfl, by omega, Lib.hid (Fz.made ho1 rfl), Lib.hid (Fz.made ho2 rfl), Lib.hid (fun i hi => absurd hi (by omega)), Lib.hid (fun i hi => absurd hi (by omega)), Lib.hid (fun i hi => absurd hi (by omega)), Lib.hid (fun i hi => absurd hi (by omega)), HBm⟩
  case round =>
    clear HBm ho1 ho2
    obtain ⟨k, rb, pt, db, cs1, cs2, rfl, hk, HF1, HF2, HR, HPt, HDb, HM, HB⟩ := hrel
    obtain ⟨wo, rfl⟩ : ∃ wo : World, wo = wr := ⟨_, rfl⟩
    by_cases hlt : k < n
    · obtain ⟨b, off, rfl, hbl, hcs⟩ := file_cell HS.out (by omega)
      have hf := (HB.out.cell (p := ⟨b, off + k, none⟩) hbl).trans (hcs k hlt)
      have hwf := HS.out.2 k hlt
      have hq := HP.out k hlt
      have hdd := HDD.out k hlt
      have hfw := hcs k hlt
      obtain ⟨m, hm⟩ : ∃ m, m = F k := ⟨_, rfl⟩
      rw [← hm] at hf hwf hq hdd hfw
      obtain ⟨pA, np, pc, ptt⟩ := m
      simp only [] at hf hq hdd hfw
      have HMM := Lib.hid hm
      have HV := Lib.hid hwf
      have HD3 := Lib.hid hdd
      have HFW := Lib.hid hfw
      have q0 : (0 : Int) ≤ (k : Int) := by omega
      have q1 : (k : Int) < (n : Int) := by omega
      have hgl : w.heap.size + 1 < wo.heap.size := HF2.out.own.lt
      have hmk3 := run_mkc (P := Try.prog) 107 119 _ z119 rfl _ _ Try.underlying107 info119 np np (Nat.le_refl _) (by omega) (by omega)
      clear hcs hwf hdd hm hfw
      go_upto_region 7 with fail
      generalize hWp : wo.alloc _ = Wp
      have HBp : Hid (Below wo.heap.size wo Wp) := Lib.hid (by rw [← hWp]; exact (Below.refl _ _).alloc (Nat.le_refl _) _)
      have hop : Own Wp wo.heap.size 119 (madeCells z119 (np * 11)) := by rw [← hWp]; exact Own.new _ _ _
      have HFp := Lib.hid (Fz.made (F := fun j => prow (gr n F) (fun _ _ => 0) non k j) hop rfl)
      clear hWp hop hmk3 hf
      go_wp2_with fail
      go_loopw [8] (fun i wr => ∃ (j : Nat) (dk : Nat → Nat) (cs3 : Array Value), i = .int .i64 j ∧ j ≤ np ∧ Hid (Fz wr wo.heap.size 119 11 np j (fun j => prow (gr n F) (fun _ j => dk j) non k j) z119.toList cs3) ∧ Hid (∀ j', j' < j → Filled wr (dk j') 110 2 (ptt j').nd (ptt j').nd (fun l => dcells ((ptt j').dep l))) ∧ Hid (Below wo.heap.size wo wr)) (fun i _ => np - (intOf i).toNat)
      case atStart => exact ⟨0, fun _ => 0, _, rfl, by omega, HFp, Lib.hid (fun i hi => absurd hi (by omega)), HBp⟩
      case round =>
        clear HFp HBp
        obtain ⟨j, dk, cs3, rfl, hj, HFj, HDj, HBj⟩ := hrel
        obtain ⟨wi, rfl⟩ : ∃ wi : World, wi = wr := ⟨_, rfl⟩
        have HBi := Lib.hid (HB.out.trans (HBj.out.mono HB.out.size))
        have hfi := (HBi.out.cell (p := ⟨b, off + k, none⟩) hbl).trans HFW.out
        have hgj : wo.heap.size < wi.heap.size := HFj.out.own.lt
        by_cases hjl : j < np
        · obtain ⟨pb, poff, hpA, hpbl, hpc⟩ := part_cells HV.out (show 0 < np by omega)
          simp only [] at hpA
          subst hpA
          have hp0 := (HBi.out.cell (p := ⟨pb, poff + j * 2, none⟩) hpbl).trans (hpc j hjl).1
          have hp1 := (HBi.out.cell (p := ⟨pb, poff + j * 2 + 1, none⟩) hpbl).trans (hpc j hjl).2
          have hpw := HV.out.parts j hjl
          have hnd := HD3.out j hjl
          simp only [] at hp0 hp1 hpw
          obtain ⟨p, hpp⟩ : ∃ p, p = ptt j := ⟨_, rfl⟩
          rw [← hpp] at hp0 hp1 hpw hnd
          obtain ⟨kp, eA, nd, ec, dep⟩ := p
          simp only [] at hp0 hp1 hnd
          have HPP := Lib.hid hpp
          have HPW := Lib.hid hpw
          have p0 : (0 : Int) ≤ (j : Int) := by omega
          have p1 : (j : Int) < (np : Int) := by omega
          have hmk4 := run_mkc (P := Try.prog) 108 110 _ #[.int .u32 0, .int .u32 0] rfl _ _ Try.underlying108 info110 nd nd (Nat.le_refl _) (by omega) (by omega)
          clear hpc hpp hpw
          go_upto_region 11 with fail
          generalize hWa : wi.alloc _ = Wa
          have hoa : Own Wa wi.heap.size 106 #[.bool kp, .slice eA nd ec] := by rw [← hWa]; exact Own.new _ _ _
          have hba : Below wi.heap.size wi Wa := by rw [← hWa]; exact (Below.refl _ _).alloc (Nat.le_refl _) _
          have c1 : Wa.cell? ⟨wi.heap.size, 1, none⟩ = some (.slice eA nd ec) := (hoa.cell 1).trans rfl
          have HOa := Lib.hid hoa
          have HBa := Lib.hid hba
          clear hWa hoa hba hp0 hp1 hfi
          go_upto_region 12 with fail
          generalize hWd : Wa.alloc _ = Wd
          have HBd : Hid (Below Wa.heap.size Wa Wd) := Lib.hid (by rw [← hWd]; exact (Below.refl _ _).alloc (Nat.le_refl _) _)
          have hod : Own Wd Wa.heap.size 110 (madeCells #[.int .u32 0, .int .u32 0] (nd * 2)) := by rw [← hWd]; exact Own.new _ _ _
          have HFd : Hid (Filled Wd Wa.heap.size 110 2 nd 0 (fun l => dcells (dep l))) := Lib.hid (Filled.zero hod (made_size _ _))
          clear hWd hod hmk4 c1
          go_wp2_with fail
          go_loopw [11] (fun i wr => ∃ (l : Nat), i = .int .i64 l ∧ l ≤ nd ∧ Hid (Filled wr Wa.heap.size 110 2 nd l (fun l => dcells (dep l))) ∧ Hid (Below Wa.heap.size Wa wr)) (fun i _ => nd - (intOf i).toNat)
          case atStart => exact ⟨0, rfl, by omega, HFd, HBd⟩
          case round =>
            clear HFd HBd
            obtain ⟨l, rfl, hl, HFl, HBl⟩ := hrel
            obtain ⟨wl, rfl⟩ : ∃ wl : World, wl = wr := ⟨_, rfl⟩
            have HOl := Lib.hid (HOa.out.below HBl.out HOa.out.lt)
            have e0 : wl.cell? ⟨wi.heap.size, 0, none⟩ = some (.bool kp) := (HOl.out.cell 0).trans rfl
            have e1 : wl.cell? ⟨wi.heap.size, 1, none⟩ = some (.slice eA nd ec) := (HOl.out.cell 1).trans rfl
            have HBwl := Lib.hid (HBi.out.trans ((HBa.out.trans (HBl.out.mono HBa.out.size)).mono HBi.out.size))
            by_cases hll : l < nd
            · obtain ⟨db_, doff, hdA, hdbl, hdc⟩ := dep_cells HPW.out (show 0 < nd by omega)
              simp only [] at hdA
              subst hdA
              have hd0 := (HBwl.out.cell (p := ⟨db_, doff + l * 2, none⟩) hdbl).trans (hdc l hll).1
              have hd1 := (HBwl.out.cell (p := ⟨db_, doff + l * 2 + 1, none⟩) hdbl).trans (hdc l hll).2
              simp only [] at hd0 hd1
              obtain ⟨dd, hdd⟩ : ∃ dd, dd = dep l := ⟨_, rfl⟩
              rw [← hdd] at hd0 hd1
              have HDE := Lib.hid hdd
              obtain ⟨y0, y1, x0, x1, f0, f1⟩ := there2 (HFl.out.there hll)
              have o0 : (0 : Int) ≤ (l : Int) := by omega
              have o1 : (l : Int) < (nd : Int) := by omega
              clear hdc hdd
              go_upto_region 15 with fail
              go_region
              generalize hW5 : World.drew (World.setCell (World.setCell _ _ _) _ _) = W5
              have HF5 : Hid (Filled W5 Wa.heap.size 110 2 nd (l + 1) (fun l => dcells (dep l))) := Lib.hid (by
                rw [← hW5, chain2]
                exact (HFl.out.set hll (by rw [← HDE.out]; rfl) rfl).own fun cs o => o.drew)
              have HB5 : Hid (Below Wa.heap.size Wa W5) := Lib.hid (by rw [← hW5, chain2]; exact below_drewN (Go.Proofs.Ytmjfdhgfpgeboac.Rws.below_setCells _ (Nat.le_refl _) _ _ _ HBl.out) 1)
              clear hW5
              go_wp2_with fail
              go_roundw
              case rel => exact ⟨l + 1, by go_num, by omega, HF5, HB5⟩
              case measure => simp [intOf]; omega
            · obtain rfl : nd = l := by omega
              have z9 : decide ((nd : Int) < nd) = false := decide_eq_false (by omega)
              have hlow : wo.heap.size ≤ wi.heap.size := by omega
              have HBwj := Lib.hid (HBj.out.trans ((HBa.out.trans (HBl.out.mono HBa.out.size)).mono hlow))
              have HFl3 := Lib.hid (HFj.out.keep ((HFj.out.own.below HBa.out HFj.out.own.lt).below HBl.out (Nat.lt_of_lt_of_le HFj.out.own.lt HBa.out.size)))
              go_wp2_with (first
                | (refine wpList_put rfl 119 (.tmp 84) (.tmp 83) rfl wo.heap.size (j * 11) 11 [.slice none 0 0, .slice none 0 0, .slice none 0 0, .slice none 0 0, .map none, .map none, .map none, .slice (some ⟨Wa.heap.size, 0, none⟩) nd nd, .bool (!kp), .bool false, .bool false] rfl rfl ?ib rfl size119 ?i2 ?_)
                | fail)
              case ib => exact Own.there HFl3.out.own _ _ (by have := HFl3.out.size; have := Nat.mul_le_mul_right 11 (show j + 1 ≤ np from hjl); omega)
              case i2 => simp [Value.oneCell']
              go_roundw
              case rel =>
                refine ⟨j + 1, fun i => if i = j then Wa.heap.size else dk i, _, by go_num, by omega, Lib.hid (Fz.step (F := fun i => prow (gr n F) (fun _ i => if i = j then Wa.heap.size else dk i) non k i) (HFl3.out.congr fun i hi => by unfold prow; simp only [if_neg (show i ≠ j by omega)]) (Own.setCells _ _ _ _ HFl3.out.own) (putL_size _ _ _) (fun l hl => putL_out _ _ _ _ (by simp; omega)) fun q hq => ?_), Lib.hid fun i hi => ?_, Lib.hid (Go.Proofs.Ytmjfdhgfpgeboac.Rws.below_setCells _ (Nat.le_refl _) _ _ _ HBwj.out)⟩
                · rw [putL_in _ _ _ q (by simpa using hq) (by have := HFl3.out.size; have := Nat.mul_le_mul_right 11 (show j + 1 ≤ np from hjl); omega)]
                  have g1 : (gr n F).nd k j = nd := by show ((F k).pt j).nd = nd; rw [← HMM.out]; show (ptt j).nd = nd; rw [← HPP.out]
                  have g2 : (gr n F).kp k j = kp := by show ((F k).pt j).kp = kp; rw [← HMM.out]; show (ptt j).kp = kp; rw [← HPP.out]
                  unfold prow
                  rw [g1, g2]
                  simp only [if_true]
                  match q, hq with
                  | 0, _ | 1, _ | 2, _ | 3, _ | 4, _ | 5, _ | 6, _ | 7, _ | 8, _ | 9, _ | 10, _ => rfl
                · have kk : ∀ g cs, Own wl g 110 cs → Own (wl.setCells wo.heap.size (j * 11) [.slice none 0 0, .slice none 0 0, .slice none 0 0, .slice none 0 0, .map none, .map none, .map none, .slice (some ⟨Wa.heap.size, 0, none⟩) nd nd, .bool (!kp), .bool false, .bool false]) g 110 cs := fun g cs o => Own.farCells (own_ne o HFl3.out.own (by decide)) _ _ _ o
                  by_cases h : i = j
                  · subst h
                    simp only [if_true]
                    rw [← HPP.out]
                    exact HFl.out.own fun cs o => kk _ _ o
                  · simp only [if_neg h]
                    exact (((HDj.out i (by omega)).own fun cs o => o.below HBa.out o.lt).own fun cs o => o.below HBl.out o.lt).own fun cs o => kk _ _ o
              case measure => simp [intOf]; omega
        · obtain rfl : np = j := by omega
          have y0 : decide ((np : Int) < np) = false := decide_eq_false (by omega)
          go_upto_region 18 with fail
          clear hfi
          generalize hWr : wi.alloc _ = Wr
          have hor : Own Wr wi.heap.size 153 z153 := by rw [← hWr]; exact Own.new _ _ _
          have hbr : Below wi.heap.size wi Wr := by rw [← hWr]; exact (Below.refl _ _).alloc (Nat.le_refl _) _
          have x20 : Wr.cell? ⟨wi.heap.size, 20, none⟩ = some (.slice none 0 0) := (hor.cell 20).trans rfl
          have f20 : Wr.frozen? ⟨wi.heap.size, 20, none⟩ = false := hor.frozen 20
          have HOr := Lib.hid hor
          have HBr := Lib.hid hbr
          clear hWr hor hbr
          go_upto_region 19 with fail
          generalize hWs : Wr.setCell _ _ = Ws
          have HOs : Hid (Own Ws wi.heap.size 153 (rcells wo.heap.size np)) := Lib.hid (by rw [← hWs]; exact HOr.out.set 20 _)
          have K1 : Hid (∀ g t cs, Own wi g t cs → Own Ws g t cs) := Lib.hid (fun g t cs o => by rw [← hWs]; exact (o.below HBr.out o.lt).far (p := ⟨wi.heap.size, 20, none⟩) (by have := o.lt; show g ≠ wi.heap.size; omega) _)
          have HBs : Hid (Below wi.heap.size wi Ws) := Lib.hid (by rw [← hWs]; exact HBr.out.setCell (p := ⟨wi.heap.size, 20, none⟩) (Nat.le_refl _) _)
          have ho2 := K1.out _ _ _ (HF2.out.own.below HBj.out HF2.out.own.lt)
          have x1 : Ws.cell? ⟨w.heap.size + 1, k, none⟩ = some (.pointer none) := (ho2.cell _).trans (by have := HF2.out.rest k (Nat.le_refl _) hlt 0 (by decide); rwa [Nat.mul_one, Nat.add_zero] at this)
          have f1 : Ws.frozen? ⟨w.heap.size + 1, k, none⟩ = false := ho2.frozen _
          have HO2 := Lib.hid ho2
          clear hWs ho2 x20 f20
          go_upto_region 20 with fail
          generalize hWt : Ws.setCell _ _ = Wt
          have HO3 : Hid (Own Wt (w.heap.size + 1) 120 (cs2.setIfInBounds k (.pointer (some ⟨wi.heap.size, 0, none⟩)))) := Lib.hid (by rw [← hWt]; exact HO2.out.set _ _)
          have K2 : Hid (∀ g t cs, Own Ws g t cs → t ≠ 120 → Own Wt g t cs) := Lib.hid (fun g t cs o ht => by rw [← hWt]; exact o.far (p := ⟨w.heap.size + 1, k, none⟩) (own_ne o HO2.out ht) _)
          have HBt : Hid (Below w.heap.size w Wt) := Lib.hid (by rw [← hWt]; exact (HBi.out.trans (HBs.out.mono HBi.out.size)).setCell (p := ⟨w.heap.size + 1, k, none⟩) (by show w.heap.size ≤ w.heap.size + 1; omega) _)
          have HO1 := Lib.hid (K2.out _ _ _ (K1.out _ _ _ (HF1.out.own.below HBj.out HF1.out.own.lt)) (by decide))
          clear hWt x1 f1
          go_wp2_with fail
          refine (js16 (some ⟨wi.heap.size, 0, none⟩) Wt).mono ?_
          rintro e w6 ⟨rfl, hb6⟩
          have HB6 := Lib.hid hb6
          have HO16 := Lib.hid (HO1.out.below hb6 HO1.out.lt)
          have HO36 := Lib.hid (HO3.out.below hb6 HO3.out.lt)
          clear hb6
          go_wp2_with (first
            | (refine wpList_put rfl 180 (.tmp 100) (.tmp 99) rfl w.heap.size (k * 24) 24 (lrow (some ⟨wi.heap.size, 0, none⟩)) rfl rfl ?ic rfl size180 ?i3 ?_)
            | fail)
          case ic => exact Own.there HO16.out _ _ (by have := HF1.out.size; have := Nat.mul_le_mul_right 24 (show k + 1 ≤ n from hlt); omega)
          case i3 => simp [lrow, Value.oneCell']
          have KE : Hid (∀ g t cs, Own wi g t cs → t ≠ 120 → t ≠ 180 → Own (w6.setCells w.heap.size (k * 24) (lrow (some ⟨wi.heap.size, 0, none⟩))) g t cs) := Lib.hid (fun g t cs o h1 h2 => by
            have o2 := K2.out _ _ _ (K1.out _ _ _ o) h1
            have o3 := o2.below HB6.out o2.lt
            exact Own.farCells (own_ne o3 HO16.out h2) _ _ _ o3)
          have KS : Hid (Own (w6.setCells w.heap.size (k * 24) (lrow (some ⟨wi.heap.size, 0, none⟩))) wi.heap.size 153 (rcells wo.heap.size np)) := Lib.hid (by
            have o2 := K2.out _ _ _ HOs.out (by decide)
            have o3 := o2.below HB6.out o2.lt
            exact Own.farCells (own_ne o3 HO16.out (by decide)) _ _ _ o3)
          go_roundw
          case rel =>
            refine ⟨k + 1, fun i => if i = k then wi.heap.size else rb i, fun i => if i = k then wo.heap.size else pt i, fun i j => if i = k then dk j else db i j, _, _, by go_num, by omega,
              Lib.hid (Fz.step (F := fun i => lrow (some ⟨if i = k then wi.heap.size else rb i, 0, none⟩)) (HF1.out.congr fun i hi => by simp only [if_neg (show i ≠ k by omega)]) (Own.setCells _ _ _ _ HO16.out) (putL_size _ _ _) (fun l hl => putL_out _ _ _ _ (by simp [lrow]; omega)) fun q hq => ?_),
              Lib.hid (Fz.step (F := fun i => [.pointer (some ⟨if i = k then wi.heap.size else rb i, 0, none⟩)]) (HF2.out.congr fun i hi => by simp only [if_neg (show i ≠ k by omega)]) (Own.farCells (own_ne HO36.out HO16.out (by decide)) _ _ _ HO36.out) (by simp) (fun l hl => by rw [Array.getElem?_setIfInBounds, if_neg (by omega)]) fun q hq => ?_),
              Lib.hid fun i hi => ?_, Lib.hid fun i hi => ?_, Lib.hid fun i hi j hj => ?_, Lib.hid fun i hi => ?_, Lib.hid (Go.Proofs.Ytmjfdhgfpgeboac.Rws.below_setCells _ (Nat.le_refl _) _ _ _ (HBt.out.trans (HB6.out.mono HBt.out.size)))⟩
            · rw [putL_in _ _ _ q (by simpa [lrow] using hq) (by have := HF1.out.size; have := Nat.mul_le_mul_right 24 (show k + 1 ≤ n from hlt); omega)]
              simp only [if_true]
              rw [List.getElem?_eq_getElem (by simpa [lrow] using hq)]
            · have hs2 := HF2.out.size
              obtain rfl : q = 0 := by omega
              rw [Array.getElem?_setIfInBounds, if_pos (by omega), if_pos (by omega)]
              simp only [if_true]
              rfl
            · by_cases h : i = k
              · subst h
                simp only [if_true]
                rw [← HMM.out]
                exact KS.out
              · simp only [if_neg h]
                have o := HR.out i (by omega)
                exact KE.out _ _ _ (o.below HBj.out o.lt) (by decide) (by decide)
            · by_cases h : i = k
              · subst h
                have e1 : (F i).np = np := by rw [← HMM.out]
                rw [e1]
                simp only [if_true]
                refine Filled.own (Filled.congr (G := fun j => prow (gr n F) (fun i' j => if i' = i then dk j else db i' j) non i j) ⟨cs3, HFj.out.own, HFj.out.size, HFj.out.done⟩ fun j hj => by unfold prow; simp only [if_true]) fun cs o => KE.out _ _ _ o (by decide) (by decide)
              · simp only [if_neg h]
                have hf1 := (HPt.out i (by omega)).own (fun cs o => o.below HBj.out o.lt)
                exact (hf1.congr (G := fun j => prow (gr n F) (fun i' j => if i' = k then dk j else db i' j) non i j) fun j hj => by unfold prow; simp only [if_neg h]).own fun cs o => KE.out _ _ _ o (by decide) (by decide)
            · by_cases h : i = k
              · subst h
                simp only [if_true]
                rw [← HMM.out] at hj ⊢
                exact (HDj.out j hj).own fun cs o => KE.out _ _ _ o (by decide) (by decide)
              · simp only [if_neg h]
                exact ((HDb.out i (by omega) j hj).own fun cs o => o.below HBj.out o.lt).own fun cs o => KE.out _ _ _ o (by decide) (by decide)
            · by_cases h : i = k
              · subst h
                simp only [if_true]
                refine ⟨hgl, fun j hj => ?_⟩
                rw [if_neg (by omega)]
                exact (HPt.out j (by omega)).lt
              · simp only [if_neg h]
                refine ⟨(HM.out i (by omega)).1, fun j hj => ?_⟩
                rw [if_neg (by omega)]
                exact (HM.out i (by omega)).2 j hj
          case measure => simp [intOf]; omega
    · obtain rfl : n = k := by omega
      have z0 : decide ((n : Int) < n) = false := decide_eq_false (by omega)
      go_wp2_with fail
      go_returns
      refine ⟨w.heap.size, w.heap.size + 1, rb, pt, db, cs2, rfl, HF2.out.own, fun i hi => ?_, ⟨⟨cs1, HF1.out.own, fun i hi => ⟨HF1.out.done i hi 2 (by decide), HF1.out.done i hi 23 (by decide)⟩⟩, HR.out, HPt.out, HDb.out, fun i j hi hj e => ?_, Nat.le_refl _, fun i hi => ?_⟩, HB.out⟩
      · have := HF2.out.done i hi 0 (by decide)
        rwa [Nat.mul_one, Nat.add_zero] at this
      · rcases Nat.lt_trichotomy i j with h | h | h
        · have := (HM.out j hj).2 i h; omega
        · exact h
        · have := (HM.out i hi).2 j h; omega
      · have := (HM.out i hi).1; omega
end Go.Proofs.Ytmjfdhgfpgeboac.Gk
