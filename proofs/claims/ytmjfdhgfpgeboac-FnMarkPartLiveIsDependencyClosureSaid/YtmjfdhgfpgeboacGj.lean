/-
  Proved: what ZZnewLinker makes, what ZZmarkPartLiveForTreeShaking does to the marks, and that tsSame answers true where the marks agree. Conditions:
  those that each theorem names as its hypotheses, and no others.
-/
import Derived.Test.YtmjfdhgfpgeboacGi
import Derived.Test.YtmjfdhgfpgeboacGf
import Derived.Test.YtmjfdhgfpgeboacGh
namespace Go.Proofs.Ytmjfdhgfpgeboac.Gj
open Go.RowKit Go.PlainAid Mem Ho Rws Orw Dg Fs Ga Gb Gc Fil Gd Ge Gf Gg Gh Gi
set_option linter.unusedVariables false
set_option linter.unusedSimpArgs false
def New (op lf n : Nat) (w : World) (e : Ending) (w' : World) : Prop := ∃ lc cs, e = .returned (.pointer (some ⟨lc, 0, none⟩)) ∧ Own w' lc 205 cs ∧ cs[0]? = some (.pointer (some ⟨op, 0, none⟩)) ∧ cs[10]? = some (.slice (some ⟨lf, 0, none⟩) n n) ∧ Below w.heap.size w w'
set_option maxRecDepth 100000 in
set_option maxHeartbeats 4000000 in
theorem new12 (op lf n : Nat) (w : World) : Calls Try.prog 12 #[.slice (some ⟨lf, 0, none⟩) n n, .pointer (some ⟨op, 0, none⟩)] w (New op lf n w) := by
  go_enter Try.func12, Try.ntmps12
  go_wp2_with fail
  go_ret
  exact ⟨_, _, rfl, Own.new _ _ _, rfl, rfl, by go_grown⟩
theorem mark13 {lo lc op lf n : Nat} {g : G} {rb pt : Nat → Nat} {db : Nat → Nat → Nat} (hfit : Fit n g) (f p : Nat) (l : L) (w : World) (hf : f < n) (hp : p < g.np f) (hL : Ln w lo lc op lf n g rb pt db l) (hlo : lo ≤ w.heap.size) :
    Calls Try.prog 13 #[.pointer (some ⟨lc, 0, none⟩), .int .u32 (f : Int), .int .u32 (p : Int)] w (Did lo lc op lf n g rb pt db l (.part f p) w) := by
  have H := Lib.hid ((marks hfit (cnt g l n + 1)).2 f p l w hf hp hL hlo (Nat.lt_succ_self _))
  clear hL hf hp hfit
  go_enter Try.func13, Try.ntmps13
  go_wp2_with fail
  refine H.out.mono ?_
  rintro e w1 ⟨rfl, h⟩
  have HH := Lib.hid h
  clear h H
  go_wp2_with fail
  go_end0
  exact ⟨rfl, HH.out⟩
set_option maxRecDepth 100000 in
set_option maxHeartbeats 4000000 in
theorem same15 {lo lo2 lc op lf n fb pb gb rp : Nat} {g : G} {rb pt qb : Nat → Nat} {db : Nat → Nat → Nat} {l l' : L} (w : World) (hfit : Fit n g) (cr : Array Value) (hrp : Own w rp 120 cr) (hcr : ∀ i, i < n → cr[i]? = some (.pointer (some ⟨rb i, 0, none⟩)))
    (hgb : Bo w gb n (fun i => l' (.file i))) (hS : Sp w lo2 fb pb n g qb l) (hL : Ln w lo lc op lf n g rb pt db l') (hfile : ∀ i, i < n → l' (.file i) = l (.file i)) (hpart : ∀ i, i < n → ∀ j, j < g.np i → l' (.part i j) = l (.part i j)) :
    Calls Try.prog 15 #[.slice (some ⟨rp, 0, none⟩) n n, .slice (some ⟨gb, 0, none⟩) n n, .slice (some ⟨fb, 0, none⟩) n n, .slice (some ⟨pb, 0, none⟩) n n] w (Says true w) := by
  have HF := Lib.hid hfit
  have HR := Lib.hid hrp
  have HC := Lib.hid hcr
  have HG := Lib.hid hgb
  have HS := Lib.hid hS
  have HL := Lib.hid hL
  have H1 := Lib.hid hfile
  have H2 := Lib.hid hpart
  have hn := hfit.fn
  clear hfit hrp hcr hgb hS hL hfile hpart
  go_enter Try.func15, Try.ntmps15
  go_wp2_with fail
  go_loopw [9] (fun i wr => ∃ k : Nat, i = .int .i64 k ∧ k ≤ n ∧ Hid (Below w.heap.size w wr)) (fun i _ => n - (intOf i).toNat)
  case atStart => exact ⟨0, rfl, by omega, Lib.hid (Below.refl _ _)⟩
  case round =>
    obtain ⟨k, rfl, hk, HB⟩ := hrel
    obtain ⟨wo, rfl⟩ : ∃ wo : World, wo = wr := ⟨_, rfl⟩
    by_cases hlt : k < n
    · obtain ⟨lv, hlv⟩ : ∃ lv, lv = l (.file k) := ⟨_, rfl⟩
      obtain ⟨rk, hrk⟩ : ∃ rk, rk = rb k := ⟨_, rfl⟩
      obtain ⟨pk, hpk⟩ : ∃ pk, pk = pt k := ⟨_, rfl⟩
      obtain ⟨qk, hqk⟩ : ∃ qk, qk = qb k := ⟨_, rfl⟩
      obtain ⟨np, hnp⟩ : ∃ np, np = g.np k := ⟨_, rfl⟩
      obtain ⟨cx, ox, x20, _⟩ := (HL.out.below HB.out).reprs k hlt
      have a0 : wo.cell? ⟨gb, k, none⟩ = some (.bool lv) := ((HG.out.below HB.out).cell hlt).trans (by rw [H1.out k hlt, hlv])
      have a1 : wo.cell? ⟨fb, k, none⟩ = some (.bool lv) := ((HS.out.below HB.out).files.cell hlt).trans (by rw [hlv])
      have q0 : (0 : Int) ≤ (k : Int) := by omega
      have q1 : (k : Int) < (n : Int) := by omega
      have hnpb : np ≤ 1048576 := by rw [hnp]; exact HF.out.fp k hlt
      have a2 : ∀ m, (wo.drewN m).cell? ⟨rp, k, none⟩ = some (.pointer (some ⟨rk, 0, none⟩)) := fun m => ((HR.out.below HB.out HR.out.lt).cell k).trans (by rw [hrk]; exact HC.out k hlt)
      have a3 : ∀ m, (wo.drewN m).cell? ⟨rk, 20, none⟩ = some (.slice (some ⟨pk, 0, none⟩) np np) := fun m => by rw [hrk, hpk, hnp]; exact (ox.cell 20).trans x20
      have a4 : ∀ m, (wo.drewN m).cell? ⟨pb, k, none⟩ = some (.slice (some ⟨qk, 0, none⟩) np np) := fun m => by rw [hqk, hnp]; exact (HS.out.below HB.out).cellP hlt
      have HPK := Lib.hid hpk
      have HQK := Lib.hid hqk
      have HNP := Lib.hid hnp
      clear hlv hrk hpk hqk hnp ox x20
      go_upto_region 4 with fail
      go_quiet (fail)
      have b2 := a2 nq
      have b3 := a3 nq
      have b4 := a4 nq
      have HBq := Lib.hid (below_drewN HB.out nq)
      clear a0 a1 a2 a3 a4
      generalize wo.drewN nq = Wq at *
      go_wp2_with fail
      go_loopw [11] (fun i wr => ∃ j : Nat, i = .int .i64 j ∧ j ≤ np ∧ Hid (Below w.heap.size w wr)) (fun i _ => np - (intOf i).toNat)
      case atStart => exact ⟨0, rfl, by omega, HBq⟩
      case round =>
        clear b2 b3 b4 HBq
        obtain ⟨j, rfl, hj, HBj⟩ := hrel
        obtain ⟨wi, rfl⟩ : ∃ wi : World, wi = wr := ⟨_, rfl⟩
        by_cases hjl : j < np
        · have hjp : j < g.np k := by rw [← HNP.out]; exact hjl
          obtain ⟨pv, hpv⟩ : ∃ pv, pv = l (.part k j) := ⟨_, rfl⟩
          obtain ⟨cp, op_, hcp⟩ := (HL.out.below HBj.out).parts k hlt
          have c0 : wi.cell? ⟨pk, j * 11 + 10, none⟩ = some (.bool pv) := by rw [HPK.out, hpv, ← H2.out k hlt j hjp]; exact (op_.cell _).trans (hcp j hjp 10 (by decide))
          have c1 : wi.cell? ⟨pb, k, none⟩ = some (.slice (some ⟨qk, 0, none⟩) np np) := by rw [HQK.out, HNP.out]; exact (HS.out.below HBj.out).cellP hlt
          have c2 : wi.cell? ⟨qk, j, none⟩ = some (.bool pv) := by rw [HQK.out, hpv]; exact ((HS.out.below HBj.out).parts k hlt).cell hjp
          have p0 : (0 : Int) ≤ (j : Int) := by omega
          have p1 : (j : Int) < (np : Int) := by omega
          clear hjp hpv op_ hcp
          go_upto_region 12 with fail
          go_quiet (fail)
          have HBn := Lib.hid (below_drewN HBj.out nq)
          go_wp2_with fail
          go_roundw
          case rel => exact ⟨j + 1, by go_num, by omega, HBn⟩
          case measure => simp [intOf]; omega
        · obtain rfl : np = j := by omega
          have y0 : decide ((np : Int) < np) = false := decide_eq_false (by omega)
          go_wp2_with fail
          go_roundw
          case rel => exact ⟨k + 1, by go_num, by omega, HBj⟩
          case measure => simp [intOf]; omega
    · obtain rfl : n = k := by omega
      have z0 : decide ((n : Int) < n) = false := decide_eq_false (by omega)
      go_wp2_with fail
      go_ret
      exact ⟨rfl, HB.out⟩
end Go.Proofs.Ytmjfdhgfpgeboac.Gj
