/-
  Proved: convertLocationToInternal and convertMessagesToInternal turn public messages and their notes into internal ones, in order. Conditions: those
  that each theorem names as its hypotheses, and no others.
-/
import Derived.Test.YtmjfdhgfpgeboadBm
import Derived.Test.YtmjfdhgfpgeboadIde
namespace Go.Proofs.Ytmjfdhgfpgeboad.Cv
open Go.RowKit Go.PlainAid Mem Ho Rws Orw Lcs Msr Pg Idp Ct Lp Cl Bm
set_option linter.unusedVariables false
set_option linter.unusedSimpArgs false
theorem row_form {W : World} {lo sz n : Nat} {e : TypeId} {v : Value} {xs : List Value} (h : W.ownsRow lo e sz v n xs) : ∃ A c, v = .slice A n c := by
  rcases h.2 with ⟨rfl, rfl⟩ | ⟨g, cap, cur, rfl, _⟩
  · exact ⟨_, _, rfl⟩
  · exact ⟨_, _, rfl⟩
theorem info43 : (Try.prog.info? 43).map (fun i => (i.zero, i.size, i.bytes)) = some (some (.agg #[.slice none 0 0, .string ⟨#[]⟩, .nilIface, .pointer none, .string ⟨#[]⟩, .bool false, .int .u8 0, .int .u8 0]), 8, 96) := by kernel_rfl
theorem info41 : (Try.prog.info? 41).map (fun i => (i.zero, i.size, i.bytes)) = some (some (.agg #[.nilIface, .pointer none, .string ⟨#[]⟩, .bool false]), 4, 48) := by kernel_rfl
def flatN (nt : Nat → Nt) (Q : Nat → Option Addr) : Nat → List Value
  | 0 => []
  | k + 1 => flatN nt Q k ++ nc4 (nt k).tx (Q k)
theorem flatN_length (nt : Nat → Nt) (Q : Nat → Option Addr) : ∀ k, (flatN nt Q k).length = k * 4
  | 0 => rfl
  | k + 1 => by rw [flatN, List.length_append, flatN_length nt Q k, Nat.add_mul]; rfl
theorem flatN_at (nt : Nat → Nt) (Q : Nat → Option Addr) : ∀ (k i : Nat), i < k → ∀ q, q < 4 → (flatN nt Q k)[i * 4 + q]? = (nc4 (nt i).tx (Q i))[q]?
  | 0, i, h, _, _ => absurd h (by omega)
  | k + 1, i, h, q, hq => by
    rw [flatN]
    rcases Nat.lt_or_ge i k with h1 | h1
    · rw [List.getElem?_append_left (by rw [flatN_length]; omega)]
      exact flatN_at nt Q k i h1 q hq
    · obtain rfl : i = k := by omega
      rw [List.getElem?_append_right (by rw [flatN_length]; omega), flatN_length]
      congr 1
      omega
theorem flatN_congr {nt : Nat → Nt} {Q Q' : Nat → Option Addr} : ∀ (k : Nat), (∀ i, i < k → Q i = Q' i) → flatN nt Q k = flatN nt Q' k
  | 0, _ => rfl
  | k + 1, h => by rw [flatN, flatN, flatN_congr k (fun i hi => h i (by omega)), h k (by omega)]
/-- notes that lie in a row of the call's own -/
theorem inotes_of {W : World} {lo nn c : Nat} {A : Option Addr} {nt : Nat → Nt} {Q : Nat → Option Addr} (h : W.ownsRow lo 41 4 (.slice A nn c) nn (flatN nt Q nn)) (hz : Value.slice A nn c = .slice none 0 0 ↔ nn = 0) (hq : ∀ l, l < nn → Ptr 64 mloc W (nt l).lc (Q l)) : INotes W A nn nn nt := by
  rcases h.2 with ⟨h1, h2⟩ | ⟨g, cap, cur, h1, hlo, hg, hnc, hcm, hcs, htake⟩
  · injection h1 with h1
    exact ⟨rfl, ⟨fun _ => h2, fun _ => h1⟩, fun hn => absurd hn (by omega)⟩
  · injection h1 with h1 h3 h4
    subst h1
    refine ⟨rfl, ⟨fun e => (by cases e), fun e => (by have := hz.2 e; injection this)⟩, fun hn => ⟨g, cur, Q, rfl, hg, fun j hj => ?_⟩⟩
    have hc : ∀ q, q < 4 → cur[j * 4 + q]? = (nc4 (nt j).tx (Q j))[q]? := fun q hqq => by
      rw [← flatN_at nt Q nn j hj q hqq]
      have hx := congrArg (fun (l : List Value) => l[j * 4 + q]?) htake
      rw [← hx]
      simp only [List.getElem?_take]
      rw [if_pos (by omega)]
      simp
    exact ⟨hc 0 (by decide), hc 1 (by decide), hc 2 (by decide), hc 3 (by decide), hq j hj⟩
theorem loc17 (w : World) : Calls Try.prog 17 #[.pointer none] w fun e w' => e = .returned (.pointer none) ∧ w = w' := by
  go_enter Try.func17, Try.ntmps17
  go_wp2
  go_ret
  exact ⟨rfl, rfl⟩
def Conv (kd : Int) (M : Nat → Ms) (lo n m : Nat) (xs : List Value) (w : World) (e : Ending) (w' : World) : Prop :=
  ∃ v' R, e = .returned v' ∧ w'.ownsRow lo 43 8 v' (n + m) (xs ++ flatR R m) ∧ (∀ i, i < m → Ct.Good w' kd (M i) (R i)) ∧ Below lo w w' ∧ Kp w w'
set_option maxRecDepth 100000 in
set_option maxHeartbeats 4000000 in
theorem conv14 (kd : Int) (M : Nat → Ms) (lo n m g mcap : Nat) (v : Value) (xs : List Value) (w : World) (hr : w.ownsRow lo 43 8 v n xs) (hlo : lo ≤ w.heap.size) (hg : AMs w g m M) (hn : n + m ≤ 1048576) (hnn : ∀ i, i < m → (M i).nn ≤ 1048576) :
    Calls Try.prog 14 #[v, .int .u8 kd, .slice (some ⟨g, 0, none⟩) m mcap] w (Conv kd M lo n m xs w) := by
  have HR := Lib.hid hr
  have HG := Lib.hid hg
  have HN := Lib.hid hnn
  obtain ⟨im, him, hzm, hsm, hbm⟩ := info_parts info43
  obtain ⟨jm, hjm, hyz, hys, hyb⟩ := info_parts info41
  obtain ⟨vA, vC, rfl⟩ := row_form hr
  clear hr hg hnn
  go_enter Try.func14, Try.ntmps14
  go_wp2_with fail
  go_loopw [0, 14] (fun x i wr => ∃ (u : Value) (k : Nat) (R : Nat → MR), u = x ∧ k ≤ m ∧ i = .int .i64 k ∧ Hid (wr.ownsRow lo 43 8 u (n + k) (xs ++ flatR R k)) ∧ Hid (∀ i, i < k → Ct.Good wr kd (M i) (R i)) ∧ Hid (Below lo w wr) ∧ Hid (Kp w wr)) (fun _ i _ => m - (intOf i).toNat)
  case atStart => exact ⟨_, 0, fun _ => ⟨none, 0, 0, ⟨#[]⟩, ⟨#[]⟩, 0, 0⟩, rfl, by omega, rfl, Lib.hid (by rw [flatR, List.append_nil]; exact HR.out), Lib.hid (fun i hi => absurd hi (by omega)), Lib.hid (Below.refl _ _), Lib.hid (Kp.refl _)⟩
  case round =>
    obtain ⟨u, k, R, hu, hk, rfl, HRk, HGk, HBk, HKk⟩ := hrel
    subst hu
    obtain ⟨wo, rfl⟩ : ∃ wo : World, wo = wr := ⟨_, rfl⟩
    by_cases hlt : k < m
    · obtain ⟨cs, hcs, hrows⟩ := HG.out.kp HKk.out
      obtain ⟨nA, nc, m0, m1, m2, m3, m4, m5, hnt⟩ := hrows k hlt
      have r0 : wo.cell? ⟨g, k * 6, none⟩ = some (.string (M k).id) := (hcs.cell _).trans m0
      have r1 : wo.cell? ⟨g, k * 6 + 1, none⟩ = some (.string (M k).pl) := (hcs.cell _).trans m1
      have r2 : wo.cell? ⟨g, k * 6 + 2, none⟩ = some (.string (M k).tx) := (hcs.cell _).trans m2
      have r3 : wo.cell? ⟨g, k * 6 + 3, none⟩ = some (.pointer none) := (hcs.cell _).trans m3
      have r4 : wo.cell? ⟨g, k * 6 + 4, none⟩ = some (.slice nA (M k).nn nc) := (hcs.cell _).trans m4
      have r5 : wo.cell? ⟨g, k * 6 + 5, none⟩ = some .nilIface := (hcs.cell _).trans m5
      have hq3 := HN.out k hlt
      have HNT := Lib.hid hnt
      clear m0 m1 m2 m3 m4 m5 hcs hrows hnt
      obtain ⟨m_, hm⟩ : ∃ m_, m_ = M k := ⟨_, rfl⟩
      rw [← hm] at r0 r1 r2 r4 hq3 HNT
      obtain ⟨id, pl, tx, lc, sA, nn, sc, nt⟩ := m_
      simp only [] at r0 r1 r2 r4 hq3 HNT
      have HM := Lib.hid hm
      have q0 : (0 : Int) ≤ (k : Int) := by omega
      have q1 : (k : Int) < (m : Int) := by omega
      clear hm
      go_upto_region 4 with fail
      generalize hWm : wo.alloc _ = Wm
      have hbm0 : Below wo.heap.size wo Wm := by rw [← hWm]; exact (Below.refl _ _).alloc (Nat.le_refl _) _
      have hOm : Own Wm wo.heap.size 53 #[.string id, .string pl, .string tx, .pointer none, .slice nA nn nc, .nilIface] := by rw [← hWm]; exact Own.new _ _ _
      have u4 : Wm.cell? ⟨wo.heap.size, 4, none⟩ = some (.slice nA nn nc) := (hOm.cell 4).trans rfl
      have HOm := Lib.hid hOm
      have HBm := Lib.hid hbm0
      clear hOm hbm0 hWm r0 r1 r2 r3 r4 r5
      go_wp2_with fail
      go_loopw [9, 21] (fun x i wr => ∃ (y : Value) (j : Nat) (Q : Nat → Option Addr), y = x ∧ j ≤ nn ∧ i = .int .i64 j ∧ Hid (wr.ownsRow Wm.heap.size 41 4 y j (flatN nt Q j)) ∧ Hid (y = .slice none 0 0 ↔ j = 0) ∧ Hid (∀ l, l < j → Ptr 64 mloc wr (nt l).lc (Q l)) ∧ Hid (Below Wm.heap.size Wm wr)) (fun _ i _ => nn - (intOf i).toNat)
      case atStart => exact ⟨_, 0, fun _ => none, rfl, by omega, rfl, Lib.hid ⟨rfl, .inl ⟨rfl, rfl⟩⟩, Lib.hid ⟨fun _ => rfl, fun _ => rfl⟩, Lib.hid (fun l hl => absurd hl (by omega)), Lib.hid (Below.refl _ _)⟩
      case round =>
        clear u4
        obtain ⟨y, j, Q, hy, hj, rfl, HRj, HZj, HQj, HBj⟩ := hrel
        subst hy
        obtain ⟨wi, rfl⟩ : ∃ wi : World, wi = wr := ⟨_, rfl⟩
        by_cases hjl : j < nn
        · obtain ⟨ng, ncs, NQ, hna, hno, hnr⟩ := (HNT.out.kp (Kp.of HBm.out)).kp (Kp.of (HBj.out)) (show 0 < nn by omega)
          obtain ⟨n0, n1, hnp⟩ := hnr j hjl
          subst hna
          obtain ⟨nq, hnq⟩ : ∃ nq, nq = NQ j := ⟨_, rfl⟩
          obtain ⟨ntx, hntx⟩ : ∃ ntx, ntx = (nt j).tx := ⟨_, rfl⟩
          rw [← hnq] at n1 hnp
          rw [← hntx] at n0
          have s0 : wi.cell? ⟨ng, j * 2, none⟩ = some (.string ntx) := (hno.cell _).trans n0
          have s1 : wi.cell? ⟨ng, j * 2 + 1, none⟩ = some (.pointer nq) := (hno.cell _).trans n1
          have p0 : (0 : Int) ≤ (j : Int) := by omega
          have p1 : (j : Int) < (nn : Int) := by omega
          have HNP := Lib.hid hnp
          have HTX := Lib.hid hntx
          clear hnr n0 n1 hno hnp hnq hntx
          go_upto_region 8 with fail
          generalize hWn : wi.alloc _ = Wn
          have hbn0 : Below wi.heap.size wi Wn := by rw [← hWn]; exact (Below.refl _ _).alloc (Nat.le_refl _) _
          have hOn : Own Wn wi.heap.size 51 #[.string ntx, .pointer nq] := by rw [← hWn]; exact Own.new _ _ _
          have HOn := Lib.hid hOn
          have HBn := Lib.hid hbn0
          have HH := Lib.hid (Hold.start (row_below (B := 0) HRj.out hbn0) (Nat.le_trans HBj.out.size hbn0.size))
          have HPn := Lib.hid (HNP.out.keep fun p cs o => o.below hbn0 o.lt)
          clear hOn hbn0 hWn s0 s1
          have hS := Lib.hid (show ∀ W, Hold Wn Wm.heap.size 41 4 y j (flatN nt Q j) W → (Hold Wn Wm.heap.size 41 4 y j (flatN nt Q j) W ∧ W.cell? ⟨wi.heap.size, 0, none⟩ = some (.string ntx) ∧ W.cell? ⟨wi.heap.size, 1, none⟩ = some (.pointer nq)) from
            fun W h => ⟨h, ((h.own HOn.out (by decide)).cell 0).trans rfl, ((h.own HOn.out (by decide)).cell 1).trans rfl⟩)
          have hP := Lib.hid (show ∀ W, Hold Wn Wm.heap.size 41 4 y j (flatN nt Q j) W → Ptr 58 aloc W (nt j).lc nq from fun W h => HPn.out.keep fun p cs o => h.own o (by decide))
          have hk1 : j + 1 ≤ maxLen := by unfold maxLen; omega
          have hk2 : (j + 1) * 48 ≤ 140737488355328 := by omega
          go_region_held3 (fun W => Hold Wn Wm.heap.size 41 4 y j (flatN nt Q j) W ∧ W.cell? ⟨wi.heap.size, 0, none⟩ = some (.string ntx) ∧ W.cell? ⟨wi.heap.size, 1, none⟩ = some (.pointer nq))
            (first | assumption | exact hS.out _ (Hold.drew HH.out) | exact hS.out _ (Apped.held hA) | exact hS.out _ (Hold.grow (And.left (by assumption)) hb3) | exact hS.out _ (Hold.alloc (And.left (by assumption)) _))
            (first
              | (go_at_call 17; refine (conv17 (nt j).lc nq _ (hP.out _ (And.left (by assumption)))).mono ?_; rintro e w3 ⟨q3, rfl, hp3, hb3⟩)
              | (obtain ⟨v4, W4, ra, hA⟩ := Hold.app2 (P := Try.prog) 38 38 jm _ 48 Try.underlying38 hjm hyz hys hyb rfl (by decide) hk1 hk2 (And.left (by assumption)) (by first | exact Own.new _ _ _ | exact Own.drew (Own.new _ _ _)) (by rfl) (by simp [Value.oneCell']); refine step_app rfl (.tmp 25) (.tmp 32) 38 rfl rfl _ _ _ (by simp [Act.eval, Act.put]) (by simp [Act.eval, Act.put]) ra ?_))
          have hu3 : Below Wn.heap.size Wn w3 := undrew hb3
          have HR4 : Hid (W4.ownsRow Wm.heap.size 41 4 v4 (j + 1) (flatN nt (fun l => if l = j then q3 else Q l) (j + 1))) := Lib.hid (by
            have h := hA.row
            rw [flatN, flatN_congr j (Q' := Q) (fun i hi => if_neg (by omega)), if_pos rfl, ← HTX.out]
            exact h)
          have HZ4 : Hid (v4 = .slice none 0 0 ↔ j + 1 = 0) := Lib.hid ⟨fun e => absurd (hA.nil.1 e).2 (by decide), fun e => absurd e (by omega)⟩
          have HQ4 : Hid (∀ l, l < j + 1 → Ptr 64 mloc W4 (nt l).lc (if l = j then q3 else Q l)) := Lib.hid (by
            intro l hl
            by_cases h : l = j
            · subst h
              rw [if_pos rfl]
              exact hp3.keep fun p cs o => hA.own (o.alloc _) (by decide)
            · rw [if_neg h]
              exact (((HQj.out l (by omega)).keep fun p cs o => o.below HBn.out o.lt).keep fun p cs o => hA.held.own o (by decide)))
          have HB4 : Hid (Below Wm.heap.size Wm W4) := Lib.hid (HBj.out.trans ((HBn.out.mono HBj.out.size).trans hA.below))
          clear hA hb3 hu3 hS hP hp3
          go_wp2_with fail
          go_roundw
          case rel => exact ⟨_, j + 1, _, rfl, by omega, by go_num, HR4, HZ4, HQ4, HB4⟩
          case measure => simp [intOf]; omega
        · obtain rfl : nn = j := by omega
          have y0 : decide ((nn : Int) < nn) = false := decide_eq_false (by omega)
          obtain ⟨yA, yC, rfl⟩ := row_form HRj.out
          have HIN := Lib.hid (inotes_of HRj.out HZj.out HQj.out)
          have HOi := Lib.hid (HOm.out.below HBj.out HOm.out.lt)
          have HBi := Lib.hid (HBm.out.trans (HBj.out.mono HBm.out.size))
          have HH := Lib.hid (Hold.start (row_below (B := 0) HRk.out HBi.out) (Nat.le_trans (Nat.le_trans hlo HBk.out.size) HBi.out.size))
          go_upto_region 10 with fail
          have hS := Lib.hid (show ∀ W, Hold wi lo 43 8 u (n + k) (xs ++ flatR R k) W → (Hold wi lo 43 8 u (n + k) (xs ++ flatR R k) W ∧ W.cell? ⟨wo.heap.size, 0, none⟩ = some (.string id) ∧ W.cell? ⟨wo.heap.size, 1, none⟩ = some (.string pl) ∧ W.cell? ⟨wo.heap.size, 2, none⟩ = some (.string tx) ∧ W.cell? ⟨wo.heap.size, 3, none⟩ = some (.pointer none) ∧ W.cell? ⟨wo.heap.size, 5, none⟩ = some .nilIface) from
            fun W h => ⟨h, ((h.own HOi.out (by decide)).cell 0).trans rfl, ((h.own HOi.out (by decide)).cell 1).trans rfl, ((h.own HOi.out (by decide)).cell 2).trans rfl, ((h.own HOi.out (by decide)).cell 3).trans rfl, ((h.own HOi.out (by decide)).cell 5).trans rfl⟩)
          have hk1 : n + k + 1 ≤ maxLen := by unfold maxLen; omega
          have hk2 : (n + k + 1) * 96 ≤ 140737488355328 := by omega
          go_region_held3 (fun W => Hold wi lo 43 8 u (n + k) (xs ++ flatR R k) W ∧ W.cell? ⟨wo.heap.size, 0, none⟩ = some (.string id) ∧ W.cell? ⟨wo.heap.size, 1, none⟩ = some (.string pl) ∧ W.cell? ⟨wo.heap.size, 2, none⟩ = some (.string tx) ∧ W.cell? ⟨wo.heap.size, 3, none⟩ = some (.pointer none) ∧ W.cell? ⟨wo.heap.size, 5, none⟩ = some .nilIface)
            (first | assumption | exact hS.out _ (Hold.drew HH.out) | exact hS.out _ (Apped.held hA) | exact hS.out _ (Hold.grow (And.left (by assumption)) hb3) | exact hS.out _ (Hold.alloc (And.left (by assumption)) _))
            (first
              | (go_at_call 18; refine (max18 id _).mono ?_; rintro e w3 ⟨mx, hmx, rfl, hb3⟩)
              | (go_at_call 17; refine (loc17 _).mono ?_; rintro e w5 ⟨rfl, rfl⟩)
              | (obtain ⟨v4, W4, ra, hA⟩ := Hold.app2 (P := Try.prog) 31 31 im _ 96 Try.underlying31 him hzm hsm hbm rfl (by decide) hk1 hk2 (And.left (by assumption)) (by first | exact Own.new _ _ _ | exact Own.drew (Own.new _ _ _)) (by rfl) (by simp [Value.oneCell']); refine step_app rfl (.tmp 35) (.tmp 52) 31 rfl rfl _ _ _ (by simp [Act.eval, Act.put]) (by simp [Act.eval, Act.put]) ra ?_))
          have hu3 : Below wi.heap.size wi w3 := undrew hb3
          have HR4 : Hid (W4.ownsRow lo 43 8 v4 (n + (k + 1)) (xs ++ flatR (fun l => if l = k then ⟨yA, nn, yC, pl, tx, kd, mx⟩ else R l) (k + 1))) := Lib.hid (by
            have h := hA.row
            rw [List.append_assoc] at h
            rw [flatR, flatR_congr k (R' := R) (fun i hi => if_neg (by omega)), if_pos rfl]
            exact h)
          have hK3 : Kp wi w3 := Kp.of hu3
          have hK4 : Kp w3 W4 := fun p t cs o ht => hA.own (o.alloc _) ht
          have hKi : Kp wo wi := Kp.of HBi.out
          have HG4 : Hid (∀ l, l < k + 1 → Ct.Good W4 kd (M l) (if l = k then ⟨yA, nn, yC, pl, tx, kd, mx⟩ else R l)) := Lib.hid (by
            intro l hl
            by_cases h : l = k
            · subst h
              rw [if_pos rfl, ← HM.out]
              exact ⟨rfl, rfl, rfl, hmx, (HIN.out.kp hK3).kp hK4⟩
            · rw [if_neg h]
              exact (((HGk.out l (by omega)).kp hKi).kp hK3).kp hK4)
          have HB4 : Hid (Below lo w W4) := Lib.hid (HBk.out.trans ((HBi.out.mono (Nat.le_trans hlo HBk.out.size)).trans hA.below))
          have HK4 : Hid (Kp w W4) := Lib.hid (((HKk.out.trans hKi).trans hK3).trans hK4)
          clear hA hb3 hu3 hS hK3 hK4 hKi
          go_wp2_with fail
          go_roundw
          case rel => exact ⟨_, k + 1, _, rfl, by omega, by go_num, HR4, HG4, HB4, HK4⟩
          case measure => simp [intOf]; omega
    · obtain rfl : m = k := by omega
      have z0 : decide ((m : Int) < m) = false := decide_eq_false (by omega)
      go_wp2
      go_ret
      exact ⟨_, R, rfl, HRk.out, HGk.out, HBk.out, HKk.out⟩
end Go.Proofs.Ytmjfdhgfpgeboad.Cv
