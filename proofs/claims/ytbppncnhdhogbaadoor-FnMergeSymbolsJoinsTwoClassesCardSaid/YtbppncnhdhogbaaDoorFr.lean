/-
  Contract for the laws on symbol links: zzReadTargets reads the links back. Conditions: sizes alone.
-/
import Derived.Test.YtbppncnhdhogbaaDoorFe
namespace Go.Proofs.YtbppncnhdhogbaaDoor.Fr
open Go.RowKit Go.PlainAid Mem Rws Rt Fa Pl Fb Rq Fc Fy Fe
set_option linter.unusedVariables false
/-- The links of D are T. -/
def Lk (n : Nat) (X Y : Nat → Nat) (D : Dat) (T : Nat → Int) : Prop := ∀ i, i < n → (T i = -1 ∧ D.X i = 4294967295 ∧ D.Y i = 4294967295) ∨ ∃ t : Nat, t < n ∧ T i = (t : Int) ∧ D.X i = (X t : Int) ∧ D.Y i = (Y t : Int)
theorem field2 (a0 a1 a2 a3 a4 a5 a6 a7 a8 a9 : Value) (W : World) : (Instr.field 58 (.agg #[a0, a1, a2, a3, a4, a5, a6, a7, a8, a9]) 2).run Tryd.prog W = .ok (.agg #[a2, a3]) W := by kernel_rfl
theorem inv25' (w : World) : Calls Tryd.prog 25 #[] w fun e w' => e = .returned (.agg #[.int .u32 4294967295, .int .u32 4294967295]) ∧ Below w.heap.size w w' := inv25 w
theorem use4 {A B C D Q : Prop} (h : A ∧ B ∧ C ∧ D) (k : A → B → C → D → Q) : Q := k h.1 h.2.1 h.2.2.1 h.2.2.2
def RedOf (n : Nat) (T : Nat → Int) (w : World) (e : Ending) (w' : World) : Prop := ∃ h, e = .returned (.tuple #[.slice (some ⟨h, 0, none⟩) n n, .bool true]) ∧ Rd w' w'.heap.size 1 (some ⟨h, 0, none⟩) n (fun j => .int .i64 (T j)) ∧ Below w.heap.size w w'
set_option maxRecDepth 100000 in
set_option maxHeartbeats 16000000 in
theorem red16 {B G m : Nat} {C g : Nat → Nat} {D : Dat} {w : World} (h : Sy B G m C g D w) (Ar : Option Addr) (n cr : Nat) (X Y : Nat → Nat) (Ac : Option Addr) (cc : Nat) (As : Option Addr) (cs_ : Nat) (T : Nat → Int)
    (hR : Rd w w.heap.size 2 Ar n (pr X Y)) (hC : Rd w w.heap.size 1 Ac m (fun j => .int .i64 (C j))) (hS : Rd w w.heap.size 1 As m (fun j => .int .i64 (P C j)))
    (hL : ∀ i, i < n → Lc C m i (X i) (Y i)) (hK : Lk n X Y D T) (hP : P C m = n) (hn : n ≤ 4096) (hm : m ≤ 4097) :
    Calls Tryd.prog 16 #[smV G m, .slice Ar n cr, .slice Ac m cc, .slice As m cs_] w (RedOf n T w) := by
  have hmk := run_mk (P := Tryd.prog) 30 3 _ _ _ Tryd.underlying30 info3 n n (Nat.le_refl _) (by omega) (by omega)
  have hXb : ∀ i, i < n → X i ≤ 4097 ∧ Y i ≤ 4096 := fun i hi => by
    have h1 := hL i hi
    have h2 := P_at C h1.1
    have h3 := h1.1
    have h4 := h1.2.1
    omega
  have HCELL : Hid (∀ i, i < n → ∀ W, Below w.heap.size w W → Calls Tryd.prog 21 #[smV G m, refV (X i) (Y i)] W fun e w' => e = .returned (.agg #[.pointer none, .string (D.N i), .int .u32 (D.X i), .int .u32 (D.Y i), .int .u32 (D.U i), .int .u32 0, .int .u32 0, .int .u16 (D.K i), .int .u8 0, .int .u8 0]) ∧ Below W.heap.size W w') := Lib.hid fun i hi W hb => cell21 (h.below hb (Nat.le_refl _)) (hL i hi) hm (by have h1 := hL i hi; have h2 := P_at C h1.1; omega)
  have HFLAT : Hid (∀ t, t < n → ∀ W, Below w.heap.size w W → Calls Tryd.prog 17 #[refV (X t) (Y t), .slice Ac m cc, .slice As m cs_] W fun e w' => e = .returned (.int .i64 (t : Int)) ∧ Below W.heap.size W w') := Lib.hid fun t ht W hb => flat17 Ac m cc C As cs_ t (X t) (Y t) (hL t ht) W ((hC.below hb).mono hb.size) ((hS.below hb).mono hb.size) hm (by omega)
  have HR := Lib.hid hR
  have HXB := Lib.hid hXb
  have HK := Lib.hid hK
  clear h hR hC hS hL hK hP hXb
  unfold smV
  have hf2 := field2
  go_enter Tryd.func16, Tryd.ntmps16
  go_wp2_with fail
  go_loopw [12] (fun i wr => ∃ (k : Nat) (cs : Array Value), k ≤ n ∧ i = .int .i64 k ∧ Own wr (w.heap.size + 1) 3 cs ∧ Own wr w.heap.size 40 #[.slice (some ⟨G, 0, none⟩) m m] ∧ cs.size = n ∧ (∀ j, j < k → cs[j]? = some (.int .i64 (T j))) ∧ (∀ j, j < n → ∃ s, cs[j]? = some (.int .i64 s)) ∧ Below w.heap.size w wr) (fun i _ => n - (intOf i).toNat)
  case atStart =>
    refine ⟨0, madeCells (Value.int .i64 0).cells n, by omega, rfl, ?_, (Own.new w _ _).alloc _, by simp [size_madeCells], by omega, fun j hj => ⟨0, ?_⟩, by go_grown⟩
    · have := Own.new (w.alloc (.cells #[.slice (some ⟨G, 0, none⟩) m m] 40)) 3 (madeCells (Value.int .i64 0).cells n)
      rw [World.size_alloc] at this
      exact this
    · rw [made_at _ _ _ (by omega)]
      show some ((#[Value.int .i64 0] : Array Value)[j % 1]!) = _
      rw [Nat.mod_one]
      rfl
  case round =>
    clear hmk
    obtain ⟨k, cs, hk, rfl, ho, hbx, hsz, hd, he, hb⟩ := hrel
    obtain ⟨wo, rfl⟩ : ∃ wo : World, wo = wr := ⟨_, rfl⟩
    have HO := Lib.hid ho
    have HBX := Lib.hid hbx
    have HSZ := Lib.hid hsz
    have HD := Lib.hid hd
    have HE := Lib.hid he
    have HB := Lib.hid hb
    clear ho hbx hsz hd he hb
    by_cases hlt : k < n
    · have hbc := HBX.out.cell 0
      simp only [List.getElem?_toArray, List.getElem?_cons_zero] at hbc
      obtain ⟨br, or, rfl, hbr, hcr⟩ := HR.out (by omega)
      have r1 : wo.cell? ⟨br, or + k * 2, none⟩ = some (.int .u32 (X k)) := (HB.out.cell (p := ⟨br, or + k * 2, none⟩) hbr).trans ((hcr (k * 2) (by omega)).trans (by rw [(pr_at X Y k).1]))
      have r2 : wo.cell? ⟨br, or + k * 2 + 1, none⟩ = some (.int .u32 (Y k)) := (HB.out.cell (p := ⟨br, or + k * 2 + 1, none⟩) hbr).trans ((hcr (k * 2 + 1) (by omega)).trans (by rw [(pr_at X Y k).2]))
      obtain ⟨x1, x2⟩ := HXB.out k hlt
      have hwz := HB.out.size
      have hbrl : br < wo.heap.size := by omega
      have hwl : w.heap.size < wo.heap.size := HBX.out.lt
      have i0 : (0 : Int) ≤ (k : Int) := by omega
      have i1 : (k : Int) < (n : Int) := by omega
      have t1 : decide (k < n) = true := decide_eq_true hlt
      clear hcr
      have HQ : Hid (∀ w1, Below (wo.alloc (.cells #[.int .u32 0, .int .u32 0] 43)).drew.heap.size (wo.alloc (.cells #[.int .u32 0, .int .u32 0] 43)).drew w1 → w1.cell? ⟨wo.heap.size, 0, none⟩ = some (.int .u32 0) ∧ w1.cell? ⟨wo.heap.size, 1, none⟩ = some (.int .u32 0) ∧ w1.frozen? ⟨wo.heap.size, 0, none⟩ = false ∧ w1.frozen? ⟨wo.heap.size, 1, none⟩ = false) := Lib.hid fun w1 hb => by
        have hn := ((Own.new wo 43 #[.int .u32 0, .int .u32 0]).drew).below hb (by simp)
        exact ⟨(hn.cell 0).trans rfl, (hn.cell 1).trans rfl, hn.frozen 0, hn.frozen 1⟩
      rcases HK.out k hlt with ⟨ht, hx, hy⟩ | ⟨t, htn, ht, hx, hy⟩
      · have HCk := HCELL.out k hlt
        rw [hx, hy] at HCk
        have HCK := Lib.hid HCk
        have HT := Lib.hid ht
        clear HCk ht hx hy
        go_wp2_with fail
        go_region_with (go_at_call 21; refine (HCK.out _ (by first | exact HB.out | exact below_drew HB.out | exact below_drew (HB.out.alloc hwz _) | exact (below_drew HB.out).alloc hwz _)).mono ?_; rintro e w1 ⟨rfl, hb1⟩; first | (refine use4 (HQ.out _ hb1) ?_; intro q0 q1 g0 g1) | skip)
        all_goals first
          | (refine (fun (h1 : Below wo.drew.heap.size wo.drew w1) => ?_) hb1
             have HW : Hid (Below wo.heap.size wo (w1.alloc (.cells #[.int .u32 4294967295, .int .u32 4294967295] 43))) := Lib.hid (Below.alloc ((below_drew (Below.refl _ wo)).trans h1) h1.size _)
             have hn := Own.new w1 43 #[.int .u32 4294967295, .int .u32 4294967295]
             clear h1 hb1
             generalize w1.alloc _ = W at *
             generalize w1.heap.size = L at *)
          | (have HW : Hid (Below wo.heap.size wo ((w1.setCell ⟨wo.heap.size, 0, none⟩ (.int .u32 4294967295)).setCell ⟨wo.heap.size, 1, none⟩ (.int .u32 4294967295))) := Lib.hid (((((below_drew (Below.alloc (Below.refl _ wo) (Nat.le_refl _) _)).trans (hb1.mono (by simp))).setCell (Nat.le_refl _) _).setCell (Nat.le_refl _) _))
             have hn : Own ((w1.setCell ⟨wo.heap.size, 0, none⟩ (.int .u32 4294967295)).setCell ⟨wo.heap.size, 1, none⟩ (.int .u32 4294967295)) wo.heap.size 43 #[.int .u32 4294967295, .int .u32 4294967295] := Own.set (Own.set (((Own.new wo 43 #[.int .u32 0, .int .u32 0]).drew).below hb1 (by simp)) 0 _) 1 _
             clear q0 q1 g0 g1 hb1
             generalize (w1.setCell _ _).setCell _ _ = W at *
             obtain ⟨L, hL⟩ : ∃ L : Nat, L = wo.heap.size := ⟨_, rfl⟩
             rw [← hL] at hn ⊢
             clear hL)
        all_goals
          have l0 := (hn.cell 0).trans (show _ = some (Value.int .u32 4294967295) from rfl)
          have l1 := (hn.cell 1).trans (show _ = some (Value.int .u32 4294967295) from rfl)
          have hLl := hn.lt
          have hbW := HB.out.trans (HW.out.mono hwz)
          have HBW := Lib.hid hbW
          have hwW := hbW.size
          have HO2 := Lib.hid (HO.out.below HW.out HO.out.lt)
          have HBX2 := Lib.hid (HBX.out.below HW.out HBX.out.lt)
          clear hn hbW HQ HO HBX HW hbc r1 r2 HCK
          go_wp2_with fail
          go_region_held3 (fun W' => W'.cell? ⟨L, 0, none⟩ = some (.int .u32 4294967295) ∧ W'.cell? ⟨L, 1, none⟩ = some (.int .u32 4294967295)) (first | exact ⟨l0, l1⟩ | exact ⟨(hb2.cell (p := ⟨L, 0, none⟩) hLl).trans l0, (hb2.cell (p := ⟨L, 1, none⟩) hLl).trans l1⟩) ((go_at_call 25; refine (inv25' _).mono ?_; rintro e w2 ⟨rfl, hb2⟩))
          have HW2 := Lib.hid ((below_drew HBW.out).trans (hb2.mono hwW))
          have ho2 := (HO2.out.drew).below hb2 HO2.out.lt
          have HBX3 := Lib.hid ((HBX2.out.drew).below hb2 HBX2.out.lt)
          obtain ⟨s0, hs0⟩ := HE.out k hlt
          have hcg := (ho2.cell k).trans hs0
          have hfr := ho2.frozen k
          have HO3 := Lib.hid ho2
          clear hb2 ho2 hs0 HO2 HBX2 HBW l0 l1
          go_wp2_with fail
          go_roundw
          case rel =>
            refine ⟨k + 1, _, by omega, by go_num, HO3.out.set k _, HBX3.out.far (p := ⟨w.heap.size + 1, k, none⟩) (by show w.heap.size ≠ w.heap.size + 1; omega) _, by simpa using HSZ.out, fun j hj => ?_, fun j hj => ?_, HW2.out.setCell (by show w.heap.size ≤ w.heap.size + 1; omega) _⟩
            · rw [Array.getElem?_setIfInBounds]
              by_cases hjk : k = j
              · subst hjk; simp [HSZ.out, hlt, HT.out]
              · rw [if_neg hjk]; exact HD.out j (by omega)
            · rw [Array.getElem?_setIfInBounds]
              by_cases hjk : k = j
              · subst hjk; exact ⟨T k, by simp [HSZ.out, hlt, HT.out]⟩
              · rw [if_neg hjk]; exact HE.out j hj
          case measure => simp [intOf]; omega
      · obtain ⟨xt, yt⟩ := HXB.out t htn
        have e1 : ((X t : Int) == 4294967295) = false := by rw [beq_eq_false_iff_ne]; omega
        have HCk := HCELL.out k hlt
        rw [hx, hy] at HCk
        have HCK := Lib.hid HCk
        have HT := Lib.hid ht
        clear HCk ht hx hy
        go_wp2_with fail
        go_region_with (go_at_call 21; refine (HCK.out _ (by first | exact HB.out | exact below_drew HB.out | exact below_drew (HB.out.alloc hwz _) | exact (below_drew HB.out).alloc hwz _)).mono ?_; rintro e w1 ⟨rfl, hb1⟩; first | (refine use4 (HQ.out _ hb1) ?_; intro q0 q1 g0 g1) | skip)
        all_goals first
          | (refine (fun (h1 : Below wo.drew.heap.size wo.drew w1) => ?_) hb1
             have HW : Hid (Below wo.heap.size wo (w1.alloc (.cells #[.int .u32 (X t : Int), .int .u32 (Y t : Int)] 43))) := Lib.hid (Below.alloc ((below_drew (Below.refl _ wo)).trans h1) h1.size _)
             have hn := Own.new w1 43 #[.int .u32 (X t : Int), .int .u32 (Y t : Int)]
             clear h1 hb1
             generalize w1.alloc _ = W at *
             generalize w1.heap.size = L at *)
          | (have HW : Hid (Below wo.heap.size wo ((w1.setCell ⟨wo.heap.size, 0, none⟩ (.int .u32 (X t : Int))).setCell ⟨wo.heap.size, 1, none⟩ (.int .u32 (Y t : Int)))) := Lib.hid (((((below_drew (Below.alloc (Below.refl _ wo) (Nat.le_refl _) _)).trans (hb1.mono (by simp))).setCell (Nat.le_refl _) _).setCell (Nat.le_refl _) _))
             have hn : Own ((w1.setCell ⟨wo.heap.size, 0, none⟩ (.int .u32 (X t : Int))).setCell ⟨wo.heap.size, 1, none⟩ (.int .u32 (Y t : Int))) wo.heap.size 43 #[.int .u32 (X t : Int), .int .u32 (Y t : Int)] := Own.set (Own.set (((Own.new wo 43 #[.int .u32 0, .int .u32 0]).drew).below hb1 (by simp)) 0 _) 1 _
             clear q0 q1 g0 g1 hb1
             generalize (w1.setCell _ _).setCell _ _ = W at *
             obtain ⟨L, hL⟩ : ∃ L : Nat, L = wo.heap.size := ⟨_, rfl⟩
             rw [← hL] at hn ⊢
             clear hL)
        all_goals
          have l0 := (hn.cell 0).trans (show _ = some (Value.int .u32 (X t : Int)) from rfl)
          have l1 := (hn.cell 1).trans (show _ = some (Value.int .u32 (Y t : Int)) from rfl)
          have hLl := hn.lt
          have hbW := HB.out.trans (HW.out.mono hwz)
          have HBW := Lib.hid hbW
          have hwW := hbW.size
          have HO2 := Lib.hid (HO.out.below HW.out HO.out.lt)
          have HBX2 := Lib.hid (HBX.out.below HW.out HBX.out.lt)
          clear hn hbW HQ HO HBX HW hbc r1 r2 HCK
          go_wp2_with fail
          go_region_held3 (fun W' => W'.cell? ⟨L, 0, none⟩ = some (.int .u32 (X t : Int)) ∧ W'.cell? ⟨L, 1, none⟩ = some (.int .u32 (Y t : Int))) (first | exact ⟨l0, l1⟩ | exact ⟨(hb2.cell (p := ⟨L, 0, none⟩) hLl).trans l0, (hb2.cell (p := ⟨L, 1, none⟩) hLl).trans l1⟩) ((go_at_call 25; refine (inv25' _).mono ?_; rintro e w2 ⟨rfl, hb2⟩))
          have HW2 := Lib.hid ((below_drew HBW.out).trans (hb2.mono hwW))
          have ho2 := (HO2.out.drew).below hb2 HO2.out.lt
          have HBX3 := Lib.hid ((HBX2.out.drew).below hb2 HBX2.out.lt)
          obtain ⟨s0, hs0⟩ := HE.out k hlt
          have hcg := (ho2.cell k).trans hs0
          have hfr := ho2.frozen k
          have HO3 := Lib.hid ho2
          have m0 : w2.cell? ⟨L, 0, none⟩ = some (.int .u32 (X t : Int)) := (hb2.cell (p := ⟨L, 0, none⟩) hLl).trans l0
          have m1 : w2.cell? ⟨L, 1, none⟩ = some (.int .u32 (Y t : Int)) := (hb2.cell (p := ⟨L, 1, none⟩) hLl).trans l1
          clear hb2 ho2 hs0 HO2 HBX2 HBW l0 l1
          go_wp2_with fail
          refine (HFLAT.out t htn _ HW2.out).mono ?_
          rintro e w3 ⟨rfl, hb3⟩
          have HW4 := Lib.hid (HW2.out.trans (hb3.mono HW2.out.size))
          have ho4 := HO3.out.below hb3 HO3.out.lt
          have HBX4 := Lib.hid (HBX3.out.below hb3 HBX3.out.lt)
          obtain ⟨s1, hs1⟩ := HE.out k hlt
          have hcg4 := (ho4.cell k).trans hs1
          have hfr4 := ho4.frozen k
          have HO4 := Lib.hid ho4
          clear hb3 ho4 hs1 HO3 HBX3 HW2 hcg hfr m0 m1
          go_wp2_with fail
          go_roundw
          case rel =>
            refine ⟨k + 1, _, by omega, by go_num, HO4.out.set k _, HBX4.out.far (p := ⟨w.heap.size + 1, k, none⟩) (by show w.heap.size ≠ w.heap.size + 1; omega) _, by simpa using HSZ.out, fun j hj => ?_, fun j hj => ?_, HW4.out.setCell (by show w.heap.size ≤ w.heap.size + 1; omega) _⟩
            · rw [Array.getElem?_setIfInBounds]
              by_cases hjk : k = j
              · subst hjk; simp [HSZ.out, hlt, HT.out]
              · rw [if_neg hjk]; exact HD.out j (by omega)
            · rw [Array.getElem?_setIfInBounds]
              by_cases hjk : k = j
              · subst hjk; exact ⟨T k, by simp [HSZ.out, hlt, HT.out]⟩
              · rw [if_neg hjk]; exact HE.out j hj
          case measure => simp [intOf]; omega
    · obtain rfl : k = n := by omega
      have t1 : decide (k < k) = false := decide_eq_false hlt
      go_wp2_with fail
      go_ret2
      exact ⟨w.heap.size + 1, rfl, HO.out.rd fun j hj => HD.out j (by omega), HB.out⟩
end Go.Proofs.YtbppncnhdhogbaaDoor.Fr
