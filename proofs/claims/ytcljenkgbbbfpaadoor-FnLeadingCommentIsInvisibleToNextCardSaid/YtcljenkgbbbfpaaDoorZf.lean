/-
  Proved: the end of a number, and consumeNumeric. Conditions: those that each theorem names as its hypotheses, and no others.
-/
import Derived.Test.YtcljenkgbbbfpaaDoorZe
namespace Go.Proofs.YtcljenkgbbbfpaaDoor.Zf
open Go.RowKit Go.PlainAid Str Mem De Lu Dw Cu Rws Za Zb Zc Zd Ze
set_option linter.unusedVariables false
set_option linter.unusedSimpArgs false
def sg (s : ByteArray) (q : Nat) : Nat := if cpOf s q = 43 ∨ cpOf s q = 45 then q + wdOf s q else q
def dgs (s : ByteArray) : Nat → Nat → Nat
  | 0, q => q
  | f + 1, q => if dgB (cpOf s q) = true then dgs s f (q + wdOf s q) else q
def dg (s : ByteArray) (q : Nat) : Nat := dgs s (s.size - q) q
def dt (s : ByteArray) (q : Nat) : Nat := if cpOf s q = 46 then dg s (q + wdOf s q) else q
def exC (s : ByteArray) (p : Nat) : Int := if (bt s p = 43 ∨ bt s p = 45) ∧ p + 1 < s.size then bt s (p + 1) else bt s p
def ex (s : ByteArray) (q : Nat) : Nat := if (cpOf s q = 101 ∨ cpOf s q = 69) ∧ q + wdOf s q < s.size ∧ dgB (exC s (q + wdOf s q)) = true then dg s (sg s (q + wdOf s q)) else q
def nm (s : ByteArray) (q : Nat) : Nat := ex s (dt s (dg s (sg s q)))
def num (s : ByteArray) (q : Nat) : Nat × Int × Int := if wsi s (nm s q) = true then (ne s (nm s q), 26, IntKind.u16.wrap (((nm s q : Nat) : Int) - (q : Int))) else if cpOf s (nm s q) = 37 then (nm s q + wdOf s (nm s q), 34, 0) else (nm s q, 30, 0)
theorem dig_lt {s : ByteArray} {q : Nat} (h : dgB (cpOf s q) = true) : q < s.size := by
  rcases Nat.lt_or_ge q s.size with a | a
  · exact a
  · rw [(cp_out a).1] at h; exact absurd h (by decide)
theorem wd_pos {s : ByteArray} {q : Nat} (h : q < s.size) : 1 ≤ wdOf s q := by rw [(cp_in h).2]; exact rw_pos h
/-- Any fuel that reaches the end serves. -/
theorem dgs_fuel {s : ByteArray} : ∀ (f f' q : Nat), q ≤ s.size → s.size - q ≤ f → s.size - q ≤ f' → dgs s f q = dgs s f' q
  | 0, f', q, hq, h, h' => by
    have hd : dgB (cpOf s q) = false := by rw [(cp_out (by omega)).1]; rfl
    cases f' with
    | zero => rfl
    | succ f' => unfold dgs; rw [hd]; rfl
  | f + 1, 0, q, hq, h, h' => by
    have hd : dgB (cpOf s q) = false := by rw [(cp_out (by omega)).1]; rfl
    unfold dgs; rw [hd]; rfl
  | f + 1, f' + 1, q, hq, h, h' => by
    unfold dgs
    by_cases hd : dgB (cpOf s q) = true
    · rw [if_pos hd, if_pos hd]
      have := wd_pos (dig_lt hd)
      have := (cp_rng s q hq).2.2
      exact dgs_fuel f f' (q + wdOf s q) (by omega) (by omega) (by omega)
    · rw [if_neg hd, if_neg hd]
theorem dg_step {s : ByteArray} {q : Nat} (hq : q ≤ s.size) (hd : dgB (cpOf s q) = true) : dg s q = dg s (q + wdOf s q) := by
  have h1 := wd_pos (dig_lt hd)
  have h2 := (cp_rng s q hq).2.2
  unfold dg
  rw [show s.size - q = (s.size - q - 1) + 1 by omega]
  conv => lhs; unfold dgs
  rw [if_pos hd]
  exact dgs_fuel _ _ _ h2 (by omega) (by omega)
theorem dg_stop {s : ByteArray} {q : Nat} (hd : dgB (cpOf s q) = false) : dg s q = q := by
  unfold dg
  cases s.size - q with
  | zero => rfl
  | succ n => unfold dgs; rw [hd]; rfl
theorem sg_le {s : ByteArray} {q : Nat} (hq : q ≤ s.size) : q ≤ sg s q ∧ sg s q ≤ s.size := by
  have := (cp_rng s q hq).2.2
  unfold sg; split <;> omega
theorem dgs_le {s : ByteArray} : ∀ (f q : Nat), q ≤ s.size → q ≤ dgs s f q ∧ dgs s f q ≤ s.size
  | 0, q, h => ⟨Nat.le_refl _, h⟩
  | f + 1, q, h => by
    have := (cp_rng s q h).2.2
    unfold dgs
    split
    · have := dgs_le f (q + wdOf s q) this; omega
    · omega
theorem dg_le {s : ByteArray} {q : Nat} (hq : q ≤ s.size) : q ≤ dg s q ∧ dg s q ≤ s.size := dgs_le _ _ hq
theorem dt_le {s : ByteArray} {q : Nat} (hq : q ≤ s.size) : q ≤ dt s q ∧ dt s q ≤ s.size := by
  have h := (cp_rng s q hq).2.2
  unfold dt; split
  · have := dg_le h; omega
  · omega
theorem ex_le {s : ByteArray} {q : Nat} (hq : q ≤ s.size) : q ≤ ex s q ∧ ex s q ≤ s.size := by
  have h := (cp_rng s q hq).2.2
  unfold ex; split
  · have a := sg_le h
    have := dg_le a.2; omega
  · omega
theorem nm_le {s : ByteArray} {q : Nat} (hq : q ≤ s.size) : q ≤ nm s q ∧ nm s q ≤ s.size := by
  have a := sg_le hq
  have b := dg_le a.2
  have c := dt_le b.2
  have d := ex_le c.2
  unfold nm; omega
theorem NoB.mono {s : ByteArray} {q k : Nat} (h : NoB s q) (hk : q ≤ k) : NoB s k := fun j hj => h j (by omega)
/-- At k, behind quiet worlds. -/
structure Wh (g : Nat) (u : ByteArray) (r0 r1 : Int) (s : ByteArray) (ts un kd fl : Int) (w : World) (k : Nat) (wx : World) : Prop where
  at_ : At g u r0 r1 s k ts un kd fl wx
  fr : Fr g w wx
  le : k ≤ s.size
  tb : Lib.Utf8Tabs 1 2 wx
  hw : 3 ≤ wx.heap.size
theorem Wh.step {g : Nat} {u : ByteArray} {r0 r1 : Int} {s : ByteArray} {ts un kd fl : Int} {w : World} {k : Nat} {wx : World} (h : Wh g u r0 r1 s ts un kd fl w k wx) (hg : 3 ≤ g) (hs : s.size ≤ 1048580) (ht0 : 0 ≤ ts) (ht1 : ts ≤ 2000000) :
    Calls Tryd.prog 41 #[.pointer (some ⟨g, 0, none⟩)] wx fun e w' => e = .returned (.tuple #[]) ∧ Wh g u r0 r1 s ts un kd fl w (k + wdOf s k) w' := by
  refine (stepZ g u r0 r1 s k ts un kd fl _ h.at_ h.le h.tb h.hw hs ht0 ht1).mono ?_
  rintro e w' ⟨rfl, a, f⟩
  exact ⟨rfl, a, Fr.trans h.fr f, (cp_rng s k h.le).2.2, tabs_fr h.tb hg h.hw f, Nat.le_trans h.hw f.size⟩
def Numd (g : Nat) (u : ByteArray) (r0 r1 : Int) (s : ByteArray) (ts kd fl : Int) (p : Nat × Int × Int) (w : World) (e : Ending) (w' : World) : Prop :=
  e = .returned (.int .u8 p.2.1) ∧ At g u r0 r1 s p.1 ts p.2.2 kd fl w' ∧ Fr g w w'
/-- The token's length, read off the world. -/
def tlOf (g : Nat) (w : World) : Nat := match w.cell? ⟨g, 37, none⟩ with
  | some (.int _ n) => n.toNat
  | _ => 0
theorem tl_at {g : Nat} {u : ByteArray} {r0 r1 : Int} {s : ByteArray} {q ts : Nat} {un kd fl : Int} {w : World} (h : At g u r0 r1 s q ts un kd fl w) : tlOf g w = q - ts := by
  unfold tlOf
  rw [h.cl.c37]
  show ((q : Int) - (ts : Int)).toNat = q - ts
  omega
set_option maxRecDepth 100000 in
set_option maxHeartbeats 32000000 in
theorem num71 (g : Nat) (u : ByteArray) (r0 r1 : Int) (s : ByteArray) (q : Nat) (kd fl : Int) (w : World) (h : At g u r0 r1 s q q 0 kd fl w) (hq : q ≤ s.size) (hb : NoB s q) (hT : Lib.Utf8Tabs 1 2 w) (hg : 3 ≤ g) (hw : 3 ≤ w.heap.size) (hs : s.size ≤ 1048580) :
    Calls Tryd.prog 71 #[.pointer (some ⟨g, 0, none⟩)] w (Numd g u r0 r1 s q kd fl (num s q) w) := by
  have HW0 : Hid (Wh g u r0 r1 s q 0 kd fl w q w) := Lib.hid ⟨h, Fr.refl g w, hq, hT, hw⟩
  have HB := Lib.hid hb
  have HNM := Lib.hid (show nm s q = ex s (dt s (dg s (sg s q))) from rfl)
  have HNE := Lib.hid (show num s q = if wsi s (nm s q) = true then (ne s (nm s q), (26 : Int), IntKind.u16.wrap (((nm s q : Nat) : Int) - (q : Int))) else if cpOf s (nm s q) = 37 then (nm s q + wdOf s (nm s q), 34, 0) else (nm s q, 30, 0) from rfl)
  have HL := Lib.hid (nm_le hq)
  have c35 := HW0.out.at_.cl.c35
  have tq0 : (0 : Int) ≤ (q : Int) := by omega
  have tq1 : (q : Int) ≤ 2000000 := by omega
  clear h hb hT
  generalize num s q = R at *
  generalize nm s q = n at *
  go_enter Tryd.func71, Tryd.ntmps71
  go_upto_region 1 with fail
  go_cut [16] (fun v wx => v = .bool (decide (cpOf s q = 43 ∨ cpOf s q = 45)) ∧ w = wx)
  case first =>
   as_aux_lemma =>
    have tri : cpOf s q = 43 ∨ (cpOf s q ≠ 43 ∧ cpOf s q = 45) ∨ (cpOf s q ≠ 43 ∧ cpOf s q ≠ 45) := by omega
    rcases tri with a | ⟨a, b⟩ | ⟨a, b⟩
    · have z0 : (cpOf s q == 43) = true := beq_iff_eq.2 a
      have Z := Lib.hid (show decide (cpOf s q = 43 ∨ cpOf s q = 45) = true from decide_eq_true (Or.inl a))
      clear a
      go_wp2_with fail
      go_meet
      exact ⟨by rw [Z.out], rfl⟩
    · have z0 : (cpOf s q == 43) = false := beq_eq_false_iff_ne.2 a
      have z1 : (cpOf s q == 45) = true := beq_iff_eq.2 b
      have Z := Lib.hid (show decide (cpOf s q = 43 ∨ cpOf s q = 45) = true from decide_eq_true (Or.inr b))
      clear a b
      go_wp2_with fail
      go_meet
      exact ⟨by rw [Z.out], rfl⟩
    · have z0 : (cpOf s q == 43) = false := beq_eq_false_iff_ne.2 a
      have z1 : (cpOf s q == 45) = false := beq_eq_false_iff_ne.2 b
      have Z := Lib.hid (show decide (cpOf s q = 43 ∨ cpOf s q = 45) = false from decide_eq_false (by omega))
      clear a b
      go_wp2_with fail
      go_meet
      exact ⟨by rw [Z.out], rfl⟩
  case rest =>
    obtain ⟨rfl, rfl⟩ := hcut
    go_upto_if 16 with fail
    go_cut [] (fun wx => Hid (Wh g u r0 r1 s q 0 kd fl w (sg s q) wx))
    case first =>
     as_aux_lemma =>
      by_cases c : cpOf s q = 43 ∨ cpOf s q = 45
      · have HE := Lib.hid (show sg s q = q + wdOf s q from if_pos c)
        rw [decide_eq_true c]
        clear c
        go_wp2_with fail
        refine (HW0.out.step hg hs tq0 tq1).mono ?_
        rintro e w1 ⟨rfl, h1⟩
        have H1' := Lib.hid h1
        clear h1
        go_wp2_with fail
        go_meet
        rw [HE.out]
        exact H1'
      · have HE := Lib.hid (show sg s q = q from if_neg c)
        rw [decide_eq_false c]
        clear c
        go_wp2_with fail
        go_meet
        rw [HE.out]
        exact HW0
    case rest =>
      have H1 := hcut
      clear hcut HW0 c35
      have L1 := Lib.hid (sg_le hq)
      have HLQ : Hid (q ≤ sg s q) := Lib.hid L1.out.1
      go_wp2_with fail
      go_loopw [] (fun wr => ∃ k, Hid (Wh g u r0 r1 s q 0 kd fl w k wr ∧ dg s k = dg s (sg s q) ∧ q ≤ k)) (fun wr => s.size - tlOf g wr)
      case atStart => exact ⟨_, Lib.hid ⟨H1.out, rfl, by have := HLQ.out; omega⟩⟩
      case round =>
        clear H1
        obtain ⟨k, HKK⟩ := hrel
        obtain ⟨wi, rfl⟩ : ∃ wi : World, wi = wr := ⟨_, rfl⟩
        have HK := Lib.hid HKK.out.1
        have HKD := Lib.hid HKK.out.2.1
        have HKQ := Lib.hid HKK.out.2.2
        have c35 := HK.out.at_.cl.c35
        clear HKK
        go_upto_region 3 with fail
        go_cut [30] from 19 to 32 (fun v wx => v = .bool (dgB (cpOf s k)) ∧ wi = wx)
        case first =>
         as_aux_lemma =>
          have tri : cpOf s k < 48 ∨ (48 ≤ cpOf s k ∧ cpOf s k ≤ 57) ∨ 57 < cpOf s k := by omega
          rcases tri with a | a | a
          · have y0 : decide (48 ≤ cpOf s k) = false := decide_eq_false (by omega)
            have Z := Lib.hid (show dgB (cpOf s k) = false from decide_eq_false (by omega))
            clear a
            go_wp2_with fail
            go_meet
            exact ⟨by rw [Z.out], rfl⟩
          · have y0 : decide (48 ≤ cpOf s k) = true := decide_eq_true a.1
            have y1 : decide (cpOf s k ≤ 57) = true := decide_eq_true a.2
            have Z := Lib.hid (show dgB (cpOf s k) = true from decide_eq_true a)
            clear a
            go_wp2_with fail
            go_meet
            exact ⟨by rw [Z.out], rfl⟩
          · have y0 : decide (48 ≤ cpOf s k) = true := decide_eq_true (by omega)
            have y1 : decide (cpOf s k ≤ 57) = false := decide_eq_false (by omega)
            have Z := Lib.hid (show dgB (cpOf s k) = false from decide_eq_false (by omega))
            clear a
            go_wp2_with fail
            go_meet
            exact ⟨by rw [Z.out], rfl⟩
        case rest =>
          obtain ⟨rfl, rfl⟩ := hcut
          clear c35
          cases hd : dgB (cpOf s k)
          · have HD := Lib.hid hd
            clear hd
            have hk := (dg_stop HD.out).symm.trans HKD.out
            have HX : Hid (Wh g u r0 r1 s q 0 kd fl w (dg s (sg s q)) wi) := Lib.hid (by rw [← hk]; exact HK.out)
            clear hk HK HKD HKQ HD
            have HQA : Hid (q ≤ dg s (sg s q)) := Lib.hid (by have := L1.out; have := dg_le this.2; omega)
            clear L1
            generalize hA : dg s (sg s q) = A at *
            have HNM2 : Hid (n = ex s (dt s A)) := Lib.hid (by rw [HNM.out])
            clear HNM hA
            have HA := HX
            clear HX
            have c35 := HA.out.at_.cl.c35
            go_upto_region 5 with fail
            go_upto_if 37 with fail
            go_cut [] (fun wx => Hid (Wh g u r0 r1 s q 0 kd fl w (dt s A) wx))
            case first =>
             as_aux_lemma =>
              by_cases c : cpOf s A = 46
              · have HE := Lib.hid (show dt s A = dg s (A + wdOf s A) from if_pos c)
                have t46 : (cpOf s A == 46) = true := beq_iff_eq.2 c
                clear c
                go_wp2_with fail
                refine (HA.out.step hg hs tq0 tq1).mono ?_
                rintro e w1 ⟨rfl, h1⟩
                have H2 := Lib.hid h1
                have HLQ : Hid (q ≤ A + wdOf s A) := Lib.hid (Nat.le_trans HQA.out (Nat.le_add_right _ _))
                clear h1 c35 t46
                go_wp2_with fail
                go_loopw [] (fun wr => ∃ k, Hid (Wh g u r0 r1 s q 0 kd fl w k wr ∧ dg s k = dg s (A + wdOf s A) ∧ q ≤ k)) (fun wr => s.size - tlOf g wr)
                case atStart => exact ⟨_, Lib.hid ⟨H2.out, rfl, by have := HLQ.out; omega⟩⟩
                case round =>
                  clear H2
                  obtain ⟨k, HKK⟩ := hrel
                  obtain ⟨wi, rfl⟩ : ∃ wi : World, wi = wr := ⟨_, rfl⟩
                  have HK := Lib.hid HKK.out.1
                  have HKD := Lib.hid HKK.out.2.1
                  have HKQ := Lib.hid HKK.out.2.2
                  have c35 := HK.out.at_.cl.c35
                  clear HKK
                  go_upto_region 7 with fail
                  go_cut [51] from 40 to 53 (fun v wx => v = .bool (dgB (cpOf s k)) ∧ wi = wx)
                  case first =>
                   as_aux_lemma =>
                    have tri : cpOf s k < 48 ∨ (48 ≤ cpOf s k ∧ cpOf s k ≤ 57) ∨ 57 < cpOf s k := by omega
                    rcases tri with a | a | a
                    · have y0 : decide (48 ≤ cpOf s k) = false := decide_eq_false (by omega)
                      have Z := Lib.hid (show dgB (cpOf s k) = false from decide_eq_false (by omega))
                      clear a
                      go_wp2_with fail
                      go_meet
                      exact ⟨by rw [Z.out], rfl⟩
                    · have y0 : decide (48 ≤ cpOf s k) = true := decide_eq_true a.1
                      have y1 : decide (cpOf s k ≤ 57) = true := decide_eq_true a.2
                      have Z := Lib.hid (show dgB (cpOf s k) = true from decide_eq_true a)
                      clear a
                      go_wp2_with fail
                      go_meet
                      exact ⟨by rw [Z.out], rfl⟩
                    · have y0 : decide (48 ≤ cpOf s k) = true := decide_eq_true (by omega)
                      have y1 : decide (cpOf s k ≤ 57) = false := decide_eq_false (by omega)
                      have Z := Lib.hid (show dgB (cpOf s k) = false from decide_eq_false (by omega))
                      clear a
                      go_wp2_with fail
                      go_meet
                      exact ⟨by rw [Z.out], rfl⟩
                  case rest =>
                    obtain ⟨rfl, rfl⟩ := hcut
                    clear c35
                    cases hd : dgB (cpOf s k)
                    · have HD := Lib.hid hd
                      clear hd
                      have hk := (dg_stop HD.out).symm.trans HKD.out
                      have HX : Hid (Wh g u r0 r1 s q 0 kd fl w (dg s (A + wdOf s A)) wi) := Lib.hid (by rw [← hk]; exact HK.out)
                      clear hk HK HKD HKQ HD
                      go_wp2_with fail
                      go_meet
                      rw [HE.out]
                      exact HX
                    · have HD := Lib.hid hd
                      clear hd
                      go_wp2_with fail
                      refine (HK.out.step hg hs tq0 tq1).mono ?_
                      rintro e w1 ⟨rfl, h1⟩
                      have HM := Lib.hid (tl_at HK.out.at_)
                      have HM1 := Lib.hid (tl_at h1.at_)
                      have H1' := Lib.hid (And.intro h1 (And.intro ((dg_step HK.out.le HD.out).symm.trans HKD.out) (Nat.le_trans HKQ.out (Nat.le_add_right k (wdOf s k)))))
                      have hlt := dig_lt HD.out
                      have hwp := wd_pos hlt
                      have HLT := Lib.hid (And.intro hlt (And.intro hwp (And.intro HKQ.out h1.le)))
                      clear h1 hlt hwp
                      go_wp2_with fail
                      go_roundw
                      case rel => exact ⟨_, H1'⟩
                      case measure =>
                        rw [HM.out, HM1.out]
                        have := HLT.out
                        omega
              · have HE := Lib.hid (show dt s A = A from if_neg c)
                have t46 : (cpOf s A == 46) = false := beq_eq_false_iff_ne.2 c
                clear c
                go_wp2_with fail
                go_meet
                rw [HE.out]
                exact HA
            case rest =>
              have HBB := hcut
              have HQB : Hid (q ≤ dt s A ∧ dt s A ≤ s.size) := Lib.hid (by have := dt_le (s := s) (q := A) HA.out.le; have := HQA.out; omega)
              clear hcut HA HQA c35
              generalize dt s A = Bq at *
              obtain ⟨wc2, rfl⟩ : ∃ w2 : World, w2 = wc := ⟨_, rfl⟩
              have c35 := HBB.out.at_.cl.c35
              go_upto_region 9 with fail
              go_cut [65] (fun v wx => v = .bool (decide (cpOf s Bq = 101 ∨ cpOf s Bq = 69)) ∧ wc2 = wx)
              case first =>
               as_aux_lemma =>
                have tri : cpOf s Bq = 101 ∨ (cpOf s Bq ≠ 101 ∧ cpOf s Bq = 69) ∨ (cpOf s Bq ≠ 101 ∧ cpOf s Bq ≠ 69) := by omega
                rcases tri with a | ⟨a, b⟩ | ⟨a, b⟩
                · have z0 : (cpOf s Bq == 101) = true := beq_iff_eq.2 a
                  have Z := Lib.hid (show decide (cpOf s Bq = 101 ∨ cpOf s Bq = 69) = true from decide_eq_true (Or.inl a))
                  clear a
                  go_wp2_with fail
                  go_meet
                  exact ⟨by rw [Z.out], rfl⟩
                · have z0 : (cpOf s Bq == 101) = false := beq_eq_false_iff_ne.2 a
                  have z1 : (cpOf s Bq == 69) = true := beq_iff_eq.2 b
                  have Z := Lib.hid (show decide (cpOf s Bq = 101 ∨ cpOf s Bq = 69) = true from decide_eq_true (Or.inr b))
                  clear a b
                  go_wp2_with fail
                  go_meet
                  exact ⟨by rw [Z.out], rfl⟩
                · have z0 : (cpOf s Bq == 101) = false := beq_eq_false_iff_ne.2 a
                  have z1 : (cpOf s Bq == 69) = false := beq_eq_false_iff_ne.2 b
                  have Z := Lib.hid (show decide (cpOf s Bq = 101 ∨ cpOf s Bq = 69) = false from decide_eq_false (by omega))
                  clear a b
                  go_wp2_with fail
                  go_meet
                  exact ⟨by rw [Z.out], rfl⟩
              case rest =>
                obtain ⟨rfl, rfl⟩ := hcut
                go_upto_if 65 with fail
                go_cut [] (fun wx => Hid (Wh g u r0 r1 s q 0 kd fl w (ex s Bq) wx))
                case first =>
                 as_aux_lemma =>
                  by_cases c : cpOf s Bq = 101 ∨ cpOf s Bq = 69
                  · obtain ⟨p, hp⟩ : ∃ p, p = Bq + wdOf s Bq := ⟨_, rfl⟩
                    have HP := Lib.hid hp.symm
                    have HEX := Lib.hid (show ex s Bq = if (cpOf s Bq = 101 ∨ cpOf s Bq = 69) ∧ p < s.size ∧ dgB (exC s p) = true then dg s (sg s p) else Bq by rw [hp]; rfl)
                    have hcl := HBB.out.at_.cl
                    have c33 := hcl.c33
                    have c10 := hcl.c10
                    rw [HP.out] at c33
                    have HEE := Lib.hid c
                    have HPQ : Hid (q ≤ p) := Lib.hid (by rw [hp]; exact Nat.le_trans HQB.out.1 (Nat.le_add_right _ _))
                    have hgb := get_bt s
                    have p0 : (0 : Int) ≤ (p : Int) := by omega
                    rw [decide_eq_true c]
                    clear c hcl hp
                    by_cases l : p < s.size
                    · have HPL := Lib.hid l
                      have y1 : (p : Int) < (s.size : Int) := by omega
                      have y2 : decide ((p : Int) < (s.size : Int)) = true := decide_eq_true y1
                      have hb0 := bt_nonneg s p
                      have hb1 := bt_le s p
                      have hb2 := bt_nonneg s (p + 1)
                      have hb3 := bt_le s (p + 1)
                      go_upto_region 13 with fail
                      go_cut [99] (fun v wx => v = .bool (decide ((bt s p = 43 ∨ bt s p = 45) ∧ p + 1 < s.size)) ∧ wc2 = wx)
                      case first =>
                       as_aux_lemma =>
                        have tri : (bt s p = 43 ∨ (bt s p ≠ 43 ∧ bt s p = 45)) ∨ (bt s p ≠ 43 ∧ bt s p ≠ 45) := by omega
                        rcases tri with a | ⟨a, b⟩
                        · by_cases l2 : p + 1 < s.size
                          · have y3 : (p : Int) + 1 < (s.size : Int) := by omega
                            have y4 : decide ((p : Int) + 1 < (s.size : Int)) = true := decide_eq_true y3
                            have Z := Lib.hid (show decide ((bt s p = 43 ∨ bt s p = 45) ∧ p + 1 < s.size) = true from decide_eq_true ⟨by omega, l2⟩)
                            clear l2
                            rcases a with a | ⟨a, b⟩
                            · have z0 : (bt s p == 43) = true := beq_iff_eq.2 a
                              clear a
                              go_wp2_with fail
                              go_meet
                              exact ⟨by rw [Z.out], rfl⟩
                            · have z0 : (bt s p == 43) = false := beq_eq_false_iff_ne.2 a
                              have z1 : (bt s p == 45) = true := beq_iff_eq.2 b
                              clear a b
                              go_wp2_with fail
                              go_meet
                              exact ⟨by rw [Z.out], rfl⟩
                          · have y3 : ¬ ((p : Int) + 1 < (s.size : Int)) := by omega
                            have y4 : decide ((p : Int) + 1 < (s.size : Int)) = false := decide_eq_false y3
                            have Z := Lib.hid (show decide ((bt s p = 43 ∨ bt s p = 45) ∧ p + 1 < s.size) = false from decide_eq_false (by omega))
                            clear l2
                            rcases a with a | ⟨a, b⟩
                            · have z0 : (bt s p == 43) = true := beq_iff_eq.2 a
                              clear a
                              go_wp2_with fail
                              go_meet
                              exact ⟨by rw [Z.out], rfl⟩
                            · have z0 : (bt s p == 43) = false := beq_eq_false_iff_ne.2 a
                              have z1 : (bt s p == 45) = true := beq_iff_eq.2 b
                              clear a b
                              go_wp2_with fail
                              go_meet
                              exact ⟨by rw [Z.out], rfl⟩
                        · have z0 : (bt s p == 43) = false := beq_eq_false_iff_ne.2 a
                          have z1 : (bt s p == 45) = false := beq_eq_false_iff_ne.2 b
                          have Z := Lib.hid (show decide ((bt s p = 43 ∨ bt s p = 45) ∧ p + 1 < s.size) = false from decide_eq_false (by omega))
                          clear a b
                          go_wp2_with fail
                          go_meet
                          exact ⟨by rw [Z.out], rfl⟩
                      case rest =>
                        obtain ⟨rfl, rfl⟩ := hcut
                        go_upto_if 99 with fail
                        go_cut [4] (fun v wx => v = .int .u8 (exC s p) ∧ wc2 = wx)
                        case first =>
                         as_aux_lemma =>
                          by_cases x : (bt s p = 43 ∨ bt s p = 45) ∧ p + 1 < s.size
                          · have HXC := Lib.hid (show exC s p = bt s (p + 1) from if_pos x)
                            have y5 : (p : Int) + 1 < (s.size : Int) := by have := x.2; omega
                            have y6 : (0 : Int) ≤ (p : Int) + 1 := by omega
                            rw [decide_eq_true x]
                            clear x l
                            go_wp2_with fail
                            go_meet
                            exact ⟨by rw [HXC.out], rfl⟩
                          · have HXC := Lib.hid (show exC s p = bt s p from if_neg x)
                            rw [decide_eq_false x]
                            clear x l
                            go_wp2_with fail
                            go_meet
                            exact ⟨by rw [HXC.out], rfl⟩
                        case rest =>
                          obtain ⟨rfl, rfl⟩ := hcut
                          clear l hb0 hb1 hb2 hb3
                          generalize hC : exC s p = C at *
                          have tri : C < 48 ∨ (48 ≤ C ∧ C ≤ 57) ∨ 57 < C := by omega
                          rcases tri with a | a | a
                          · have y3 : decide (48 ≤ C) = false := decide_eq_false (by omega)
                            have HE := Lib.hid (show ex s Bq = Bq by rw [HEX.out, if_neg (fun h => absurd (of_decide_eq_true h.2.2) (by omega))])
                            clear a HEX hC
                            go_wp2_with fail
                            go_meet
                            rw [HE.out]
                            exact HBB
                          · have y3 : decide (48 ≤ C) = true := decide_eq_true a.1
                            have y4 : decide (C ≤ 57) = true := decide_eq_true a.2
                            have HD : Hid (dgB C = true) := Lib.hid (decide_eq_true a)
                            clear a hC
                            have HE := Lib.hid (show ex s Bq = dg s (sg s p) by rw [HEX.out, if_pos ⟨HEE.out, HPL.out, HD.out⟩])
                            clear HEX HD HEE
                            go_wp2_with fail
                            clear y1 y2 y3 y4 hgb c10 p0
                            refine (HBB.out.step hg hs tq0 tq1).mono ?_
                            rintro e w1 ⟨rfl, h1⟩
                            rw [HP.out] at h1
                            have H5 := Lib.hid h1
                            clear h1 HBB c35 c33
                            have c35 := H5.out.at_.cl.c35
                            have HPQ2 := HPQ
                            go_upto_region 17 with fail
                            go_cut [126] (fun v wx => v = .bool (decide (cpOf s p = 43 ∨ cpOf s p = 45)) ∧ w1 = wx)
                            case first =>
                             as_aux_lemma =>
                              have tri : cpOf s p = 43 ∨ (cpOf s p ≠ 43 ∧ cpOf s p = 45) ∨ (cpOf s p ≠ 43 ∧ cpOf s p ≠ 45) := by omega
                              rcases tri with a | ⟨a, b⟩ | ⟨a, b⟩
                              · have z0 : (cpOf s p == 43) = true := beq_iff_eq.2 a
                                have Z := Lib.hid (show decide (cpOf s p = 43 ∨ cpOf s p = 45) = true from decide_eq_true (Or.inl a))
                                clear a
                                go_wp2_with fail
                                go_meet
                                exact ⟨by rw [Z.out], rfl⟩
                              · have z0 : (cpOf s p == 43) = false := beq_eq_false_iff_ne.2 a
                                have z1 : (cpOf s p == 45) = true := beq_iff_eq.2 b
                                have Z := Lib.hid (show decide (cpOf s p = 43 ∨ cpOf s p = 45) = true from decide_eq_true (Or.inr b))
                                clear a b
                                go_wp2_with fail
                                go_meet
                                exact ⟨by rw [Z.out], rfl⟩
                              · have z0 : (cpOf s p == 43) = false := beq_eq_false_iff_ne.2 a
                                have z1 : (cpOf s p == 45) = false := beq_eq_false_iff_ne.2 b
                                have Z := Lib.hid (show decide (cpOf s p = 43 ∨ cpOf s p = 45) = false from decide_eq_false (by omega))
                                clear a b
                                go_wp2_with fail
                                go_meet
                                exact ⟨by rw [Z.out], rfl⟩
                            case rest =>
                              obtain ⟨rfl, rfl⟩ := hcut
                              go_upto_if 126 with fail
                              go_cut [] (fun wx => Hid (Wh g u r0 r1 s q 0 kd fl w (sg s p) wx))
                              case first =>
                               as_aux_lemma =>
                                by_cases c : cpOf s p = 43 ∨ cpOf s p = 45
                                · have HE := Lib.hid (show sg s p = p + wdOf s p from if_pos c)
                                  rw [decide_eq_true c]
                                  clear c
                                  go_wp2_with fail
                                  refine (H5.out.step hg hs tq0 tq1).mono ?_
                                  rintro e w1 ⟨rfl, h1⟩
                                  have H1' := Lib.hid h1
                                  clear h1
                                  go_wp2_with fail
                                  go_meet
                                  rw [HE.out]
                                  exact H1'
                                · have HE := Lib.hid (show sg s p = p from if_neg c)
                                  rw [decide_eq_false c]
                                  clear c
                                  go_wp2_with fail
                                  go_meet
                                  rw [HE.out]
                                  exact H5
                              case rest =>
                                have H6 := hcut
                                have HLQ : Hid (q ≤ sg s p) := Lib.hid (Nat.le_trans HPQ2.out (sg_le (s := s) (q := p) H5.out.le).1)
                                clear hcut H5 c35
                                go_wp2_with fail
                                go_loopw [] (fun wr => ∃ k, Hid (Wh g u r0 r1 s q 0 kd fl w k wr ∧ dg s k = dg s (sg s p) ∧ q ≤ k)) (fun wr => s.size - tlOf g wr)
                                case atStart => exact ⟨_, Lib.hid ⟨H6.out, rfl, by have := HLQ.out; omega⟩⟩
                                case round =>
                                  clear H6
                                  obtain ⟨k, HKK⟩ := hrel
                                  obtain ⟨wi, rfl⟩ : ∃ wi : World, wi = wr := ⟨_, rfl⟩
                                  have HK := Lib.hid HKK.out.1
                                  have HKD := Lib.hid HKK.out.2.1
                                  have HKQ := Lib.hid HKK.out.2.2
                                  have c35 := HK.out.at_.cl.c35
                                  clear HKK
                                  go_upto_region 19 with fail
                                  go_cut [140] from 129 to 142 (fun v wx => v = .bool (dgB (cpOf s k)) ∧ wi = wx)
                                  case first =>
                                   as_aux_lemma =>
                                    have tri : cpOf s k < 48 ∨ (48 ≤ cpOf s k ∧ cpOf s k ≤ 57) ∨ 57 < cpOf s k := by omega
                                    rcases tri with a | a | a
                                    · have y0 : decide (48 ≤ cpOf s k) = false := decide_eq_false (by omega)
                                      have Z := Lib.hid (show dgB (cpOf s k) = false from decide_eq_false (by omega))
                                      clear a
                                      go_wp2_with fail
                                      go_meet
                                      exact ⟨by rw [Z.out], rfl⟩
                                    · have y0 : decide (48 ≤ cpOf s k) = true := decide_eq_true a.1
                                      have y1 : decide (cpOf s k ≤ 57) = true := decide_eq_true a.2
                                      have Z := Lib.hid (show dgB (cpOf s k) = true from decide_eq_true a)
                                      clear a
                                      go_wp2_with fail
                                      go_meet
                                      exact ⟨by rw [Z.out], rfl⟩
                                    · have y0 : decide (48 ≤ cpOf s k) = true := decide_eq_true (by omega)
                                      have y1 : decide (cpOf s k ≤ 57) = false := decide_eq_false (by omega)
                                      have Z := Lib.hid (show dgB (cpOf s k) = false from decide_eq_false (by omega))
                                      clear a
                                      go_wp2_with fail
                                      go_meet
                                      exact ⟨by rw [Z.out], rfl⟩
                                  case rest =>
                                    obtain ⟨rfl, rfl⟩ := hcut
                                    clear c35
                                    cases hd : dgB (cpOf s k)
                                    · have HD := Lib.hid hd
                                      clear hd
                                      have hk := (dg_stop HD.out).symm.trans HKD.out
                                      have HX : Hid (Wh g u r0 r1 s q 0 kd fl w (dg s (sg s p)) wi) := Lib.hid (by rw [← hk]; exact HK.out)
                                      clear hk HK HKD HKQ HD
                                      go_wp2_with fail
                                      go_meet
                                      rw [HE.out]
                                      exact HX
                                    · have HD := Lib.hid hd
                                      clear hd
                                      go_wp2_with fail
                                      refine (HK.out.step hg hs tq0 tq1).mono ?_
                                      rintro e w1 ⟨rfl, h1⟩
                                      have HM := Lib.hid (tl_at HK.out.at_)
                                      have HM1 := Lib.hid (tl_at h1.at_)
                                      have H1' := Lib.hid (And.intro h1 (And.intro ((dg_step HK.out.le HD.out).symm.trans HKD.out) (Nat.le_trans HKQ.out (Nat.le_add_right k (wdOf s k)))))
                                      have hlt := dig_lt HD.out
                                      have hwp := wd_pos hlt
                                      have HLT := Lib.hid (And.intro hlt (And.intro hwp (And.intro HKQ.out h1.le)))
                                      clear h1 hlt hwp
                                      go_wp2_with fail
                                      go_roundw
                                      case rel => exact ⟨_, H1'⟩
                                      case measure =>
                                        rw [HM.out, HM1.out]
                                        have := HLT.out
                                        omega
                          · have y3 : decide (48 ≤ C) = true := decide_eq_true (by omega)
                            have y4 : decide (C ≤ 57) = false := decide_eq_false (by omega)
                            have HE := Lib.hid (show ex s Bq = Bq by rw [HEX.out, if_neg (fun h => absurd (of_decide_eq_true h.2.2) (by omega))])
                            clear a HEX hC
                            go_wp2_with fail
                            go_meet
                            rw [HE.out]
                            exact HBB
                    · have y2 : decide ((p : Int) < (s.size : Int)) = false := decide_eq_false (by omega)
                      have y1 : ¬ ((p : Int) < (s.size : Int)) := by omega
                      have HE := Lib.hid (show ex s Bq = Bq by rw [HEX.out, if_neg (fun h => l h.2.1)])
                      clear l HEX
                      go_wp2_with fail
                      go_meet
                      rw [HE.out]
                      exact HBB
                  · have HE := Lib.hid (show ex s Bq = Bq from if_neg (fun h => c h.1))
                    rw [decide_eq_false c]
                    clear c
                    go_wp2_with fail
                    go_meet
                    rw [HE.out]
                    exact HBB
                case rest =>
                 as_aux_lemma =>
                  have HY := hcut
                  clear hcut HBB c35 HQB
                  obtain ⟨wy, rfl⟩ : ∃ w2 : World, w2 = wc := ⟨_, rfl⟩
                  have HN : Hid (Wh g u r0 r1 s q 0 kd fl w n wy) := Lib.hid (by rw [HNM2.out]; exact HY.out)
                  clear HNM2 HY
                  go_wp2_with fail
                  refine (ident68 g u r0 r1 s n q 0 kd fl _ HN.out.at_ HN.out.le (NoB.mono HB.out HL.out.1) HN.out.tb HN.out.hw hs).mono ?_
                  rintro e w2 ⟨rfl, hb2⟩
                  have HA2 := Lib.hid (HN.out.at_.below hb2)
                  have HF2 := Lib.hid (HN.out.fr.bel hb2)
                  have HT2 := Lib.hid (tabs_below HN.out.tb HN.out.hw hb2)
                  have hw2 := Nat.le_trans HN.out.hw hb2.size
                  have hcl := HA2.out.cl
                  have c35 := hcl.c35
                  have c37 := hcl.c37
                  have c38 := hcl.c38
                  have fz := hcl.fz
                  have hn37 := HL.out
                  clear hb2 HN hcl
                  cases hws : wsi s n
                  · by_cases c : cpOf s n = 37
                    · have HR := Lib.hid (show R = (n + wdOf s n, 34, 0) by rw [HNE.out, hws, if_neg (by decide), if_pos c])
                      have t37 : (cpOf s n == 37) = true := beq_iff_eq.2 c
                      clear c hws hn37 HNE
                      go_wp2_with fail
                      refine (stepZ g u r0 r1 s n q 0 kd fl _ HA2.out HL.out.2 HT2.out hw2 hs tq0 tq1).mono ?_
                      rintro e w3 ⟨rfl, h3, f3⟩
                      have H3 := Lib.hid h3
                      have HF3 := Lib.hid (Fr.trans HF2.out f3)
                      clear h3 f3
                      go_wp2_with fail
                      go_ret
                      unfold Numd
                      rw [HR.out]
                      exact ⟨rfl, H3.out, HF3.out⟩
                    · have HR := Lib.hid (show R = (n, 30, 0) by rw [HNE.out, hws, if_neg (by decide), if_neg c])
                      have t37 : (cpOf s n == 37) = false := beq_eq_false_iff_ne.2 c
                      clear c hws hn37 HNE
                      go_wp2_with fail
                      go_ret
                      unfold Numd
                      rw [HR.out]
                      exact ⟨rfl, HA2.out, HF2.out⟩
                  · have HR := Lib.hid (show R = (ne s n, 26, IntKind.u16.wrap (((n : Nat) : Int) - (q : Int))) by rw [HNE.out, if_pos hws])
                    clear hws HNE hn37
                    go_wp2_with fail
                    have HU := Lib.hid (HA2.out.unit (IntKind.u16.wrap (((n : Nat) : Int) - (q : Int))))
                    have HFU := Lib.hid (Fr.setc HF2.out 38 (.int .u16 (IntKind.u16.wrap (((n : Nat) : Int) - (q : Int)))))
                    have HTU := Lib.hid (tabs_fr HT2.out hg hw2 (Fr.setc (Fr.refl g w2) 38 (.int .u16 (IntKind.u16.wrap (((n : Nat) : Int) - (q : Int))))))
                    generalize hWU : World.setCell w2 _ _ = wu at HU HFU HTU
                    have hwu : 3 ≤ wu.heap.size := by rw [← hWU, World.size_setCell]; exact hw2
                    clear hWU HA2 HF2 HT2 c35 c37 c38 fz
                    refine (name69 g u r0 r1 s q n _ kd fl _ HU.out HL.out.2 HL.out.1 (NoB.mono HB.out HL.out.1) HTU.out hg hwu hs).mono ?_
                    rintro e w3 ⟨rfl, h3, f3⟩
                    have H3 := Lib.hid h3
                    have HF3 := Lib.hid (Fr.trans HFU.out f3)
                    clear h3 f3
                    go_wp2_with fail
                    go_ret
                    unfold Numd
                    rw [HR.out]
                    exact ⟨rfl, H3.out, HF3.out⟩
          · have HD := Lib.hid hd
            clear hd
            go_wp2_with fail
            refine (HK.out.step hg hs tq0 tq1).mono ?_
            rintro e w1 ⟨rfl, h1⟩
            have HM := Lib.hid (tl_at HK.out.at_)
            have HM1 := Lib.hid (tl_at h1.at_)
            have H1' := Lib.hid (And.intro h1 (And.intro ((dg_step HK.out.le HD.out).symm.trans HKD.out) (Nat.le_trans HKQ.out (Nat.le_add_right k (wdOf s k)))))
            have hlt := dig_lt HD.out
            have hwp := wd_pos hlt
            have HLT := Lib.hid (And.intro hlt (And.intro hwp (And.intro HKQ.out h1.le)))
            clear h1 hlt hwp
            go_wp2_with fail
            go_roundw
            case rel => exact ⟨_, H1'⟩
            case measure =>
              rw [HM.out, HM1.out]
              have := HLT.out
              omega
end Go.Proofs.YtcljenkgbbbfpaaDoor.Zf
