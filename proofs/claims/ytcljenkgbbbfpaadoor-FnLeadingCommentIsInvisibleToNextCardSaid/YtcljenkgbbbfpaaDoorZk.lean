/-
  Proved: the token that begins at a place does not depend on what stands before it (plain Lean). Conditions: those that each theorem names as its
  hypotheses, and no others.
-/
import Derived.Test.YtcljenkgbbbfpaaDoorZf
namespace Go.Proofs.YtcljenkgbbbfpaaDoor.Zk
open Go.RowKit Go.PlainAid Str Mem De Lu Dw Cu Rws Za Zb Zc Zd Ze Zf
set_option linter.unusedVariables false
set_option linter.unusedSimpArgs false
/-- The end of the white space from q on. -/
def wss (s : ByteArray) : Nat → Nat → Nat
  | 0, q => q
  | f + 1, q => if wsB (cpOf s q) = true then wss s f (q + wdOf s q) else q
def wse (s : ByteArray) (q : Nat) : Nat := wss s (s.size - q) q
theorem wsb_lt {s : ByteArray} {q : Nat} (h : wsB (cpOf s q) = true) : q < s.size := by
  rcases Nat.lt_or_ge q s.size with a | a
  · exact a
  · rw [(cp_out a).1] at h; exact absurd h (by decide)
theorem wss_fuel {s : ByteArray} : ∀ (f f' q : Nat), q ≤ s.size → s.size - q ≤ f → s.size - q ≤ f' → wss s f q = wss s f' q
  | 0, f', q, hq, h, h' => by
    have hd : wsB (cpOf s q) = false := by rw [(cp_out (by omega)).1]; rfl
    cases f' with
    | zero => rfl
    | succ f' => unfold wss; rw [hd]; rfl
  | f + 1, 0, q, hq, h, h' => by
    have hd : wsB (cpOf s q) = false := by rw [(cp_out (by omega)).1]; rfl
    unfold wss; rw [hd]; rfl
  | f + 1, f' + 1, q, hq, h, h' => by
    unfold wss
    split
    · rename_i hd
      have h1 := wd_pos (wsb_lt hd)
      have h2 := (cp_rng s q hq).2.2
      exact wss_fuel f f' _ h2 (by omega) (by omega)
    · rfl
theorem wse_step {s : ByteArray} {q : Nat} (hq : q ≤ s.size) (hd : wsB (cpOf s q) = true) : wse s q = wse s (q + wdOf s q) := by
  have h1 := wd_pos (wsb_lt hd)
  have h2 := (cp_rng s q hq).2.2
  unfold wse
  rw [show s.size - q = (s.size - q - 1) + 1 by have := wsb_lt hd; omega]
  conv => lhs; unfold wss
  rw [if_pos hd]
  exact wss_fuel _ _ _ h2 (by omega) (Nat.le_refl _)
theorem wse_stop {s : ByteArray} {q : Nat} (hd : wsB (cpOf s q) = false) : wse s q = q := by
  unfold wse
  cases s.size - q with
  | zero => rfl
  | succ n => unfold wss; rw [hd]; rfl
theorem wss_le {s : ByteArray} : ∀ (f q : Nat), q ≤ s.size → q ≤ wss s f q ∧ wss s f q ≤ s.size
  | 0, q, h => ⟨Nat.le_refl _, h⟩
  | f + 1, q, h => by
    have := (cp_rng s q h).2.2
    unfold wss
    split
    · have := wss_le f (q + wdOf s q) this; omega
    · omega
theorem wse_le {s : ByteArray} {q : Nat} (hq : q ≤ s.size) : q ≤ wse s q ∧ wse s q ≤ s.size := wss_le _ _ hq
/-- A single character's kind. -/
def sk (c : Int) : Int := if c = 125 then 6 else if c = 93 then 7 else if c = 41 then 8 else if c = 58 then 9 else if c = 44 then 10 else if c = 38 then 12 else if c = 42 then 13 else if c = 124 then 14 else if c = 94 then 15 else if c = 36 then 16 else if c = 61 then 18 else if c = 33 then 19 else if c = 62 then 20 else if c = 126 then 25 else if c = 123 then 31 else if c = 91 then 32 else if c = 40 then 33 else if c = 59 then 35 else 11
def nmt (s : ByteArray) (q : Nat) : Nat × Int × Int × Int := ((num s q).1, (num s q).2.2, (num s q).2.1, 0)
def idt (s : ByteArray) (q : Nat) : Nat × Int × Int × Int := ((idl s q).1, 0, (idl s q).2, 0)
/-- A number, or a single character of kind k. -/
def plus (s : ByteArray) (q : Nat) (k : Int) : Nat × Int × Int × Int := if wsn s q = true then nmt s q else (q + wdOf s q, 0, k, 0)
def hsh (s : ByteArray) (p : Nat) : Nat × Int × Int × Int := if ncB (cpOf s p) = true then (ne s p, 0, 28, if wsi s p = true then 1 else 0) else (p, 0, 11, 0)
def atk (s : ByteArray) (p : Nat) : Nat × Int × Int × Int := if wsi s p = true then (ne s p, 0, 1, 0) else (p, 0, 11, 0)
def cdc (s : ByteArray) (p : Nat) : Bool := decide (p + 2 ≤ s.size) && (bt s p == 45 && bt s (p + 1) == 62)
def cdo (s : ByteArray) (p : Nat) : Bool := decide (p + 3 ≤ s.size) && (bt s p == 33 && (bt s (p + 1) == 45 && bt s (p + 2) == 45))
def mns (s : ByteArray) (q : Nat) : Nat × Int × Int × Int := if wsn s q = true then nmt s q else if cdc s (q + wdOf s q) = true then (q + wdOf s q + 2, 0, 4, 0) else if wsi s q = true then idt s q else (q + wdOf s q, 0, 22, 0)
def les (s : ByteArray) (q : Nat) : Nat × Int × Int × Int := if cdo s (q + wdOf s q) = true then (q + wdOf s q + 3, 0, 5, 0) else (q + wdOf s q, 0, 21, 0)
/-- The token that begins at q: its end, unit, kind, flags. -/
def tok (s : ByteArray) (q : Nat) : Nat × Int × Int × Int :=
  if cpOf s q = -1 then (q, 0, 0, 0)
  else if wsB (cpOf s q) = true then (wse s (q + wdOf s q), 0, 38, 0)
  else if cpOf s q = 35 then hsh s (q + wdOf s q)
  else if cpOf s q = 64 then atk s (q + wdOf s q)
  else if cpOf s q = 43 then plus s q 23
  else if cpOf s q = 46 then plus s q 17
  else if cpOf s q = 45 then mns s q
  else if cpOf s q = 60 then les s q
  else if dgB (cpOf s q) = true then nmt s q
  else if nsB (cpOf s q) = true then idt s q
  else (q + wdOf s q, 0, sk (cpOf s q), 0)
/-- t lies in s behind m bytes. -/
structure Sh (s t : ByteArray) (m : Nat) : Prop where
  sz : s.size = m + t.size
  ext : ∀ k, s.extract (m + k) s.size = t.extract k t.size
  b : ∀ k, bt s (m + k) = bt t k
theorem Sh.mk' (p t : ByteArray) : Sh (p ++ t) t p.size := by
  have hb : ∀ k, bt (p ++ t) (p.size + k) = bt t k := fun k => by rw [bt_append_right _ _ _ (by omega), Nat.add_sub_cancel_left]
  refine ⟨size_append _ _, fun k => bt_ext ?_ fun i hi => ?_, hb⟩
  · rw [size_extract, size_extract, size_append]; omega
  · rw [size_extract, size_append] at hi
    rw [bt_extract _ _ _ _ (by rw [size_append]; omega), bt_extract _ _ _ _ (by omega), Nat.add_assoc, hb]
variable {s t : ByteArray} {m : Nat}
theorem Sh.cp (h : Sh s t m) (k : Nat) : cpOf s (m + k) = cpOf t k := by unfold cpOf; rw [h.ext]
theorem Sh.wd (h : Sh s t m) (k : Nat) : wdOf s (m + k) = wdOf t k := by unfold wdOf; rw [h.ext]
theorem Sh.pw (h : Sh s t m) (k : Nat) : m + k + wdOf s (m + k) = m + (k + wdOf t k) := by rw [h.wd]; omega
theorem Sh.rc (h : Sh s t m) (k : Nat) : De.rc s (m + k) = De.rc t k := by unfold De.rc De.rd; rw [h.ext]
theorem Sh.rw' (h : Sh s t m) (k : Nat) : De.rw' s (m + k) = De.rw' t k := by unfold De.rw' De.rd; rw [h.ext]
theorem Sh.lt (h : Sh s t m) (k : Nat) : (m + k < s.size) = (k < t.size) := by rw [h.sz]; exact propext ⟨fun _ => by omega, fun _ => by omega⟩
theorem Sh.bscan (h : Sh s t m) : ∀ f k, bscan s f (m + k) = m + bscan t f k
  | 0, k => rfl
  | f + 1, k => by
    unfold Zb.bscan
    rw [h.b, Nat.add_assoc, h.bscan f (k + 1)]
    split <;> rfl
theorem Sh.ne (h : Sh s t m) (k : Nat) : ne s (m + k) = m + ne t k := by
  unfold Zb.ne
  rw [h.cp, h.pw, h.bscan, h.sz, Nat.add_sub_add_left]
  split <;> rfl
theorem Sh.wsi (h : Sh s t m) (k : Nat) : wsi s (m + k) = wsi t k := by
  unfold Zd.wsi
  rw [h.cp, h.pw, h.rc, h.rw']
theorem Sh.wsn (h : Sh s t m) (k : Nat) : wsn s (m + k) = wsn t k := by
  unfold Zd.wsn
  rw [h.cp, h.pw, h.b, Nat.add_assoc m, h.b]
  simp only [h.lt]
theorem Sh.idl (h : Sh s t m) (k : Nat) : idl s (m + k) = (m + (idl t k).1, (idl t k).2) := by
  unfold Ze.idl
  rw [h.ne, h.cp, h.pw]
  split <;> rfl
theorem Sh.sg (h : Sh s t m) (k : Nat) : sg s (m + k) = m + sg t k := by
  unfold Zf.sg
  rw [h.cp, h.pw]
  split <;> rfl
theorem Sh.dgs (h : Sh s t m) : ∀ f k, dgs s f (m + k) = m + dgs t f k
  | 0, k => rfl
  | f + 1, k => by
    unfold Zf.dgs
    rw [h.cp, h.pw, h.dgs f]
    split <;> rfl
theorem Sh.dg (h : Sh s t m) (k : Nat) : dg s (m + k) = m + dg t k := by
  unfold Zf.dg
  rw [h.dgs, h.sz, Nat.add_sub_add_left]
theorem Sh.dt (h : Sh s t m) (k : Nat) : dt s (m + k) = m + dt t k := by
  unfold Zf.dt
  rw [h.cp, h.pw, h.dg]
  split <;> rfl
theorem Sh.exC (h : Sh s t m) (k : Nat) : exC s (m + k) = exC t k := by
  unfold Zf.exC
  rw [h.b, Nat.add_assoc, h.b]
  simp only [h.lt]
theorem Sh.ex (h : Sh s t m) (k : Nat) : ex s (m + k) = m + ex t k := by
  unfold Zf.ex
  rw [h.cp, h.pw, h.exC, h.sg, h.dg]
  simp only [h.lt]
  split <;> rfl
theorem Sh.nm (h : Sh s t m) (k : Nat) : nm s (m + k) = m + nm t k := by
  unfold Zf.nm
  rw [h.sg, h.dg, h.dt, h.ex]
theorem num_dim {s : ByteArray} {q : Nat} (h : Zd.wsi s (Zf.nm s q) = true) : num s q = (ne s (Zf.nm s q), 26, IntKind.u16.wrap (((Zf.nm s q : Nat) : Int) - (q : Int))) := by unfold Zf.num; rw [if_pos h]
theorem num_pct {s : ByteArray} {q : Nat} (h : Zd.wsi s (Zf.nm s q) = false) (h2 : cpOf s (Zf.nm s q) = 37) : num s q = (Zf.nm s q + wdOf s (Zf.nm s q), 34, 0) := by unfold Zf.num; rw [h, if_neg (by decide), if_pos h2]
theorem num_num {s : ByteArray} {q : Nat} (h : Zd.wsi s (Zf.nm s q) = false) (h2 : cpOf s (Zf.nm s q) ≠ 37) : num s q = (Zf.nm s q, 30, 0) := by unfold Zf.num; rw [h, if_neg (by decide), if_neg h2]
theorem Sh.num (h : Sh s t m) (k : Nat) : num s (m + k) = (m + (num t k).1, (num t k).2) := by
  have e : (((m + Zf.nm t k : Nat) : Int) - ((m + k : Nat) : Int)) = ((Zf.nm t k : Nat) : Int) - (k : Int) := by omega
  cases h1 : Zd.wsi t (Zf.nm t k)
  · by_cases h2 : cpOf t (Zf.nm t k) = 37
    · rw [num_pct h1 h2, num_pct (by rw [h.nm, h.wsi]; exact h1) (by rw [h.nm, h.cp]; exact h2), h.nm, h.pw]
    · rw [num_num h1 h2, num_num (by rw [h.nm, h.wsi]; exact h1) (by rw [h.nm, h.cp]; exact h2), h.nm]
  · rw [num_dim h1, num_dim (by rw [h.nm, h.wsi]; exact h1), h.nm, h.ne, e]
theorem Sh.wss (h : Sh s t m) : ∀ f k, wss s f (m + k) = m + wss t f k
  | 0, k => rfl
  | f + 1, k => by
    unfold Zk.wss
    rw [h.cp, h.pw, h.wss f]
    split <;> rfl
theorem Sh.wse (h : Sh s t m) (k : Nat) : wse s (m + k) = m + wse t k := by
  unfold Zk.wse
  rw [h.wss, h.sz, Nat.add_sub_add_left]
theorem Sh.nmt (h : Sh s t m) (k : Nat) : nmt s (m + k) = (m + (nmt t k).1, (nmt t k).2) := by
  unfold Zk.nmt; rw [h.num]
theorem Sh.idt (h : Sh s t m) (k : Nat) : idt s (m + k) = (m + (idt t k).1, (idt t k).2) := by
  unfold Zk.idt; rw [h.idl]
theorem Sh.plus (h : Sh s t m) (k : Nat) (K : Int) : plus s (m + k) K = (m + (plus t k K).1, (plus t k K).2) := by
  unfold Zk.plus; rw [h.wsn, h.nmt, h.pw]
  split <;> rfl
theorem Sh.hsh (h : Sh s t m) (k : Nat) : hsh s (m + k) = (m + (hsh t k).1, (hsh t k).2) := by
  unfold Zk.hsh; rw [h.cp, h.ne, h.wsi]
  split <;> rfl
theorem Sh.atk (h : Sh s t m) (k : Nat) : atk s (m + k) = (m + (atk t k).1, (atk t k).2) := by
  unfold Zk.atk; rw [h.ne, h.wsi]
  split <;> rfl
theorem Sh.cdc (h : Sh s t m) (k : Nat) : cdc s (m + k) = cdc t k := by
  unfold Zk.cdc
  rw [h.b, Nat.add_assoc, Nat.add_assoc, h.b, h.sz, decide_eq_decide.2 (show (m + (k + 2) ≤ m + t.size) ↔ (k + 2 ≤ t.size) from ⟨fun _ => by omega, fun _ => by omega⟩)]
theorem Sh.cdo (h : Sh s t m) (k : Nat) : cdo s (m + k) = cdo t k := by
  unfold Zk.cdo
  rw [h.b, Nat.add_assoc, Nat.add_assoc, Nat.add_assoc, h.b, h.b, h.sz, decide_eq_decide.2 (show (m + (k + 3) ≤ m + t.size) ↔ (k + 3 ≤ t.size) from ⟨fun _ => by omega, fun _ => by omega⟩)]
theorem Sh.mns (h : Sh s t m) (k : Nat) : mns s (m + k) = (m + (mns t k).1, (mns t k).2) := by
  unfold Zk.mns; rw [h.wsn, h.nmt, h.pw, h.cdc, h.wsi, h.idt]
  split
  · rfl
  · split
    · rfl
    · split <;> rfl
theorem Sh.les (h : Sh s t m) (k : Nat) : les s (m + k) = (m + (les t k).1, (les t k).2) := by
  unfold Zk.les; rw [h.pw, h.cdo]
  split <;> rfl
theorem Sh.tok (h : Sh s t m) (k : Nat) : tok s (m + k) = (m + (tok t k).1, (tok t k).2) := by
  unfold Zk.tok
  rw [h.cp, h.pw, h.wse, h.hsh, h.atk, h.plus, h.plus, h.mns, h.les, h.nmt, h.idt]
  iterate 10 (split; · rfl)
  rfl
theorem Sh.cnt (h : Sh s t m) : ∀ k, cnt s (m + k) = cnt s m + cnt t k
  | 0 => rfl
  | k + 1 => by
    rw [← Nat.add_assoc, cnt_succ, cnt_succ, h.b, h.cnt k]; omega
/-- Every token but the last is not empty, and lies in the text. -/
theorem nm_pos {q : Nat} (hq : q ≤ s.size) (h : wsn s q = true) : q < nm s q := by
  have a := sg_le hq
  have b := dg_le a.2
  have c := dt_le b.2
  have d := ex_le c.2
  have hn : nm s q = ex s (dt s (dg s (sg s q))) := rfl
  rcases Nat.lt_or_ge q (nm s q) with x | x
  · exact x
  · exfalso
    have e0 : sg s q = q := by omega
    have e1 : dg s q = q := by rw [e0] at b c d hn; omega
    have hd : dgB (cpOf s q) = false := by
      cases hd : dgB (cpOf s q)
      · rfl
      · have := wd_pos (dig_lt hd)
        rw [dg_step hq hd] at e1
        have := (dg_le (s := s) (cp_rng s q hq).2.2).1
        omega
    have hs : ¬ (cpOf s q = 43 ∨ cpOf s q = 45) := fun hs => by
      have hl : q < s.size := by
        rcases Nat.lt_or_ge q s.size with a | a
        · exact a
        · rw [(cp_out a).1] at hs; omega
      have := wd_pos hl
      unfold Zf.sg at e0
      rw [if_pos hs] at e0
      omega
    have h46 : cpOf s q ≠ 46 := fun e46 => by
      have hl : q < s.size := by
        rcases Nat.lt_or_ge q s.size with a | a
        · exact a
        · rw [(cp_out a).1] at e46; omega
      have := wd_pos hl
      have e2 : dt s q = q := by rw [e0, e1] at c d hn; omega
      unfold Zf.dt at e2
      rw [if_pos e46] at e2
      have := (dg_le (s := s) (cp_rng s q hq).2.2).1
      omega
    unfold Zd.wsn at h
    rw [hd, show (cpOf s q == 46) = false from beq_eq_false_iff_ne.2 h46, show (cpOf s q == 43) = false from beq_eq_false_iff_ne.2 (by omega), show (cpOf s q == 45) = false from beq_eq_false_iff_ne.2 (by omega)] at h
    simp at h
set_option maxHeartbeats 1000000 in
theorem num_rng {q : Nat} (hq : q ≤ s.size) : nm s q ≤ (num s q).1 ∧ (num s q).1 ≤ s.size ∧ 1 ≤ (num s q).2.1 := by
  have h := nm_le hq
  cases h1 : Zd.wsi s (Zf.nm s q)
  · by_cases h2 : cpOf s (Zf.nm s q) = 37
    · have hn := num_pct h1 h2
      have hw := (cp_rng s _ h.2).2.2
      clear h1 h2
      generalize num s q = X at hn ⊢
      subst hn
      generalize nm s q = M at *
      dsimp only
      omega
    · have hn := num_num h1 h2
      clear h1 h2
      generalize num s q = X at hn ⊢
      subst hn
      generalize nm s q = M at *
      dsimp only
      omega
  · have hx := ne_le h.2
    have hn := num_dim h1
    clear h1
    generalize IntKind.u16.wrap _ = W at hn
    generalize num s q = X at hn ⊢
    subst hn
    generalize nm s q = M at *
    dsimp only
    omega
theorem ne_pos {q : Nat} (hq : q ≤ s.size) (h : ncB (cpOf s q) = true) : q < ne s q := by
  have hl : q < s.size := by
    rcases Nat.lt_or_ge q s.size with a | a
    · exact a
    · rw [(cp_out a).1] at h; exact absurd h (by decide)
  have := wd_pos hl
  unfold Zb.ne
  rw [if_pos h]
  have := bscan_le (s := s) (s.size - (q + wdOf s q)) (q + wdOf s q)
  omega
theorem idl_rng {q : Nat} (hq : q ≤ s.size) : ne s q ≤ (idl s q).1 ∧ (idl s q).1 ≤ s.size ∧ 1 ≤ (idl s q).2 := by
  have h := ne_le hq
  unfold Ze.idl
  split
  · exact ⟨Nat.le_add_right _ _, (cp_rng s _ h.2).2.2, show (1 : Int) ≤ 27 by decide⟩
  · exact ⟨Nat.le_refl _, h.2, show (1 : Int) ≤ 29 by decide⟩
theorem ns_nc {c : Int} (h : nsB c = true) : ncB c = true := by
  have := of_decide_eq_true h
  exact decide_eq_true (by omega)
def Good (s : ByteArray) (q : Nat) (p : Nat × Int × Int × Int) : Prop := q < p.1 ∧ p.1 ≤ s.size ∧ p.2.2.1 ≠ 0
theorem tok_end {q : Nat} (hq : s.size ≤ q) : tok s q = (q, 0, 0, 0) := by
  unfold Zk.tok; rw [if_pos (cp_out hq).1]
theorem sk_ne (c : Int) : sk c ≠ 0 := by
  unfold Zk.sk
  by_cases h : c = 125
  · rw [if_pos h]; decide
  rw [if_neg h]
  clear h
  by_cases h : c = 93
  · rw [if_pos h]; decide
  rw [if_neg h]
  clear h
  by_cases h : c = 41
  · rw [if_pos h]; decide
  rw [if_neg h]
  clear h
  by_cases h : c = 58
  · rw [if_pos h]; decide
  rw [if_neg h]
  clear h
  by_cases h : c = 44
  · rw [if_pos h]; decide
  rw [if_neg h]
  clear h
  by_cases h : c = 38
  · rw [if_pos h]; decide
  rw [if_neg h]
  clear h
  by_cases h : c = 42
  · rw [if_pos h]; decide
  rw [if_neg h]
  clear h
  by_cases h : c = 124
  · rw [if_pos h]; decide
  rw [if_neg h]
  clear h
  by_cases h : c = 94
  · rw [if_pos h]; decide
  rw [if_neg h]
  clear h
  by_cases h : c = 36
  · rw [if_pos h]; decide
  rw [if_neg h]
  clear h
  by_cases h : c = 61
  · rw [if_pos h]; decide
  rw [if_neg h]
  clear h
  by_cases h : c = 33
  · rw [if_pos h]; decide
  rw [if_neg h]
  clear h
  by_cases h : c = 62
  · rw [if_pos h]; decide
  rw [if_neg h]
  clear h
  by_cases h : c = 126
  · rw [if_pos h]; decide
  rw [if_neg h]
  clear h
  by_cases h : c = 123
  · rw [if_pos h]; decide
  rw [if_neg h]
  clear h
  by_cases h : c = 91
  · rw [if_pos h]; decide
  rw [if_neg h]
  clear h
  by_cases h : c = 40
  · rw [if_pos h]; decide
  rw [if_neg h]
  clear h
  by_cases h : c = 59
  · rw [if_pos h]; decide
  rw [if_neg h]
  clear h
  decide
set_option maxHeartbeats 1000000 in
theorem tok_good {q : Nat} (hq : q < s.size) : Good s q (tok s q) := by
  have w1 := wd_pos hq
  have w2 := (cp_rng s q (by omega)).2.2
  have hc : cpOf s q ≠ -1 := by rw [(cp_in hq).1]; have := (rd_bounds s q (by omega)).1; omega
  unfold Zk.tok Zk.plus Zk.mns
  have gn : wsn s q = true → Good s q (nmt s q) := fun h => by
    have a := nm_pos (Nat.le_of_lt hq) h
    have b := num_rng (s := s) (Nat.le_of_lt hq)
    unfold Zk.nmt Good
    generalize num s q = X at b ⊢
    dsimp only
    omega
  have gi : ncB (cpOf s q) = true → Good s q (idt s q) := fun h => by
    have a := ne_pos (Nat.le_of_lt hq) h
    have b := idl_rng (s := s) (Nat.le_of_lt hq)
    unfold Zk.idt Good
    generalize idl s q = X at b ⊢
    dsimp only
    omega
  have nh := ne_le (s := s) w2
  have wh := wse_le (s := s) w2
  generalize nmt s q = NM at gn ⊢
  generalize idt s q = ID at gi ⊢
  have gs : ∀ k : Int, k ≠ 0 → Good s q (q + wdOf s q, 0, k, 0) := fun k hk => ⟨by show q < q + wdOf s q; omega, w2, hk⟩
  rw [if_neg hc]
  split
  · generalize wse s (q + wdOf s q) = E at wh ⊢
    unfold Good
    dsimp only
    omega
  split
  · unfold Zk.hsh
    generalize ne s (q + wdOf s q) = E at nh ⊢
    split
    · unfold Good
      dsimp only
      omega
    · exact gs 11 (by decide)
  split
  · unfold Zk.atk
    generalize ne s (q + wdOf s q) = E at nh ⊢
    split
    · unfold Good
      dsimp only
      omega
    · exact gs 11 (by decide)
  split
  · split
    · rename_i h; exact gn h
    · exact gs 23 (by decide)
  split
  · split
    · rename_i h; exact gn h
    · exact gs 17 (by decide)
  split
  · rename_i h45
    split
    · rename_i h; exact gn h
    split
    · rename_i h
      unfold Zk.cdc at h
      rw [Bool.and_eq_true] at h
      have := of_decide_eq_true h.1
      exact ⟨by show q < q + wdOf s q + 2; omega, this, by show (4 : Int) ≠ 0; decide⟩
    split
    · exact gi (by rw [h45]; rfl)
    · exact gs 22 (by decide)
  split
  · unfold Zk.les
    split
    · rename_i h
      unfold Zk.cdo at h
      rw [Bool.and_eq_true] at h
      have := of_decide_eq_true h.1
      exact ⟨by show q < q + wdOf s q + 3; omega, this, by show (5 : Int) ≠ 0; decide⟩
    · exact gs 21 (by decide)
  split
  · rename_i hd
    exact gn (by unfold Zd.wsn; rw [hd]; rfl)
  split
  · rename_i hn; exact gi (ns_nc hn)
  · exact gs _ (sk_ne _)
end Go.Proofs.YtcljenkgbbbfpaaDoor.Zk
