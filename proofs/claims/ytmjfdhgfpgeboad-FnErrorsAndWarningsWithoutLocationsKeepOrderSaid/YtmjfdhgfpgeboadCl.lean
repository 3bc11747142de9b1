/-
  Proved: cloneMsgs returns a copy of the messages and of their notes in new blocks. Conditions: those that each theorem names as its hypotheses, and
  no others.
-/
import Derived.Test.YtmjfdhgfpgeboadLp
import Derived.Deep.MidRow
import Derived.Deep.WholeRow
import Derived.Lib.SliceRun
import Derived.Lib.LazyBuf
namespace Go.Proofs.Ytmjfdhgfpgeboad.Cl
open Go.RowKit Go.PlainAid Mem Ho Rws Orw Lcs Msr Pg Idp Ct Lp
set_option linter.unusedVariables false
set_option linter.unusedSimpArgs false
/-- The rows F 0, F 1, .. (K cells each) that a made block holds up to k. -/
def Filled (w : World) (g : Nat) (t : TypeId) (K n k : Nat) (F : Nat → List Value) : Prop := ∃ cs, Own w g t cs ∧ cs.size = n * K ∧ ∀ i, i < k → ∀ q, q < K → cs[i * K + q]? = (F i)[q]?
theorem Filled.own {w w' : World} {g : Nat} {t : TypeId} {K n k : Nat} {F : Nat → List Value} (h : Filled w g t K n k F) (e : ∀ cs, Own w g t cs → Own w' g t cs) : Filled w' g t K n k F := by
  obtain ⟨cs, o, s, hc⟩ := h
  exact ⟨cs, e cs o, s, hc⟩
theorem Filled.below {w w' : World} {g : Nat} {t : TypeId} {K n k : Nat} {F : Nat → List Value} (h : Filled w g t K n k F) (hb : Below w.heap.size w w') : Filled w' g t K n k F := h.own fun cs o => o.below hb o.lt
theorem Filled.lt {w : World} {g : Nat} {t : TypeId} {K n k : Nat} {F : Nat → List Value} (h : Filled w g t K n k F) : g < w.heap.size := by
  obtain ⟨cs, o, s, hc⟩ := h
  exact o.lt
theorem Filled.zero {w : World} {g : Nat} {t : TypeId} {K n : Nat} {cs : Array Value} {F : Nat → List Value} (h : Own w g t cs) (hs : cs.size = n * K) : Filled w g t K n 0 F := ⟨cs, h, hs, fun i hi => absurd hi (by omega)⟩
theorem Filled.there {w : World} {g : Nat} {t : TypeId} {K n k : Nat} {F : Nat → List Value} (h : Filled w g t K n k F) (hk : k < n) : w.there g (k * K) K := by
  obtain ⟨cs, o, s, hc⟩ := h
  refine Own.there o _ _ ?_
  have := Nat.mul_le_mul_right K (show k + 1 ≤ n from hk)
  rw [Nat.add_mul, Nat.one_mul] at this
  omega
theorem Filled.set {w : World} {g : Nat} {t : TypeId} {K n k : Nat} {F : Nat → List Value} {vs : List Value} (h : Filled w g t K n k F) (hk : k < n) (hv : vs = F k) (hl : vs.length = K) : Filled (w.setCells g (k * K) vs) g t K n (k + 1) F := by
  obtain ⟨cs, o, s, hc⟩ := h
  have hb := Nat.mul_le_mul_right K (show k + 1 ≤ n from hk)
  rw [Nat.add_mul, Nat.one_mul] at hb
  refine ⟨_, Own.setCells vs (k * K) w cs o, by rw [putL_size]; exact s, fun i hi q hq => ?_⟩
  rcases Nat.lt_or_ge i k with h1 | h1
  · have hb2 := Nat.mul_le_mul_right K (show i + 1 ≤ k from h1)
    rw [Nat.add_mul, Nat.one_mul] at hb2
    rw [putL_out _ _ _ _ (by omega)]
    exact hc i h1 q hq
  · obtain rfl : k = i := by omega
    rw [putL_in vs (k * K) cs q (by omega) (by omega), ← hv, List.getElem?_eq_getElem (by omega)]
theorem Filled.far {w : World} {g b : Nat} {t : TypeId} {K n k o : Nat} {F : Nat → List Value} {vs : List Value} (h : Filled w g t K n k F) (hb : g ≠ b) : Filled (w.setCells b o vs) g t K n k F := h.own fun cs oo => Own.farCells hb _ _ _ oo
theorem Filled.rd {w : World} {g : Nat} {t : TypeId} {K n : Nat} {F : Nat → List Value} (hK : 0 < K) (hF : ∀ i, i < n → (F i).length = K) (h : Filled w g t K n n F) : Rd w w.heap.size K (some ⟨g, 0, none⟩) n (rowF K F) := by
  obtain ⟨cs, o, s, hc⟩ := h
  refine o.rd fun j hj => ?_
  have hi : j / K < n := by rw [Nat.div_lt_iff_lt_mul hK]; exact hj
  have hq := Nat.mod_lt j hK
  have := hc (j / K) hi (j % K) hq
  rw [Nat.div_add_mod'] at this
  rw [this]
  unfold rowF
  rw [List.getD_eq_getElem?_getD, List.getElem?_eq_getElem (by rw [hF _ hi]; exact hq)]
  rfl
/-- the message m with other notes of the same number -/
def ms' (m : Ms) (A : Option Addr) (c : Nat) : Ms := ⟨m.id, m.pl, m.tx, m.lc, A, m.nn, c, m.nt⟩
/-- A store of K cells into the midst of a block. -/
theorem wpList_put {P : Program} {ops : Array Oper} {rest : List Oper} {op : Oper} {a : Act} {w : World} {Q : Exit → Act → World → Prop} (hgd : op.guard = none) (ty : TypeId) (x y : Operand) (ho : op.op = .store ty x y)
    (b o K : Nat) (vs : List Value) (hx : a.eval x = .pointer (some ⟨b, o, none⟩)) (hy : a.eval y = .agg vs.toArray) (ht : w.there b o K) (hl : vs.length = K) (hi : (P.info? ty).map (·.size) = some K) (h1 : ∀ v ∈ vs, v.oneCell' = true)
    (h : wpList P ops Q rest (a.put op.dst undef) (w.setCells b o vs)) : wpList P ops Q (op :: rest) a w := by
  subst hl
  exact wpList_store_mid hgd ty x y ho b o vs.toArray hx hy (by simpa using ht) (by simpa using hi) (all_oneCell_toArray h1) (by simpa using h)
def z29 : Array Value := #[.string ⟨#[]⟩, .string ⟨#[]⟩, .string ⟨#[]⟩, .bool false, .string ⟨#[]⟩, .string ⟨#[]⟩, .int .i64 0, .int .i64 0, .int .i64 0, .string ⟨#[]⟩, .string ⟨#[]⟩, .slice none 0 0]
theorem info29 : (Try.prog.info? 29).map (fun i => (i.zero, i.size, i.bytes)) = some (some (.agg z29), 12, 168) := by kernel_rfl
theorem size29 : (Try.prog.info? 29).map (·.size) = some 12 := by kernel_rfl
theorem size45 : (Try.prog.info? 45).map (·.size) = some 9 := by kernel_rfl
theorem size53 : (Try.prog.info? 53).map (·.size) = some 6 := by kernel_rfl
theorem size51 : (Try.prog.info? 51).map (·.size) = some 2 := by kernel_rfl
def z45 : Array Value := #[.string ⟨#[]⟩, .bool false, .string ⟨#[]⟩, .string ⟨#[]⟩, .int .i64 0, .int .i64 0, .int .i64 0, .string ⟨#[]⟩, .string ⟨#[]⟩]
theorem info45 : (Try.prog.info? 45).map (fun i => (i.zero, i.size, i.bytes)) = some (some (.agg z45), 9, 112) := by kernel_rfl
def z53 : Array Value := #[.string ⟨#[]⟩, .string ⟨#[]⟩, .string ⟨#[]⟩, .pointer none, .slice none 0 0, .nilIface]
theorem info53 : (Try.prog.info? 53).map (fun i => (i.zero, i.size, i.bytes)) = some (some (.agg z53), 6, 96) := by kernel_rfl
def z51 : Array Value := #[.string ⟨#[]⟩, .pointer none]
theorem info51 : (Try.prog.info? 51).map (fun i => (i.zero, i.size, i.bytes)) = some (some (.agg z51), 2, 24) := by kernel_rfl
theorem made_size (z : Array Value) (m : Nat) : (madeCells z m).size = m := by simp [madeCells]
theorem Filled.congr {w : World} {g : Nat} {t : TypeId} {K n k : Nat} {F G : Nat → List Value} (h : Filled w g t K n k F) (e : ∀ i, i < k → F i = G i) : Filled w g t K n k G := by
  obtain ⟨cs, o, s, hc⟩ := h
  exact ⟨cs, o, s, fun i hi q hq => by rw [← e i hi]; exact hc i hi q hq⟩
theorem Filled.cell {w : World} {g : Nat} {t : TypeId} {K n k : Nat} {F : Nat → List Value} (h : Filled w g t K n k F) {i q : Nat} (hi : i < k) (hq : q < K) : w.cell? ⟨g, i * K + q, none⟩ = (F i)[q]? := by
  obtain ⟨cs, o, s, hc⟩ := h
  rw [o.cell]
  exact hc i hi q hq
theorem Filled.kp {w w' : World} {g : Nat} {t : TypeId} {K n k : Nat} {F : Nat → List Value} (h : Filled w g t K n k F) (k' : Kp w w') (ht : t ≠ 43) : Filled w' g t K n k F := h.own fun cs o => k' _ _ _ o ht
theorem own_ne {w : World} {g g' : Nat} {t t' : TypeId} {cs cs' : Array Value} (h : Own w g t cs) (h' : Own w g' t' cs') (ht : t ≠ t') : g ≠ g' := fun e => by
  subst e
  unfold Own at h h'
  rw [h] at h'
  simp at h'
  exact ht h'.2
theorem Filled.ne {w : World} {g g' : Nat} {t t' : TypeId} {K n k K' n' k' : Nat} {F F' : Nat → List Value} (h : Filled w g t K n k F) (h' : Filled w g' t' K' n' k' F') (ht : t ≠ t') : g ≠ g' := by
  obtain ⟨cs, o, _⟩ := h
  obtain ⟨cs', o', _⟩ := h'
  exact own_ne o o' ht
theorem src_cells {w : World} {a : Addr} {n : Nat} {M : Nat → Ms} (h : Src w (some a) n M) (hn : 0 < n) : ∃ b off, a = ⟨b, off, none⟩ ∧ b < w.heap.size ∧ ∀ k, k < n → ∀ q, q < 12 → w.cell? ⟨b, off + k * 12 + q, none⟩ = (M k).cells[q]? := by
  obtain ⟨b, off, e, hb, hc⟩ := h.1 hn
  injection e with e
  refine ⟨b, off, e, hb, fun k hk q hq => ?_⟩
  have hle := Nat.mul_le_mul_right 12 (show k + 1 ≤ n from hk)
  rw [Nat.add_mul] at hle
  rw [Nat.add_assoc, hc _ (by omega), rowF_at hq, List.getD_eq_getElem?_getD, List.getElem?_eq_getElem (show q < (M k).cells.length from hq)]
  rfl
theorem note_cells {w : World} {m : Ms} (h : m.wf w) {a : Addr} (ha : m.nA = some a) (hn : 0 < m.nn) : ∃ b off, a = ⟨b, off, none⟩ ∧ b < w.heap.size ∧ ∀ k, k < m.nn → ∀ q, q < 9 → w.cell? ⟨b, off + k * 9 + q, none⟩ = (m.nt k).cells[q]? := by
  obtain ⟨b, off, e, hb, hc⟩ := h.rows hn
  rw [ha] at e
  injection e with e
  refine ⟨b, off, e, hb, fun k hk q hq => ?_⟩
  have hle := Nat.mul_le_mul_right 9 (show k + 1 ≤ m.nn from hk)
  rw [Nat.add_mul] at hle
  rw [Nat.add_assoc, hc _ (by omega), rowF_at hq, List.getD_eq_getElem?_getD, List.getElem?_eq_getElem (show q < (m.nt k).cells.length from hq)]
  rfl
/-- notes of the clone's own -/
structure CN (w : World) (m : Ms) (A : Option Addr) (c : Nat) : Prop where
  le : m.nn ≤ c
  cap : c ≤ maxLen
  nil : A = none → m.nn = 0 ∧ c = 0
  at_ : 0 < m.nn → ∃ g, A = some ⟨g, 0, none⟩ ∧ Filled w g 45 9 m.nn m.nn (fun j => (m.nt j).cells)
theorem CN.keep {w w' : World} {m : Ms} {A : Option Addr} {c : Nat} (h : CN w m A c) (k : ∀ g cs, Own w g 45 cs → Own w' g 45 cs) : CN w' m A c :=
  ⟨h.le, h.cap, h.nil, fun hn => by
    obtain ⟨g, e, f⟩ := h.at_ hn
    exact ⟨g, e, f.own fun cs o => k _ _ o⟩⟩
theorem CN.wf {w : World} {m : Ms} {A : Option Addr} {c : Nat} (h : CN w m A c) (hm : m.id.size ≤ maxLen ∧ m.pl.size ≤ maxLen ∧ m.tx.size ≤ maxLen ∧ m.lc.wf ∧ ∀ j, j < m.nn → (m.nt j).tx.size ≤ maxLen ∧ (m.nt j).lc.wf) : (ms' m A c).wf w := by
  obtain ⟨h1, h2, h3, h4, h5⟩ := hm
  refine ⟨h1, h2, h3, h4, h.le, h.cap, h.nil, ?_, h5⟩
  intro hn
  obtain ⟨g, e, f⟩ := h.at_ hn
  show ∃ b off, A = _ ∧ _
  rw [e]
  exact Filled.rd (by decide) (fun i hi => rfl) f hn
def Cloned (w : World) (n : Nat) (M : Nat → Ms) (e : Ending) (w' : World) : Prop :=
  ∃ A c M', e = .returned (.slice A n c) ∧ Src w' A n M' ∧ (∀ i, i < n → (M' i).lc.pr = (M i).lc.pr ∧ (M' i).nn = (M i).nn) ∧ (A = none → n = 0) ∧ Below w.heap.size w w'
set_option maxRecDepth 100000 in
set_option maxHeartbeats 4000000 in
theorem clone6 (A : Option Addr) (n c : Nat) (M : Nat → Ms) (w : World) (hs : Src w A n M) (hn : n ≤ 1048576) (hnn : ∀ i, i < n → (M i).nn ≤ 1048576) (hz : A = none → n = 0 ∧ c = 0) : Calls Try.prog 6 #[.slice A n c] w (Cloned w n M) := by
  have HS := Lib.hid hs
  have HN := Lib.hid hnn
  clear hs hnn
  have hnil := fun W => Lib.run_eql_slice_nil (P := Try.prog) W 22 29 A n c 0 0 Try.underlying22
  cases A with
  | none =>
    obtain ⟨rfl, rfl⟩ := hz rfl
    go_enter Try.func6, Try.ntmps6
    go_wp2
    go_ret
    exact ⟨none, 0, M, rfl, ⟨Rd.zero _ _ _ _ _, fun i hi => absurd hi (by omega)⟩, fun i hi => absurd hi (by omega), fun _ => rfl, Below.refl _ _⟩
  | some a =>
    have hmk := run_mkc (P := Try.prog) 22 29 _ z29 rfl _ _ Try.underlying22 info29 n n (Nat.le_refl _) (by omega) (by omega)
    go_enter Try.func6, Try.ntmps6
    go_wp2_with fail
    generalize hWm : w.alloc _ = Wm
    have HBm : Hid (Below w.heap.size w Wm) := Lib.hid (by rw [← hWm]; exact (Below.refl _ _).alloc (Nat.le_refl _) _)
    have hom : Own Wm w.heap.size 29 (madeCells z29 (n * 12)) := by rw [← hWm]; exact Own.new _ _ _
    go_loopw [4] (fun i wr => ∃ (k : Nat) (NA : Nat → Option Addr) (NC : Nat → Nat), i = .int .i64 k ∧ k ≤ n ∧ Hid (Filled wr w.heap.size 29 12 n k (fun i => (ms' (M i) (NA i) (NC i)).cells)) ∧ Hid (∀ i, i < k → CN wr (M i) (NA i) (NC i)) ∧ Hid (Below w.heap.size w wr)) (fun i _ => n - (intOf i).toNat)
    case atStart => exact ⟨0, fun _ => none, fun _ => 0, rfl, by omega, Lib.hid (Filled.zero hom (made_size _ _)), Lib.hid (fun i hi => absurd hi (by omega)), HBm⟩
    case round =>
      clear HBm hom hWm
      obtain ⟨k, NA, NC, rfl, hk, HF, HW, HB⟩ := hrel
      obtain ⟨wo, rfl⟩ : ∃ wo : World, wo = wr := ⟨_, rfl⟩
      by_cases hlt : k < n
      · have hs := HS.out.below HB.out
        obtain ⟨b, off, rfl, hbl, hcs⟩ := src_cells hs (by omega)
        have hwf := hs.2 k hlt
        have hc := hcs k hlt
        clear hcs hs
        obtain ⟨m, hm⟩ : ∃ m, m = M k := ⟨_, rfl⟩
        have hq1 := HN.out k hlt
        rw [← hm] at hc hwf hq1
        obtain ⟨id, pl, tx, ⟨pr, fl, ns, ln, co, le, lt, sg⟩, nA, nn, nc, nt⟩ := m
        have r0 : wo.cell? ⟨b, off + k * 12, none⟩ = some (.string id) := (hc 0 (by decide)).trans rfl
        have r1 : wo.cell? ⟨b, off + k * 12 + 1, none⟩ = some (.string pl) := (hc 1 (by decide)).trans rfl
        have r2 : wo.cell? ⟨b, off + k * 12 + 2, none⟩ = some (.string tx) := (hc 2 (by decide)).trans rfl
        have r3 : wo.cell? ⟨b, off + k * 12 + 3, none⟩ = some (.bool pr) := (hc 3 (by decide)).trans rfl
        have r4 : wo.cell? ⟨b, off + k * 12 + 4, none⟩ = some (.string fl) := (hc 4 (by decide)).trans rfl
        have r5 : wo.cell? ⟨b, off + k * 12 + 5, none⟩ = some (.string ns) := (hc 5 (by decide)).trans rfl
        have r6 : wo.cell? ⟨b, off + k * 12 + 6, none⟩ = some (.int .i64 ln) := (hc 6 (by decide)).trans rfl
        have r7 : wo.cell? ⟨b, off + k * 12 + 7, none⟩ = some (.int .i64 co) := (hc 7 (by decide)).trans rfl
        have r8 : wo.cell? ⟨b, off + k * 12 + 8, none⟩ = some (.int .i64 le) := (hc 8 (by decide)).trans rfl
        have r9 : wo.cell? ⟨b, off + k * 12 + 9, none⟩ = some (.string lt) := (hc 9 (by decide)).trans rfl
        have r10 : wo.cell? ⟨b, off + k * 12 + 10, none⟩ = some (.string sg) := (hc 10 (by decide)).trans rfl
        have r11 : wo.cell? ⟨b, off + k * 12 + 11, none⟩ = some (.slice nA nn nc) := (hc 11 (by decide)).trans rfl
        clear hc
        have q0 : (0 : Int) ≤ (k : Int) := by omega
        have q1 : (k : Int) < (n : Int) := by omega
        have HM := Lib.hid hm
        have HV := Lib.hid hwf
        clear hm hwf
        go_upto_region 8 with fail
        generalize hWm : wo.alloc _ = Wm
        have hom : Own Wm wo.heap.size 29 #[.string id, .string pl, .string tx, .bool pr, .string fl, .string ns, .int .i64 ln, .int .i64 co, .int .i64 le, .string lt, .string sg, .slice nA nn nc] := by rw [← hWm]; exact Own.new _ _ _
        have HBm : Hid (Below wo.heap.size wo Wm) := Lib.hid (by rw [← hWm]; exact (Below.refl _ _).alloc (Nat.le_refl _) _)
        clear hWm r0 r1 r2 r3 r4 r5 r6 r7 r8 r9 r10 r11
        have u11 : Wm.cell? ⟨wo.heap.size, 11, none⟩ = some (.slice nA nn nc) := (hom.cell 11).trans rfl
        have HOm := Lib.hid hom
        have hneq := fun W => run_neq_slice_nil (P := Try.prog) W 27 45 nA nn nc Try.underlying27
        cases nA with
        | none =>
          obtain ⟨rfl, rfl⟩ : nn = 0 ∧ nc = 0 := HV.out.nil rfl
          go_upto_region 15 with fail
          have f11 : Wm.frozen? ⟨wo.heap.size, 11, none⟩ = false := Own.frozen HOm.out 11
          go_upto_region 16 with fail
          generalize hW2 : Wm.setCell _ _ = W2
          have ho2 : Own W2 wo.heap.size 29 #[.string id, .string pl, .string tx, .bool pr, .string fl, .string ns, .int .i64 ln, .int .i64 co, .int .i64 le, .string lt, .string sg, .slice none 0 0] := by rw [← hW2]; exact Own.set HOm.out 11 _
          have HF2 : Hid (Filled W2 w.heap.size 29 12 n k (fun i => (ms' (M i) (NA i) (NC i)).cells)) := Lib.hid (by rw [← hW2]; exact (HF.out.below HBm.out).own fun cs o => o.far (p := ⟨wo.heap.size, 11, none⟩) (by have := HF.out.lt; show w.heap.size ≠ wo.heap.size; omega) _)
          have HC2 : Hid (∀ i, i < k + 1 → CN W2 (M i) (if i = k then none else NA i) (if i = k then 0 else NC i)) := Lib.hid (by
            intro i hi
            have hcn : CN Wm (M i) (if i = k then none else NA i) (if i = k then 0 else NC i) := (by
              by_cases h : i = k
              · subst h
                simp only [if_true]
                rw [← HM.out]
                exact ⟨by have := (HV.out.nil rfl).1; omega, by unfold maxLen; omega, fun _ => ⟨(HV.out.nil rfl).1, rfl⟩, fun hn => absurd (HV.out.nil rfl).1 (by omega)⟩
              · simp only [if_neg h]
                exact (HW.out i (by omega)).keep fun g cs o => o.below HBm.out o.lt)
            rw [← hW2]
            exact hcn.keep fun g cs o => o.far (p := ⟨wo.heap.size, 11, none⟩) (own_ne o HOm.out (by decide)) _)
          have HB2 : Hid (Below w.heap.size w W2) := Lib.hid (by rw [← hW2]; exact (HB.out.trans (HBm.out.mono HB.out.size)).setCell (by have := HF.out.lt; show w.heap.size ≤ wo.heap.size; omega) _)
          have l0 : W2.cell? ⟨wo.heap.size, 0, none⟩ = some (.string id) := (ho2.cell 0).trans rfl
          have l1 : W2.cell? ⟨wo.heap.size, 1, none⟩ = some (.string pl) := (ho2.cell 1).trans rfl
          have l2 : W2.cell? ⟨wo.heap.size, 2, none⟩ = some (.string tx) := (ho2.cell 2).trans rfl
          have l3 : W2.cell? ⟨wo.heap.size, 3, none⟩ = some (.bool pr) := (ho2.cell 3).trans rfl
          have l4 : W2.cell? ⟨wo.heap.size, 4, none⟩ = some (.string fl) := (ho2.cell 4).trans rfl
          have l5 : W2.cell? ⟨wo.heap.size, 5, none⟩ = some (.string ns) := (ho2.cell 5).trans rfl
          have l6 : W2.cell? ⟨wo.heap.size, 6, none⟩ = some (.int .i64 ln) := (ho2.cell 6).trans rfl
          have l7 : W2.cell? ⟨wo.heap.size, 7, none⟩ = some (.int .i64 co) := (ho2.cell 7).trans rfl
          have l8 : W2.cell? ⟨wo.heap.size, 8, none⟩ = some (.int .i64 le) := (ho2.cell 8).trans rfl
          have l9 : W2.cell? ⟨wo.heap.size, 9, none⟩ = some (.string lt) := (ho2.cell 9).trans rfl
          have l10 : W2.cell? ⟨wo.heap.size, 10, none⟩ = some (.string sg) := (ho2.cell 10).trans rfl
          have l11 : W2.cell? ⟨wo.heap.size, 11, none⟩ = some (.slice none 0 0) := (ho2.cell 11).trans rfl
          have HO2 := Lib.hid ho2
          clear hW2 ho2
          go_wp2_with (first
            | (refine wpList_put rfl 29 (.tmp 50) (.tmp 49) rfl w.heap.size (k * 12) 12 [.string id, .string pl, .string tx, .bool pr, .string fl, .string ns, .int .i64 ln, .int .i64 co, .int .i64 le, .string lt, .string sg, .slice none 0 0] rfl rfl ?ht rfl size29 ?h1 ?_)
            | fail)
          case ht => exact HF2.out.there hlt
          case h1 => simp [Value.oneCell']
          go_roundw
          case rel =>
            refine ⟨k + 1, fun i => if i = k then none else NA i, fun i => if i = k then 0 else NC i, by go_num, by omega, Lib.hid (Filled.set (F := fun i => (ms' (M i) (if i = k then none else NA i) (if i = k then 0 else NC i)).cells) (HF2.out.congr fun i hi => by simp only [if_neg (show i ≠ k by omega)]) hlt ?_ rfl), Lib.hid fun i hi => (HC2.out i hi).keep fun g cs o => ?_, Lib.hid (Go.Proofs.Ytmjfdhgfpgeboad.Rws.below_setCells _ (Nat.le_refl _) _ _ _ HB2.out)⟩
            · simp only [if_true]
              rw [← HM.out]
              rfl
            · obtain ⟨cs', o', _⟩ := HF2.out
              exact Own.farCells (own_ne o o' (by decide)) _ _ _ o
          case measure => simp [intOf]; omega
        | some na =>
          have hq2 : nn ≤ 1048576 := hq1
          have hmk2 := run_mkc (P := Try.prog) 27 45 _ z45 rfl _ _ Try.underlying27 info45 nn nn (Nat.le_refl _) (by omega) (by omega)
          go_upto_region 11 with fail
          generalize hWn : Wm.alloc _ = Wn
          have hon : Own Wn Wm.heap.size 45 (madeCells z45 (nn * 9)) := by rw [← hWn]; exact Own.new _ _ _
          have hsz : wo.heap.size < Wm.heap.size := HOm.out.lt
          have HBn : Hid (Below Wm.heap.size Wm Wn) := Lib.hid (by rw [← hWn]; exact (Below.refl _ _).alloc (Nat.le_refl _) _)
          have hsn : Wm.heap.size ≤ Wn.heap.size := HBn.out.size
          have HFn : Hid (Filled Wn Wm.heap.size 45 9 nn 0 (fun j => (nt j).cells)) := Lib.hid (Filled.zero hon (made_size _ _))
          clear hWn u11 hom hon
          go_wp2_with fail
          go_loopw [7] (fun i wr => ∃ (j : Nat), i = .int .i64 j ∧ j ≤ nn ∧ Hid (Filled wr Wm.heap.size 45 9 nn j (fun j => (nt j).cells)) ∧ Hid (Below Wm.heap.size Wm wr)) (fun i _ => nn - (intOf i).toNat)
          case atStart => exact ⟨0, rfl, by omega, HFn, HBn⟩
          case round =>
            clear HFn HBn
            obtain ⟨j, rfl, hj, HFj, HBj⟩ := hrel
            obtain ⟨wi, rfl⟩ : ∃ wi : World, wi = wr := ⟨_, rfl⟩
            have hoi : Own wi wo.heap.size 29 #[.string id, .string pl, .string tx, .bool pr, .string fl, .string ns, .int .i64 ln, .int .i64 co, .int .i64 le, .string lt, .string sg, .slice (some na) nn nc] := HOm.out.below HBj.out hsz
            have v11 : wi.cell? ⟨wo.heap.size, 11, none⟩ = some (.slice (some na) nn nc) := (hoi.cell 11).trans rfl
            have HOi := Lib.hid hoi
            clear hoi
            by_cases hjl : j < nn
            · obtain ⟨nb, noff, hna, hnbl, hns⟩ := note_cells (wf_below HV.out HBm.out) rfl (show 0 < nn by omega)
              subst hna
              obtain ⟨nj, hnj⟩ : ∃ nj, nj = nt j := ⟨_, rfl⟩
              have hnc := hns j hjl
              simp only [] at hnc
              rw [← hnj] at hnc
              obtain ⟨ntx, npr, nfl, nns, nln, nco, nle, nlt, nsg⟩ := nj
              have m0 : wi.cell? ⟨nb, noff + j * 9, none⟩ = some (.string ntx) := (HBj.out.cell (p := ⟨nb, noff + j * 9, none⟩) hnbl).trans ((hnc 0 (by decide)).trans rfl)
              have m1 : wi.cell? ⟨nb, noff + j * 9 + 1, none⟩ = some (.bool npr) := (HBj.out.cell (p := ⟨nb, noff + j * 9 + 1, none⟩) hnbl).trans ((hnc 1 (by decide)).trans rfl)
              have m2 : wi.cell? ⟨nb, noff + j * 9 + 2, none⟩ = some (.string nfl) := (HBj.out.cell (p := ⟨nb, noff + j * 9 + 2, none⟩) hnbl).trans ((hnc 2 (by decide)).trans rfl)
              have m3 : wi.cell? ⟨nb, noff + j * 9 + 3, none⟩ = some (.string nns) := (HBj.out.cell (p := ⟨nb, noff + j * 9 + 3, none⟩) hnbl).trans ((hnc 3 (by decide)).trans rfl)
              have m4 : wi.cell? ⟨nb, noff + j * 9 + 4, none⟩ = some (.int .i64 nln) := (HBj.out.cell (p := ⟨nb, noff + j * 9 + 4, none⟩) hnbl).trans ((hnc 4 (by decide)).trans rfl)
              have m5 : wi.cell? ⟨nb, noff + j * 9 + 5, none⟩ = some (.int .i64 nco) := (HBj.out.cell (p := ⟨nb, noff + j * 9 + 5, none⟩) hnbl).trans ((hnc 5 (by decide)).trans rfl)
              have m6 : wi.cell? ⟨nb, noff + j * 9 + 6, none⟩ = some (.int .i64 nle) := (HBj.out.cell (p := ⟨nb, noff + j * 9 + 6, none⟩) hnbl).trans ((hnc 6 (by decide)).trans rfl)
              have m7 : wi.cell? ⟨nb, noff + j * 9 + 7, none⟩ = some (.string nlt) := (HBj.out.cell (p := ⟨nb, noff + j * 9 + 7, none⟩) hnbl).trans ((hnc 7 (by decide)).trans rfl)
              have m8 : wi.cell? ⟨nb, noff + j * 9 + 8, none⟩ = some (.string nsg) := (HBj.out.cell (p := ⟨nb, noff + j * 9 + 8, none⟩) hnbl).trans ((hnc 8 (by decide)).trans rfl)
              clear hns hnc
              have HNJ := Lib.hid hnj
              have p0 : (0 : Int) ≤ (j : Int) := by omega
              have p1 : (j : Int) < (nn : Int) := by omega
              clear hnj
              go_wp2_with (first
                | (refine wpList_put rfl 45 (.tmp 44) (.tmp 43) rfl Wm.heap.size (j * 9) 9 [.string ntx, .bool npr, .string nfl, .string nns, .int .i64 nln, .int .i64 nco, .int .i64 nle, .string nlt, .string nsg] rfl rfl ?it rfl size45 ?i1 ?_)
                | fail)
              case it => exact HFj.out.there hjl
              case i1 => simp [Value.oneCell']
              go_roundw
              case rel =>
                exact ⟨j + 1, by go_num, by omega, Lib.hid (HFj.out.set hjl (by rw [← HNJ.out]; rfl) rfl), Lib.hid (Go.Proofs.Ytmjfdhgfpgeboad.Rws.below_setCells _ (Nat.le_refl _) _ _ _ HBj.out)⟩
              case measure => simp [intOf]; omega
            · obtain rfl : nn = j := by omega
              have y0 : decide ((nn : Int) < nn) = false := decide_eq_false (by omega)
              go_upto_region 15 with fail
              have f11 : wi.frozen? ⟨wo.heap.size, 11, none⟩ = false := Own.frozen HOi.out 11
              go_upto_region 16 with fail
              generalize hW2 : wi.setCell _ _ = W2
              have ho2 : Own W2 wo.heap.size 29 #[.string id, .string pl, .string tx, .bool pr, .string fl, .string ns, .int .i64 ln, .int .i64 co, .int .i64 le, .string lt, .string sg, .slice (some ⟨Wm.heap.size, 0, none⟩) nn nn] := by rw [← hW2]; exact Own.set HOi.out 11 _
              have HF2 : Hid (Filled W2 w.heap.size 29 12 n k (fun i => (ms' (M i) (NA i) (NC i)).cells)) := Lib.hid (by rw [← hW2]; exact ((HF.out.below HBm.out).own fun cs o => o.below HBj.out o.lt).own fun cs o => o.far (p := ⟨wo.heap.size, 11, none⟩) (by have := HF.out.lt; show w.heap.size ≠ wo.heap.size; omega) _)
              have HC2 : Hid (∀ i, i < k + 1 → CN W2 (M i) (if i = k then (some ⟨Wm.heap.size, 0, none⟩) else NA i) (if i = k then nn else NC i)) := Lib.hid (by
                intro i hi
                have hcn : CN wi (M i) (if i = k then (some ⟨Wm.heap.size, 0, none⟩) else NA i) (if i = k then nn else NC i) := (by
                  by_cases h : i = k
                  · subst h
                    simp only [if_true]
                    rw [← HM.out]
                    exact ⟨Nat.le_refl _, by (unfold maxLen; omega), fun h => (by cases h), fun _ => ⟨_, rfl, HFj.out⟩⟩
                  · simp only [if_neg h]
                    exact ((HW.out i (by omega)).keep fun g cs o => o.below HBm.out o.lt).keep fun g cs o => o.below HBj.out o.lt)
                rw [← hW2]
                exact hcn.keep fun g cs o => o.far (p := ⟨wo.heap.size, 11, none⟩) (own_ne o HOi.out (by decide)) _)
              have HB2 : Hid (Below w.heap.size w W2) := Lib.hid (by rw [← hW2]; exact (HB.out.trans ((HBm.out.trans (HBj.out.mono HBm.out.size)).mono HB.out.size)).setCell (by have := HF.out.lt; show w.heap.size ≤ wo.heap.size; omega) _)
              have l0 : W2.cell? ⟨wo.heap.size, 0, none⟩ = some (.string id) := (ho2.cell 0).trans rfl
              have l1 : W2.cell? ⟨wo.heap.size, 1, none⟩ = some (.string pl) := (ho2.cell 1).trans rfl
              have l2 : W2.cell? ⟨wo.heap.size, 2, none⟩ = some (.string tx) := (ho2.cell 2).trans rfl
              have l3 : W2.cell? ⟨wo.heap.size, 3, none⟩ = some (.bool pr) := (ho2.cell 3).trans rfl
              have l4 : W2.cell? ⟨wo.heap.size, 4, none⟩ = some (.string fl) := (ho2.cell 4).trans rfl
              have l5 : W2.cell? ⟨wo.heap.size, 5, none⟩ = some (.string ns) := (ho2.cell 5).trans rfl
              have l6 : W2.cell? ⟨wo.heap.size, 6, none⟩ = some (.int .i64 ln) := (ho2.cell 6).trans rfl
              have l7 : W2.cell? ⟨wo.heap.size, 7, none⟩ = some (.int .i64 co) := (ho2.cell 7).trans rfl
              have l8 : W2.cell? ⟨wo.heap.size, 8, none⟩ = some (.int .i64 le) := (ho2.cell 8).trans rfl
              have l9 : W2.cell? ⟨wo.heap.size, 9, none⟩ = some (.string lt) := (ho2.cell 9).trans rfl
              have l10 : W2.cell? ⟨wo.heap.size, 10, none⟩ = some (.string sg) := (ho2.cell 10).trans rfl
              have l11 : W2.cell? ⟨wo.heap.size, 11, none⟩ = some (.slice (some ⟨Wm.heap.size, 0, none⟩) nn nn) := (ho2.cell 11).trans rfl
              have HO2 := Lib.hid ho2
              clear hW2 ho2
              go_wp2_with (first
                | (refine wpList_put rfl 29 (.tmp 50) (.tmp 49) rfl w.heap.size (k * 12) 12 [.string id, .string pl, .string tx, .bool pr, .string fl, .string ns, .int .i64 ln, .int .i64 co, .int .i64 le, .string lt, .string sg, .slice (some ⟨Wm.heap.size, 0, none⟩) nn nn] rfl rfl ?htb rfl size29 ?h1b ?_)
                | fail)
              case htb => exact HF2.out.there hlt
              case h1b => simp [Value.oneCell']
              go_roundw
              case rel =>
                refine ⟨k + 1, fun i => if i = k then (some ⟨Wm.heap.size, 0, none⟩) else NA i, fun i => if i = k then nn else NC i, by go_num, by omega, Lib.hid (Filled.set (F := fun i => (ms' (M i) (if i = k then (some ⟨Wm.heap.size, 0, none⟩) else NA i) (if i = k then nn else NC i)).cells) (HF2.out.congr fun i hi => by simp only [if_neg (show i ≠ k by omega)]) hlt ?_ rfl), Lib.hid fun i hi => (HC2.out i hi).keep fun g cs o => ?_, Lib.hid (Go.Proofs.Ytmjfdhgfpgeboad.Rws.below_setCells _ (Nat.le_refl _) _ _ _ HB2.out)⟩
                · simp only [if_true]
                  rw [← HM.out]
                  rfl
                · obtain ⟨cs', o', _⟩ := HF2.out
                  exact Own.farCells (own_ne o o' (by decide)) _ _ _ o
              case measure => simp [intOf]; omega
      · obtain rfl : n = k := by omega
        have z0 : decide ((n : Int) < n) = false := decide_eq_false (by omega)
        go_wp2_with fail
        go_ret
        exact ⟨_, n, fun i => ms' (M i) (NA i) (NC i), rfl, ⟨Filled.rd (by decide) (fun i hi => rfl) HF.out, fun i hi => (HW.out i hi).wf (by obtain ⟨h1, h2, h3, h4, _, _, _, _, h5⟩ := HS.out.2 i hi; exact ⟨h1, h2, h3, h4, h5⟩)⟩, fun i hi => ⟨rfl, rfl⟩, fun h => (by cases h), HB.out⟩
end Go.Proofs.Ytmjfdhgfpgeboad.Cl
