/-
  Contract for the laws on symbol links: zzRoots finds every chain's end, or tells of a cycle. Conditions: sizes, links in range.
-/
import Derived.Test.YtbppncnhdhogbaaDoorFb
import Derived.Test.YtbppncnhdhogbaaDoorRq
namespace Go.Proofs.YtbppncnhdhogbaaDoor.Fc
open Go.RowKit Go.PlainAid Mem Rws Rt Fa Pl Fb Rq
set_option linter.unusedVariables false
theorem Cells.seti {w : World} {g k : Nat} {t : TypeId} {kd : IntKind} {Q : Nat → Int} (h : Cells w g t k (fun j => .int kd (Q j))) (o : Nat) (x : Int) : Cells (w.setCell ⟨g, o, none⟩ (.int kd x)) g t k (fun j => .int kd (up Q o x j)) :=
  (h.set o [.int kd x]).congr fun l hl => by
    unfold over up
    by_cases e : l = o
    · subst e
      rw [if_pos ⟨by omega, by simp⟩, if_pos rfl]
      simp
    · rw [if_neg (by simp; omega), if_neg e]
theorem Cells.fari {w : World} {g k : Nat} {t : TypeId} {F : Nat → Value} (h : Cells w g t k F) {b : Nat} (hb : g ≠ b) (o : Nat) (x : Value) : Cells (w.setCell ⟨b, o, none⟩ x) g t k F := h.far hb o [x]
theorem Cells.eq {w : World} {g k : Nat} {t : TypeId} {F G : Nat → Value} (h : Cells w g t k F) (e : F = G) : Cells w g t k G := e ▸ h
def ints (l : List Nat) : List Int := l.map fun x : Nat => (x : Int)
theorem ints_len (l : List Nat) : (ints l).length = l.length := by simp [ints]
def natsV (l : List Nat) : List Value := intsV (ints l)
theorem natsV_snoc (l : List Nat) (x : Nat) : natsV (l ++ [x]) = intsV (ints l ++ [(x : Int)]) := by unfold natsV ints; rw [List.map_append]; rfl
/-- The memory of zzRoots: answers, states, the path. -/
structure Rm (w : World) (n : Nat) (S Q : Nat → Int) (v : Value) (l : List Nat) (wr : World) : Prop where
  q : Cells wr w.heap.size 3 n (fun j => .int .i64 (Q j))
  s : Cells wr (w.heap.size + 1) 5 n (fun j => .int .u8 (S j))
  p : wr.ownsRow (w.heap.size + 2) 3 1 v l.length (natsV l)
  b : Below w.heap.size w wr
  z : w.heap.size + 2 ≤ wr.heap.size
theorem kept_far {w : World} {B : Nat} {v : Value} {n : Nat} {xs : List Value} (h : w.ownsRow B 3 1 v n xs) {b : Nat} (hb : b < B) (o : Nat) (x : Value) : (w.setCell ⟨b, o, none⟩ x).ownsRow B 3 1 v n xs := by
  refine h.kept (row := some b) ⟨rfl, rfl, rfl, by simp, fun k hk hne => ?_⟩ ?_
  · exact Below.heap_setCell w ⟨b, o, none⟩ x k (fun e => hne (by rw [e]))
  · cases hv : v.ownBlock with
    | none => exact .inl rfl
    | some k =>
      refine .inr fun e => ?_
      injection e with e
      have := (h.lt k hv).1
      omega
theorem Rm.setQ {w : World} {n : Nat} {S Q : Nat → Int} {v : Value} {l : List Nat} {wr : World} (h : Rm w n S Q v l wr) (o : Nat) (x : Int) : Rm w n S (up Q o x) v l (wr.setCell ⟨w.heap.size, o, none⟩ (.int .i64 x)) :=
  ⟨Cells.seti h.q o x, Cells.fari h.s (by omega) o _, kept_far h.p (by omega) o _, h.b.setCell (Nat.le_refl _) _, by simpa using h.z⟩
theorem Rm.setS {w : World} {n : Nat} {S Q : Nat → Int} {v : Value} {l : List Nat} {wr : World} (h : Rm w n S Q v l wr) (o : Nat) (x : Int) : Rm w n (up S o x) Q v l (wr.setCell ⟨w.heap.size + 1, o, none⟩ (.int .u8 x)) :=
  ⟨Cells.fari h.q (by omega) o _, Cells.seti h.s o x, kept_far h.p (by omega) o _, h.b.setCell (Nat.le_succ _) _, by simpa using h.z⟩
theorem Cells.grown {w w' : World} {g k : Nat} {t : TypeId} {F : Nat → Value} {row : Option Nat} (h : Cells w g t k F) (hg : w.grownBy w' row) (hr : some g ≠ row) : Cells w' g t k F := by
  have hl := h.lt
  obtain ⟨cs, ho, hs, hc⟩ := h
  exact ⟨cs, (hg.block g hl hr).trans ho, hs, hc⟩
theorem Rm.push {w : World} {n : Nat} {S Q : Nat → Int} {v v' : Value} {l : List Nat} {wr w' : World} (h : Rm w n S Q v l wr) (x : Nat) (ho : w'.ownsRow (w.heap.size + 2) 3 1 v' (l.length + 1) (intsV (ints l ++ [(x : Int)]))) (hg : wr.grownBy w' v.ownBlock) : Rm w n S Q v' (l ++ [x]) w' := by
  have hne : ∀ g, g < w.heap.size + 2 → some g ≠ v.ownBlock := fun g hgl e => by
    have := (h.p.lt g e.symm).1
    omega
  refine ⟨Cells.grown h.q hg (hne _ (by omega)), Cells.grown h.s hg (hne _ (by omega)), by rw [natsV_snoc, List.length_append]; exact ho, ?_, Nat.le_trans h.z hg.size⟩
  exact h.b.grown hg h.b.size fun k hk => by have := (h.p.lt k hk).1; omega
/-- The path emptied: path[:0]. -/
theorem Rm.cut {w : World} {n : Nat} {S Q : Nat → Int} {a : Option Addr} {m c : Nat} {l : List Nat} {wr : World} (h : Rm w n S Q (.slice a m c) l wr) : Rm w n S Q (.slice a 0 c) [] wr := by
  refine ⟨h.q, h.s, ⟨by simp [natsV, intsV, ints], ?_⟩, h.b, h.z⟩
  rcases h.p.2 with ⟨e, h0⟩ | ⟨g, cap, cur, e, hb, hg, hn, hm, hs, ht⟩
  · injection e with e1 e2 e3
    subst e1; subst e3
    exact .inl ⟨rfl, rfl⟩
  · injection e with e1 e2 e3
    subst e1; subst e3
    exact .inr ⟨g, c, cur, rfl, hb, hg, Nat.zero_le _, hm, hs, by simp [natsV, intsV, ints]⟩
theorem Rm.form {w : World} {n : Nat} {S Q : Nat → Int} {v : Value} {l : List Nat} {wr : World} (h : Rm w n S Q v l wr) : ∃ A c, v = .slice A l.length c ∧ l.length ≤ c := by
  rcases h.p.2 with ⟨e, h0⟩ | ⟨g, cap, cur, e, hb, hg, hn, _⟩
  · exact ⟨none, 0, by rw [e, h0], by omega⟩
  · exact ⟨_, _, e, hn⟩
theorem Rm.at {w : World} {n : Nat} {S Q : Nat → Int} {A : Option Addr} {m c : Nat} {l : List Nat} {wr : World} (h : Rm w n S Q (.slice A m c) l wr) (hl : m = l.length) (k : Nat) (hk : k < l.length) : ∃ g, A = some ⟨g, 0, none⟩ ∧ w.heap.size + 2 ≤ g ∧ wr.cell? ⟨g, k, none⟩ = some (.int .i64 (l[k] : Nat)) := by
  subst hl
  obtain ⟨g, cap, hv, hb, _⟩ := h.p.form (by omega)
  have hA : A = some ⟨g, 0, none⟩ := by injection hv
  subst hA
  refine ⟨g, rfl, (h.p.lt g rfl).1, ?_⟩
  rw [h.p.cellAt k (by omega)]
  unfold natsV intsV ints
  rw [List.map_map, List.getElem?_map, List.getElem?_eq_getElem hk]
  rfl
/-- What zzRoots answers. -/
def RootsOf (n : Nat) (T : Nat → Int) (w : World) (e : Ending) (w' : World) : Prop :=
  Below w.heap.size w w' ∧ ((e = .returned (.tuple #[.slice none 0 0, .bool false]) ∧ ∃ i, i < n ∧ ¬ ∃ d r, Ch T d i r) ∨
    ∃ (g : Nat) (R : Nat → Nat), e = .returned (.tuple #[.slice (some ⟨g, 0, none⟩) n n, .bool true]) ∧ ChE n T R ∧ w.heap.size ≤ g ∧ g < w'.heap.size ∧ ∀ j, j < n → w'.cell? ⟨g, j, none⟩ = some (.int .i64 (R j)))
theorem info5 : (Tryd.prog.info? 5).map (fun i => (i.zero, i.size, i.bytes)) = some (some (.int .u8 0), 1, 1) := by kernel_rfl
theorem made_cells (w : World) (t : TypeId) (kd : IntKind) (n : Nat) : Cells (w.alloc (.cells (madeCells (Value.int kd 0).cells (n * 1)) t)) w.heap.size t n (fun _ => .int kd 0) :=
  ⟨_, Own.new _ _ _, by simp [size_madeCells], fun l hl => by
    rw [made_at _ _ _ (by omega)]
    show some ((#[Value.int kd 0] : Array Value)[l % 1]!) = _
    rw [Nat.mod_one]
    rfl⟩
theorem made_rm (w : World) (n : Nat) (hn : n ≤ 4096) : Rm w n (fun _ => 0) (fun _ => 0) (.slice (some ⟨w.heap.size + 2, 0, none⟩) 0 n) [] (((w.alloc (.cells (madeCells (Value.int .i64 0).cells (n * 1)) 3)).alloc (.cells (madeCells (Value.int .u8 0).cells (n * 1)) 5)).alloc (.cells (madeCells (Value.int .i64 0).cells (n * 1)) 3)) := by
  refine ⟨((made_cells w 3 .i64 n).alloc _).alloc _, ?_, ?_, by go_grown, by simp⟩
  · have := (made_cells (w.alloc (.cells (madeCells (Value.int .i64 0).cells (n * 1)) 3)) 5 .u8 n).alloc (.cells (madeCells (Value.int .i64 0).cells (n * 1)) 3)
    rw [World.size_alloc] at this
    exact this
  · have := World.ownsRow_made (base := w.heap.size + 2) (e := 3) (size := 1) ((w.alloc (.cells (madeCells (Value.int .i64 0).cells (n * 1)) 3)).alloc (.cells (madeCells (Value.int .u8 0).cells (n * 1)) 5)) (madeCells (Value.int .i64 0).cells (n * 1)) n (by simp) (by unfold maxLen; omega) (size_madeCells _ _)
    simp only [World.size_alloc] at this
    exact this
def lenOf (v : Value) : Nat := match v with
  | .slice _ k _ => k
  | _ => 0
/-- The path stands, its answer is known. -/
structure Fin (w : World) (n : Nat) (T S Q : Nat → Int) (k : Nat) (v : Value) (l : List Nat) (r : Nat) (wr : World) : Prop where
  m : Rm w n (fl S l 1) Q v l wr
  a : An n T S k l r
  d : Dn n T S Q k
set_option maxRecDepth 100000 in
set_option maxHeartbeats 16000000 in
theorem roots10 (A : Option Addr) (n c : Nat) (T : Nat → Int) (w : World) (hA : Rd w w.heap.size 1 A n (fun j => .int .i64 (T j))) (hT : ∀ j, j < n → -1 ≤ T j ∧ T j < (n : Int)) (hn : n ≤ 4096) :
    Calls Tryd.prog 10 #[.slice A n c] w (RootsOf n T w) := by
  have hmk := run_mk (P := Tryd.prog) 30 3 _ _ _ Tryd.underlying30 info3 n n (Nat.le_refl _) (by omega) (by omega)
  have hmk5 := run_mk (P := Tryd.prog) 62 5 _ _ _ Tryd.underlying62 info5 n n (Nat.le_refl _) (by omega) (by omega)
  have hmk0 : ∀ W, (Instr.makeSlice 30 (.int .i64 0) (.int .i64 (n : Int))).run Tryd.prog W = .ok (.slice (some ⟨W.heap.size, 0, none⟩) 0 n) (W.alloc (.cells (madeCells (Value.int .i64 0).cells (n * 1)) 3)) := run_mk (P := Tryd.prog) 30 3 _ _ _ Tryd.underlying30 info3 0 n (Nat.zero_le _) (by omega) (by omega)
  have hm0 := made_rm w n hn
  simp only [Nat.mul_one] at hm0
  have HM := Lib.hid hm0
  clear hm0
  have HA := Lib.hid hA
  have HT := Lib.hid hT
  clear hA hT
  go_enter Tryd.func10, Tryd.ntmps10
  go_wp2_with fail
  go_loopw [7, 8] (fun v i wr => ∃ (k : Nat) (S Q : Nat → Int) (l : List Nat), k ≤ n ∧ i = .int .i64 k ∧ Hid (Rm w n S Q v l wr ∧ Dn n T S Q k)) (fun _ i _ => n - (intOf i).toNat)
  case atStart => exact ⟨0, _, _, [], by omega, rfl, Lib.hid ⟨HM.out, Dn.start n T _⟩⟩
  case round =>
    clear hmk hmk5 hmk0 HM
    obtain ⟨k, S, Q, l0, hk, rfl, HR⟩ := hrel
    obtain ⟨wo, rfl⟩ : ∃ wo : World, wo = wr := ⟨_, rfl⟩
    obtain ⟨A0, c0, rfl, hlc0⟩ := HR.out.1.form
    by_cases hlt : k < n
    · have hsk : wo.cell? ⟨w.heap.size + 1, k, none⟩ = some (.int .u8 (S k)) := HR.out.1.s.cell hlt
      by_cases h2 : S k = 2
      · have t2 : (S k == 2) = true := beq_iff_eq.2 h2
        have HN : Hid (Rm w n S Q (.slice A0 l0.length c0) l0 wo ∧ Dn n T S Q (k + 1)) := Lib.hid ⟨HR.out.1, HR.out.2.skip h2⟩
        clear h2
        go_wp2_with fail
        go_roundw
        case rel => exact ⟨k + 1, S, Q, l0, by omega, by go_num, HN⟩
        case measure => simp [intOf]; omega
      · have t2 : (S k == 2) = false := beq_eq_false_iff_ne.2 h2
        have HK := Lib.hid h2
        have HN : Hid (Rm w n S Q (.slice A0 0 c0) [] wo ∧ Pt n T S S k [] k) := Lib.hid ⟨HR.out.1.cut, Pt.start hlt⟩
        have HD := Lib.hid HR.out.2
        clear h2 HR
        go_wp2_with fail
        clear hsk t2 hlc0
        go_loopw [7, 9, 10] (fun v x r wr => ∃ (l : List Nat) (y : Nat) (S1 : Nat → Int), x = .int .i64 y ∧ r = .int .i64 (-1) ∧ Hid (Rm w n S1 Q v l wr ∧ Pt n T S S1 k l y)) (fun v _ _ _ => n - lenOf v)
        case atStart => exact ⟨[], k, S, rfl, rfl, HN⟩
        case round =>
          clear HN
          obtain ⟨l, y, S1, rfl, rfl, HP⟩ := hrel
          obtain ⟨wi, rfl⟩ : ∃ wi : World, wi = wr := ⟨_, rfl⟩
          obtain ⟨A1, c1, rfl, hlc1⟩ := HP.out.1.form
          have hy := HP.out.2.lt
          have hS : wi.cell? ⟨w.heap.size + 1, y, none⟩ = some (.int .u8 (S1 y)) := HP.out.1.s.cell hy
          have fS := HP.out.1.s.frozen y
          obtain ⟨b, off, rfl, hbb, hc⟩ := HA.out (by omega)
          have hTy : wi.cell? ⟨b, off + y, none⟩ = some (.int .i64 (T y)) := (HP.out.1.b.cell (p := ⟨b, off + y, none⟩) hbb).trans (hc y (by omega))
          clear hc
          by_cases h2 : S1 y = 2
          · have t2 : (S1 y == 2) = true := beq_iff_eq.2 h2
            obtain ⟨rp, hq, han⟩ := HP.out.2.known HD.out h2 HK.out
            have hQ : wi.cell? ⟨w.heap.size, y, none⟩ = some (.int .i64 (rp : Int)) := by rw [← hq]; exact HP.out.1.q.cell hy
            have HF : Hid (Fin w n T S Q k (.slice A1 l.length c1) l rp wi) := Lib.hid ⟨HP.out.2.st ▸ HP.out.1, han, HD.out⟩
            have hlpn := HP.out.2.le
            clear h2 hq han HP
            obtain ⟨lp, rfl⟩ : ∃ lp : List Nat, lp = l := ⟨_, rfl⟩
            obtain ⟨Ap, rfl⟩ : ∃ Ap : Option Addr, Ap = A1 := ⟨_, rfl⟩
            obtain ⟨cp, rfl⟩ : ∃ cp : Nat, cp = c1 := ⟨_, rfl⟩
            go_wp2_with fail
            clear hS fS hTy hQ t2 hlc1
            go_loopw [11] (fun i wr => ∃ j : Nat, j ≤ lp.length ∧ i = .int .i64 j ∧ Hid (Rm w n (fl (fl S lp 1) (lp.take j) 2) (fl Q (lp.take j) rp) (.slice Ap lp.length cp) lp wr)) (fun i _ => lp.length - (intOf i).toNat)
            case atStart => exact ⟨0, by omega, rfl, Lib.hid (by rw [List.take_zero, fl_nil, fl_nil]; exact HF.out.m)⟩
            case round =>
              obtain ⟨j, hj, rfl, HJ⟩ := hrel
              obtain ⟨wj, rfl⟩ : ∃ wj : World, wj = wr := ⟨_, rfl⟩
              by_cases hjl : j < lp.length
              · obtain ⟨g, rfl, hg, hcell⟩ := HJ.out.at rfl j hjl
                have hpn := HF.out.a.inl lp[j] (List.getElem_mem hjl)
                have HJ2 : Hid (Rm w n (fl (fl S lp 1) (lp.take (j + 1)) 2) (fl Q (lp.take (j + 1)) rp) (.slice (some ⟨g, 0, none⟩) lp.length cp) lp ((wj.setCell ⟨w.heap.size, lp[j], none⟩ (.int .i64 (rp : Int))).setCell ⟨w.heap.size + 1, lp[j], none⟩ (.int .u8 2))) := Lib.hid (by
                  have := (HJ.out.setQ lp[j] rp).setS lp[j] 2
                  rw [fl_snoc, fl_snoc, ← List.take_succ_eq_append_getElem hjl] at this
                  exact this)
                have c1 := HJ.out.q.cell hpn
                have c2 := HJ.out.s.cell hpn
                have f1 := HJ.out.q.frozen lp[j]
                have f2 := HJ.out.s.frozen lp[j]
                have hne : g ≠ w.heap.size := by omega
                generalize hp : lp[j] = p at *
                have HPP := Lib.hid hp
                clear hp HJ
                go_wp2_with fail
                go_roundw
                case rel => exact ⟨j + 1, by omega, by go_num, HJ2⟩
                case measure => simp [intOf]; omega
              · obtain rfl : j = lp.length := by omega
                have HN : Hid (Rm w n (fl (fl S lp 1) lp 2) (fl Q lp rp) (.slice Ap lp.length cp) lp wj ∧ Dn n T (fl (fl S lp 1) lp 2) (fl Q lp rp) (k + 1)) := Lib.hid ⟨by
                  have := HJ.out
                  rw [List.take_length] at this
                  exact this, HF.out.a.done HF.out.d⟩
                clear HJ
                go_wp2_with fail
                go_roundw
                case rel => exact ⟨k + 1, _, _, lp, by omega, by go_num, HN⟩
                case measure => simp [intOf]; omega
          · by_cases h1 : S1 y = 1
            · have t2 : (S1 y == 2) = false := beq_eq_false_iff_ne.2 h2
              have t1 : (S1 y == 1) = true := beq_iff_eq.2 h1
              have HZ : Hid (∃ i, i < n ∧ ¬ ∃ d r, Ch T d i r) := Lib.hid (HP.out.2.cyc HD.out h1)
              have HB := Lib.hid HP.out.1.b
              clear h1 h2 HP
              go_wp2_with fail
              go_ret2
              exact ⟨HB.out, .inl ⟨rfl, HZ.out⟩⟩
            · have t2 : (S1 y == 2) = false := beq_eq_false_iff_ne.2 h2
              have t1 : (S1 y == 1) = false := beq_eq_false_iff_ne.2 h1
              have h0 : S1 y = 0 := by
                have hst := HP.out.2.st
                rw [hst] at h1 h2 ⊢
                by_cases e : y ∈ l
                · exact absurd (fl_in e) h1
                · rw [fl_out e] at h1 h2 ⊢
                  rcases HD.out.st y hy with e | e
                  · exact e
                  · exact absurd e h2
              have hln := HP.out.2.len h0
              have H0 := Lib.hid h0
              have hll : (ints l).length + 1 ≤ 1048576 := by rw [ints_len]; omega
              have HR1 := Lib.hid (HP.out.1.setS y 1)
              have HO : Hid ((wi.setCell ⟨w.heap.size + 1, y, none⟩ (.int .u8 1)).ownsRow (w.heap.size + 2) 3 1 (.slice A1 l.length c1) (ints l).length (intsV (ints l))) := Lib.hid (by rw [ints_len]; exact HR1.out.p)
              have hbz : w.heap.size + 2 ≤ (wi.setCell ⟨w.heap.size + 1, y, none⟩ (.int .u8 1)).heap.size := HR1.out.z
              have hhs : (wi.setCell ⟨w.heap.size + 1, y, none⟩ (.int .u8 1)).heap.size = wi.heap.size := World.size_setCell _ _ _
              clear h0 h1 h2
              go_wp2_with (at_builtin; (refine pushI rfl _ _ rfl (w.heap.size + 2) _ _ (ints l) (y : Int) (by rfl) HO.out hbz wi.heap.size hhs (by rfl) hll ?_))
              intro v' w' ho' hg' _
              rw [ints_len] at ho'
              have HR2 := Lib.hid (HR1.out.push y ho' hg')
              clear ho' hg' HO HR1 hbz hhs hll t1 t2 hS fS
              obtain ⟨A2, c2, rfl, hlc2⟩ := HR2.out.form
              have hTy2 : w'.cell? ⟨b, off + y, none⟩ = some (.int .i64 (T y)) := by
                obtain ⟨b', off', e, hbb', hc⟩ := HA.out (by omega)
                obtain ⟨rfl, rfl⟩ : b = b' ∧ off = off' := by simpa using e
                exact (HR2.out.b.cell (p := ⟨b, off + y, none⟩) hbb').trans (hc y (by omega))
              clear hTy
              by_cases hneg : T y < 0
              · have HF : Hid (Fin w n T S Q k (.slice A2 (l ++ [y]).length c2) (l ++ [y]) y w') := Lib.hid ⟨by
                  have := HR2.out
                  rw [HP.out.2.st, fl_snoc] at this
                  exact this, HP.out.2.stop hneg, HD.out⟩
                obtain ⟨lp, hlp⟩ : ∃ lp : List Nat, lp = l ++ [y] := ⟨_, rfl⟩
                have hlen : l.length + 1 = lp.length := by rw [hlp]; simp
                rw [← hlp] at HF
                have HLL := Lib.hid hlen
                have hlpn : lp.length ≤ n := by omega
                clear hlp hlen HP HR2
                obtain ⟨Ap, rfl⟩ : ∃ Ap : Option Addr, Ap = A2 := ⟨_, rfl⟩
                obtain ⟨cp, rfl⟩ : ∃ cp : Nat, cp = c2 := ⟨_, rfl⟩
                obtain ⟨rp, rfl⟩ : ∃ rp : Nat, rp = y := ⟨_, rfl⟩
                simp only [List.length_append, List.length_singleton]
                rw [HLL.out]
                go_wp2_with fail
                clear hTy2 hneg
                go_loopw [11] (fun i wr => ∃ j : Nat, j ≤ lp.length ∧ i = .int .i64 j ∧ Hid (Rm w n (fl (fl S lp 1) (lp.take j) 2) (fl Q (lp.take j) rp) (.slice Ap lp.length cp) lp wr)) (fun i _ => lp.length - (intOf i).toNat)
                case atStart => exact ⟨0, by omega, rfl, Lib.hid (by rw [List.take_zero, fl_nil, fl_nil]; exact HF.out.m)⟩
                case round =>
                  obtain ⟨j, hj, rfl, HJ⟩ := hrel
                  obtain ⟨wj, rfl⟩ : ∃ wj : World, wj = wr := ⟨_, rfl⟩
                  by_cases hjl : j < lp.length
                  · obtain ⟨g, rfl, hg, hcell⟩ := HJ.out.at rfl j hjl
                    have hpn := HF.out.a.inl lp[j] (List.getElem_mem hjl)
                    have HJ2 : Hid (Rm w n (fl (fl S lp 1) (lp.take (j + 1)) 2) (fl Q (lp.take (j + 1)) rp) (.slice (some ⟨g, 0, none⟩) lp.length cp) lp ((wj.setCell ⟨w.heap.size, lp[j], none⟩ (.int .i64 (rp : Int))).setCell ⟨w.heap.size + 1, lp[j], none⟩ (.int .u8 2))) := Lib.hid (by
                      have := (HJ.out.setQ lp[j] rp).setS lp[j] 2
                      rw [fl_snoc, fl_snoc, ← List.take_succ_eq_append_getElem hjl] at this
                      exact this)
                    have c1 := HJ.out.q.cell hpn
                    have c2 := HJ.out.s.cell hpn
                    have f1 := HJ.out.q.frozen lp[j]
                    have f2 := HJ.out.s.frozen lp[j]
                    have hne : g ≠ w.heap.size := by omega
                    generalize hp : lp[j] = p at *
                    have HPP := Lib.hid hp
                    clear hp HJ
                    go_wp2_with fail
                    go_roundw
                    case rel => exact ⟨j + 1, by omega, by go_num, HJ2⟩
                    case measure => simp [intOf]; omega
                  · obtain rfl : j = lp.length := by omega
                    have HN : Hid (Rm w n (fl (fl S lp 1) lp 2) (fl Q lp rp) (.slice Ap lp.length cp) lp wj ∧ Dn n T (fl (fl S lp 1) lp 2) (fl Q lp rp) (k + 1)) := Lib.hid ⟨by
                      have := HJ.out
                      rw [List.take_length] at this
                      exact this, HF.out.a.done HF.out.d⟩
                    clear HJ
                    go_wp2_with fail
                    go_roundw
                    case rel => exact ⟨k + 1, _, _, lp, by omega, by go_num, HN⟩
                    case measure => simp [intOf]; omega
              · obtain ⟨hlo, hhi⟩ := HT.out y hy
                have hpos : 0 ≤ T y := by omega
                have H3 : Hid (Rm w n (up S1 y 1) Q (.slice A2 (l ++ [y]).length c2) (l ++ [y]) w' ∧ Pt n T S (up S1 y 1) k (l ++ [y]) (T y).toNat) := Lib.hid ⟨HR2.out, HP.out.2.next H0.out hpos hhi⟩
                have hle := H3.out.2.le
                clear HP HR2
                go_wp2_with fail
                go_roundw
                case rel => exact ⟨l ++ [y], (T y).toNat, _, by congr 1; omega, rfl, H3⟩
                case measure => simp [lenOf] at hle ⊢; omega
    · obtain rfl : k = n := by omega
      obtain ⟨R, hR, hq⟩ := HR.out.2.ends
      have HQ := Lib.hid hq
      clear hq
      go_wp2_with fail
      go_ret2
      exact ⟨HR.out.1.b, .inr ⟨w.heap.size, R, rfl, hR, Nat.le_refl _, HR.out.1.q.lt, fun j hj => by rw [HR.out.1.q.cell hj, HQ.out j hj]⟩⟩
end Go.Proofs.YtbppncnhdhogbaaDoor.Fc
