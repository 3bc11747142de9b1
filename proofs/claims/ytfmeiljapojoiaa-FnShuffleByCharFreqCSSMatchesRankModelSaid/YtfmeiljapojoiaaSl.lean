/-
  Proved: ShuffleByCharFreq lays the characters in the order of their sorted entries. Conditions: those that each theorem names as its hypotheses, and
  no others.
-/
import Derived.Test.YtfmeiljapojoiaaSk
import Derived.WalkLawsBesides
import Derived.Laws.Rows
import Derived.Deep.WholeRow
import Derived.Deep.CutBlock
namespace Go.Proofs.Ytfmeiljapojoiaa.Sl
open Go.RowKit Mem Rws Sa Sc Sj
set_option linter.unusedVariables false
set_option linter.unusedSimpArgs false
/-- The row behind k stores. -/
def dkF (tl : ByteArray) (z : Nat → Int) (k : Nat) : Array El := Array.ofFn (n := 64) fun j => if j.val < k then ⟨tl.extract j.val (j.val + 1), z j.val, (j.val : Int)⟩ else ⟨⟨#[]⟩, 0, 0⟩
theorem dkF_size (tl : ByteArray) (z : Nat → Int) (k : Nat) : (dkF tl z k).size = 64 := by simp [dkF]
theorem dkF_at (tl : ByteArray) (z : Nat → Int) (k j : Nat) (hj : j < 64) : (dkF tl z k)[j]! = if j < k then ⟨tl.extract j (j + 1), z j, (j : Int)⟩ else ⟨⟨#[]⟩, 0, 0⟩ := by
  unfold dkF
  rw [getElem!_pos _ j (by simpa using hj), Array.getElem_ofFn]
abbrev Z34 : Value := .agg #[.string ⟨#[]⟩, .int .i32 0, .int .u8 0]
theorem info34 : (Try.prog.info? 34).map (fun i => (i.zero, i.size, i.bytes)) = some (some Z34, 3, 24) := by kernel_rfl
/-- The row as it is made. -/
theorem made_row (W : World) (b : Nat) (tl : ByteArray) (z : Nat → Int) (h : Own W b 34 (madeCells #[.string ⟨#[]⟩, .int .i32 0, .int .u8 0] 192)) : Rw b (dkF tl z 0) W := by
  refine ⟨⟨_, h, by simp [size_madeCells], fun l hl => ?_⟩, dkF_size tl z 0⟩
  obtain ⟨q, r, hr, rfl⟩ : ∃ q r, r < 3 ∧ l = q * 3 + r := ⟨l / 3, l % 3, Nat.mod_lt _ (by decide), by rw [Nat.mul_comm]; exact (Nat.div_add_mod l 3).symm⟩
  rw [made_at _ _ _ hl, Fe_at _ q r hr, dkF_at _ _ _ q (by omega), if_neg (by omega)]
  show some ((#[Value.string ⟨#[]⟩, .int .i32 0, .int .u8 0] : Array Value)[(q * 3 + r) % 3]!) = _
  rw [(divm (m := 3) (q := q) hr).2]
  match r, hr with
  | 0, _ => rfl
  | 1, _ => rfl
  | 2, _ => rfl
theorem stored {W : World} {b k : Nat} {tl : ByteArray} {z : Nat → Int} (h : Rw b (dkF tl z k) W) (hk : k < 64) : Rw b (dkF tl z (k + 1)) (W.setCells b (k * 3) [.string (tl.extract k (k + 1)), .int .i32 (z k), .int .u8 (k : Int)]) := by
  refine ⟨(h.cells.set (k * 3) _).congr fun l hl => ?_, dkF_size _ _ _⟩
  obtain ⟨q, r, hr, rfl⟩ : ∃ q r, r < 3 ∧ l = q * 3 + r := ⟨l / 3, l % 3, Nat.mod_lt _ (by decide), by rw [Nat.mul_comm]; exact (Nat.div_add_mod l 3).symm⟩
  rw [over_at (F := Fe (dkF tl z k)) (m := 3) (q := q) (i := k) (r := r) (vs := [.string (tl.extract k (k + 1)), .int .i32 (z k), .int .u8 (k : Int)]) rfl hr, Fe_at _ q r hr, Fe_at _ q r hr, dkF_at _ _ _ q (by omega), dkF_at _ _ _ q (by omega)]
  by_cases h1 : q = k
  · subst h1
    rw [if_pos rfl, if_pos (by omega)]
  · rw [if_neg h1]
    by_cases h2 : q < k
    · rw [if_pos h2, if_pos (by omega)]
    · rw [if_neg h2, if_neg (by omega)]
/-- Does the name start with what is no digit? -/
def nd (c : ByteArray) : Bool := Op.bytesLess c.toList [48] || (!Op.bytesLess c.toList [57] && !(c.toList == [57]))
def catT (d : Array El) : Nat → ByteArray
  | 0 => ⟨#[]⟩
  | k + 1 => catT d k ++ (d[k]!).ch
def catH (d : Array El) : Nat → ByteArray
  | 0 => ⟨#[]⟩
  | k + 1 => if nd (d[k]!).ch = true then catH d k ++ (d[k]!).ch else catH d k
/-- The boxes of the call: the receiver, the histogram, the result. -/
structure Bxs (w : World) (b2 b3 b4 : Nat) (hd tl : ByteArray) (zc : Array Value) (W : World) : Prop where
  o2 : Own W b2 24 #[.string hd, .string tl]
  o3 : Own W b3 27 zc
  o4 : Own W b4 24 #[.string ⟨#[]⟩, .string ⟨#[]⟩]
  be : Below w.heap.size w W
theorem Bxs.fr {w : World} {b2 b3 b4 g : Nat} {hd tl : ByteArray} {zc : Array Value} {W W' : World} (h : Bxs w b2 b3 b4 hd tl zc W) (f : Fr g W W') (h2 : b2 ≠ g) (h3 : b3 ≠ g) (h4 : b4 ≠ g) (hg : w.heap.size ≤ g) : Bxs w b2 b3 b4 hd tl zc W' :=
  ⟨(f.block _ h.o2.lt h2).trans h.o2, (f.block _ h.o3.lt h3).trans h.o3, (f.block _ h.o4.lt h4).trans h.o4, ⟨f.os.trans h.be.os, f.tape.trans h.be.tape, f.output.trans h.be.output, Nat.le_trans h.be.size f.size, fun b hb => (f.block b (Nat.lt_of_lt_of_le hb h.be.size) (by omega)).trans (h.be.block b hb)⟩⟩
theorem Bxs.bel {w : World} {b2 b3 b4 : Nat} {hd tl : ByteArray} {zc : Array Value} {W W' : World} (h : Bxs w b2 b3 b4 hd tl zc W) (hb : Below W.heap.size W W') : Bxs w b2 b3 b4 hd tl zc W' :=
  ⟨h.o2.below hb h.o2.lt, h.o3.below hb h.o3.lt, h.o4.below hb h.o4.lt, h.be.trans (hb.mono h.be.size)⟩
theorem setsFr (g o : Nat) (vs : List Value) (W : World) : Fr g W (W.setCells g o vs).drew := by
  have key : ∀ (vs : List Value) (o : Nat) (V : World), Fr g W V → Fr g W (V.setCells g o vs) := by
    intro vs
    induction vs with
    | nil => intro o V hV; exact hV
    | cons v r ih =>
      intro o V hV
      rw [World.setCells]
      exact ih _ _ ⟨hV.os, hV.tape, hV.output, by rw [World.size_setCell]; exact hV.size, fun b hb hne => (Below.heap_setCell V ⟨g, o, none⟩ v b hne).trans (hV.block b hb hne)⟩
  have h := key vs o W (Fr.refl g W)
  exact ⟨h.os, h.tape, h.output, h.size, h.block⟩
theorem el_size {tl : ByteArray} {z : Nat → Int} {d : Array El} (h : Sort.PermIn 0 64 (dkF tl z 63) d) : ∀ j, j < 64 → (d[j]!).ch.size ≤ 1 := by
  intro j hj
  refine Sort.permIn_all (dkF tl z 63) d 0 64 (fun x => x.ch.size ≤ 1) (by rw [dkF_size]; exact Nat.le_refl _) h (fun i _ hi => ?_) j (Nat.zero_le _) hj
  rw [dkF_at _ _ _ i hi]
  split
  · show (tl.extract i (i + 1)).size ≤ 1
    rw [Str.size_extract]; omega
  · exact Nat.zero_le _
theorem catT_size {d : Array El} (h : ∀ j, j < 64 → (d[j]!).ch.size ≤ 1) : ∀ k, k ≤ 64 → (catT d k).size ≤ k
  | 0, _ => Nat.le_refl _
  | k + 1, hk => by
    have a := catT_size h k (by omega)
    have b := h k (by omega)
    unfold catT
    rw [Str.size_append]; omega
theorem catH_size {d : Array El} (h : ∀ j, j < 64 → (d[j]!).ch.size ≤ 1) : ∀ k, k ≤ 64 → (catH d k).size ≤ k
  | 0, _ => Nat.le_refl _
  | k + 1, hk => by
    have a := catH_size h k (by omega)
    have b := h k (by omega)
    unfold catH
    split
    · rw [Str.size_append]; omega
    · omega
theorem set1Fr (g i : Nat) (v : Value) (W : World) : Fr g W (W.setCell ⟨g, i, none⟩ v) :=
  ⟨rfl, rfl, rfl, by rw [World.size_setCell]; exact Nat.le_refl _, fun b _ hne => Below.heap_setCell W ⟨g, i, none⟩ v b hne⟩
def Shf (tl : ByteArray) (z : Nat → Int) (w : World) (e : Ending) (w' : World) : Prop :=
  ∃ d, (Sort.PermIn 0 64 (dkF tl z 63) d ∧ Sort.SortedIn Sa.lt 0 64 d) ∧ e = .returned (.agg #[.string (catH d 64), .string (catT d 64)]) ∧ Below w.heap.size w w'
set_option maxRecDepth 100000 in
set_option maxHeartbeats 16000000 in
theorem shuf5 (hd tl : ByteArray) (zc : Array Value) (z : Nat → Int) (w : World) (hz : zc.size = 64) (hzc : ∀ j, j < 64 → zc[j]? = some (.int .i32 (z j))) (htl : tl.size = 63) :
    Calls Try.prog 5 #[.agg #[.string hd, .string tl], .agg zc] w (Shf tl z w) := by
  have hmk : ∀ w, (Instr.makeSlice 32 (.int .i64 64) (.int .i64 64)).run Try.prog w = .ok (.slice (some ⟨w.heap.size, 0, none⟩) 64 64) (w.alloc (.cells (madeCells #[.string ⟨#[]⟩, .int .i32 0, .int .u8 0] 192) 34)) := run_mkc (P := Try.prog) 32 34 Z34 #[.string ⟨#[]⟩, .int .i32 0, .int .u8 0] rfl 3 24 Try.underlying32 info34 64 64 (Nat.le_refl _) (by decide) (by decide)
  have HZC := Lib.hid hzc
  have HTL := Lib.hid htl
  clear hzc hz htl
  go_enter Try.func5, Try.ntmps5
  go_upto_region 1 with fail
  generalize hW : World.alloc _ _ = w1
  have hBx : Bxs w w.heap.size (w.heap.size + 1) (w.heap.size + 1 + 1) hd tl zc w1 := by
    rw [← hW]
    refine ⟨((Own.new w 24 _).alloc _).alloc _, ?_, ?_, ?_⟩
    · have := (Own.new (w.alloc (Obj.cells #[Value.string hd, Value.string tl] 24)) 27 zc).alloc (Obj.cells #[Value.string { data := #[] }, Value.string { data := #[] }] 24)
      rwa [World.size_alloc] at this
    · have := Own.new ((w.alloc (Obj.cells #[Value.string hd, Value.string tl] 24)).alloc (Obj.cells zc 27)) 24 #[Value.string { data := #[] }, Value.string { data := #[] }]
      rwa [World.size_alloc, World.size_alloc] at this
    · exact (((Below.refl _ _).alloc (Nat.le_refl _) _).alloc (by first | exact Nat.le_refl _ | (rw [World.size_alloc]; omega)) _).alloc (by rw [World.size_alloc, World.size_alloc]; omega) _
  obtain ⟨b2, b3, b4, e2, e3, e4⟩ : ∃ b2 b3 b4, b2 = w.heap.size ∧ b3 = w.heap.size + 1 ∧ b4 = w.heap.size + 1 + 1 := ⟨_, _, _, rfl, rfl, rfl⟩
  rw [← e4, ← e3, ← e2] at hBx ⊢
  have hw2 : w.heap.size ≤ b2 := by omega
  have hw4 : w.heap.size ≤ b4 := by omega
  have HBx := Lib.hid hBx
  have l2 := hBx.o2.lt
  have l3 := hBx.o3.lt
  have l4 := hBx.o4.lt
  clear hW hBx e2 e3 e4
  go_upto_block 0 with fail
  generalize hW : World.alloc _ _ = w2
  obtain ⟨b5, e5⟩ : ∃ b, b = w1.heap.size := ⟨_, rfl⟩
  have hR : Rw b5 (dkF tl z 0) w2 := by
    refine made_row w2 b5 tl z ?_
    rw [← hW, e5]
    exact Own.new _ _ _
  have hB : Bxs w b2 b3 b4 hd tl zc w2 := by
    refine HBx.out.bel ?_
    rw [← hW]
    exact (Below.refl _ _).alloc (Nat.le_refl _) _
  have hw5 : w.heap.size ≤ b5 := by have := HBx.out.be.size; omega
  rw [← e5]
  have HR := Lib.hid (And.intro hR hB)
  have n2 : b2 ≠ b5 := by omega
  have n3 : b3 ≠ b5 := by omega
  have n4 : b4 ≠ b5 := by omega
  clear hW hR hB e5 l2 l3 l4 HBx hmk
  go_cut [6] from 11 to 32 (fun v wx => Hid (Rw b5 (dkF tl z 63) wx ∧ Bxs w b2 b3 b4 hd tl zc wx))
  case first =>
    go_wp2_with fail
    go_loopw [6] (fun v6 wr => ∃ k : Nat, v6 = .int .i64 (k : Int) ∧ Hid (k ≤ 63 ∧ Rw b5 (dkF tl z k) wr ∧ Bxs w b2 b3 b4 hd tl zc wr)) (fun v6 _ => 70 - (intOf v6).toNat)
    case atStart => exact ⟨0, rfl, Lib.hid ⟨by decide, HR.out⟩⟩
    case round =>
      clear HR
      obtain ⟨k, rfl, HI⟩ := hrel
      obtain ⟨wo, rfl⟩ : ∃ x : World, x = wr := ⟨_, rfl⟩
      have hk9 := HI.out.1
      have y0 : (0 : Int) ≤ (k : Int) := by omega
      have y1 : (k : Int) ≤ 63 := by omega
      have c2 : wo.cell? ⟨b2, 1, none⟩ = some (.string tl) := (HI.out.2.2.o2.cell 1).trans rfl
      by_cases hlt : k < 63
      · have t1 : decide ((k : Int) < (tl.size : Int)) = true := decide_eq_true (by have := HTL.out; omega)
        have t1' : decide (k < tl.size) = true := decide_eq_true (by have := HTL.out; omega)
        have p1 : (k : Int) + 1 ≤ (tl.size : Int) := by have := HTL.out; omega
        have p2 : (k : Int) ≤ (k : Int) + 1 := by omega
        have p3 : (k : Int) < 64 := by omega
        have c3 : wo.cell? ⟨b3, k, none⟩ = some (.int .i32 (z k)) := (HI.out.2.2.o3.cell k).trans (HZC.out k (by omega))
        obtain ⟨x0, x1, x2, q0, q1, q2⟩ := three (HI.out.2.1.cells.there (k * 3) 3 (by omega))
        have f0 := HI.out.2.1.cells.frozen (k * 3)
        have f1 := HI.out.2.1.cells.frozen (k * 3 + 1)
        have f2 := HI.out.2.1.cells.frozen (k * 3 + 2)
        have HLT := Lib.hid hlt
        have HNX := Lib.hid (And.intro (stored HI.out.2.1 (show k < 64 by omega)) (HI.out.2.2.fr (setsFr b5 (k * 3) [.string (tl.extract k (k + 1)), .int .i32 (z k), .int .u8 (k : Int)] wo) n2 n3 n4 hw5))
        have w8 : IntKind.u8.wrap (k : Int) = (k : Int) := by simp [IntKind.wrap, IntKind.bits, IntKind.signed]; omega
        clear hlt HI hk9
        go_wp2_with fail
        go_region
        rw [chain3]
        go_wp2_with fail
        go_roundw
        case rel => exact ⟨k + 1, by go_num, Lib.hid ⟨HLT.out, ⟨HNX.out.1.cells.drew, HNX.out.1.sz⟩, HNX.out.2⟩⟩
        case measure => simp [intOf] <;> omega
      · have t1 : decide ((k : Int) < (tl.size : Int)) = false := decide_eq_false (by have := HTL.out; omega)
        have t1' : decide (k < tl.size) = false := decide_eq_false (by have := HTL.out; omega)
        have t1n : ¬ ((k : Int) < (tl.size : Int)) := by have := HTL.out; omega
        have hk : k = 63 := by omega
        subst hk
        go_wp2_with fail
        go_meet
        exact Lib.hid HI.out.2
  case rest =>
    have HC := Lib.hid hcut.out
    clear hcut HR HZC
    go_wp2_with fail
    refine (Sk.sort9 b5 (dkF tl z 63) _ HC.out.1).mono ?_
    rintro e w3 ⟨rfl, d, hp, hr, hf⟩
    have HD := Lib.hid hp
    have HS := Lib.hid (And.intro hr (HC.out.2.fr hf n2 n3 n4 hw5))
    have HEL := Lib.hid (el_size hp.1)
    have l2 := HS.out.2.o2.lt
    have l4 := HS.out.2.o4.lt
    have l5 := HS.out.1.lt
    clear hp hr hf HC
    go_upto_block 2 with fail
    generalize hW : World.alloc _ _ = w4
    obtain ⟨b7, e7⟩ : ∃ b, b = w3.heap.size := ⟨_, rfl⟩
    rw [← e7]
    have hb34 : Below w3.heap.size w3 w4 := by rw [← hW]; exact (Below.refl _ _).alloc (Nat.le_refl _) _
    have hO : Own w4 b7 24 #[.string ⟨#[]⟩, .string ⟨#[]⟩] := by rw [← hW, e7]; exact Own.new _ _ _
    have hw7 : w.heap.size ≤ b7 := by have := HS.out.2.be.size; omega
    have n47 : b4 ≠ b7 := by omega
    have n57 : b5 ≠ b7 := by omega
    have n27 : b2 ≠ b7 := by omega
    have n37 : b3 ≠ b7 := by have := HS.out.2.o3.lt; omega
    have HL0 := Lib.hid (And.intro (HS.out.1.below hb34) (And.intro (HS.out.2.bel hb34) hO))
    clear hW hb34 hO e7 l2 l4 l5 HS
    go_wp2_with fail
    go_loopw [39, 9] (fun v39 v9 wr => ∃ k : Nat, v39 = .int .i64 (k : Int) ∧ Hid (k ≤ 64 ∧ Rw b5 d wr ∧ Bxs w b2 b3 b4 hd tl zc wr ∧ Own wr b7 24 #[.string (catH d k), .string (catT d k)])) (fun v39 _ _ => 70 - (intOf v39).toNat)
    case atStart => exact ⟨0, rfl, Lib.hid ⟨by decide, HL0.out⟩⟩
    case round =>
      clear HL0
      obtain ⟨k, rfl, HI⟩ := hrel
      obtain ⟨wo, rfl⟩ : ∃ x : World, x = wr := ⟨_, rfl⟩
      have hk9 := HI.out.1
      have y0 : (0 : Int) ≤ (k : Int) := by omega
      have y1 : (k : Int) ≤ 64 := by omega
      by_cases hlt : k < 64
      · have t1 : decide ((k : Int) < 64) = true := decide_eq_true (by omega)
        have t1' : decide (k < 64) = true := decide_eq_true hlt
        have p3 : (k : Int) < 64 := by omega
        have a0 := (HI.out.2.1.cells.cell (l := k * 3) (by omega)).trans (congrArg some (Fe0 d k))
        have a1 := (HI.out.2.1.cells.cell (l := k * 3 + 1) (by omega)).trans (congrArg some (Fe1 d k))
        have a2 := (HI.out.2.1.cells.cell (l := k * 3 + 2) (by omega)).trans (congrArg some (Fe2 d k))
        have HCT := Lib.hid (show catT d (k + 1) = catT d k ++ (d[k]!).ch from rfl)
        have HCH := Lib.hid (show catH d (k + 1) = if nd (d[k]!).ch = true then catH d k ++ (d[k]!).ch else catH d k from rfl)
        have HTS := Lib.hid (catT_size HEL.out k hk9)
        have HHS := Lib.hid (catH_size HEL.out k hk9)
        have HLT := Lib.hid hlt
        have hc1 := HEL.out k hlt
        clear hlt
        generalize d[k]! = x at *
        obtain ⟨ch, ct, ix⟩ := x
        dsimp only at *
        go_upto_region 11 with fail
        generalize hW : World.alloc _ _ = w5
        obtain ⟨b9, e9⟩ : ∃ b, b = wo.heap.size := ⟨_, rfl⟩
        rw [← e9]
        have hb5' : Below wo.heap.size wo w5 := by rw [← hW]; exact (Below.refl _ _).alloc (Nat.le_refl _) _
        have hO9 : Own w5 b9 34 #[.string ch, .int .i32 ct, .int .u8 ix] := by rw [← hW, e9]; exact Own.new _ _ _
        have l7 := HI.out.2.2.2.lt
        have n79 : b7 ≠ b9 := by omega
        have HN := Lib.hid (And.intro (HI.out.2.1.below hb5') (And.intro (HI.out.2.2.1.bel hb5') (HI.out.2.2.2.below hb5' l7)))
        have i0 : w5.cell? ⟨b9, 0, none⟩ = some (.string ch) := (hO9.cell 0).trans rfl
        have h70 : w5.cell? ⟨b7, 0, none⟩ = some (.string (catH d k)) := (HN.out.2.2.cell 0).trans rfl
        have h71 : w5.cell? ⟨b7, 1, none⟩ = some (.string (catT d k)) := (HN.out.2.2.cell 1).trans rfl
        have f70 := HN.out.2.2.frozen 0
        have f71 := HN.out.2.2.frozen 1
        have HND := Lib.hid (show nd ch = (Op.bytesLess ch.toList [48] || (!Op.bytesLess ch.toList [57] && !(ch.toList == [57]))) from rfl)
        clear hW hb5' hO9 a0 a1 a2 l7 e9
        have z1 : (catT d k).size + ch.size ≤ 9223372036854775807 := by have := HTS.out; omega
        have z2 : (catH d k).size + ch.size ≤ 9223372036854775807 := by have := HHS.out; omega
        cases s1 : Op.bytesLess ch.toList [48]
        · cases s2 : Op.bytesLess ch.toList [57]
          · cases s3 : (ch.toList == [57])
            · have HNV := Lib.hid (show nd ch = true by rw [HND.out, s1, s2, s3]; rfl)
              clear HND
              go_wp2_with fail
              go_roundw
              case rel =>
                have hh : catH d (k + 1) = catH d k ++ ch := by rw [HCH.out, if_pos HNV.out]
                exact ⟨k + 1, by go_num, Lib.hid ⟨HLT.out, ⟨(HN.out.1.cells.far n57 0 [.string (catH d k ++ ch)]).far n57 1 [.string (catT d k ++ ch)], HN.out.1.sz⟩, (HN.out.2.1.fr (set1Fr b7 0 _ _) n27 n37 n47 hw7).fr (set1Fr b7 1 _ _) n27 n37 n47 hw7, by rw [HCT.out, hh]; exact (HN.out.2.2.set 0 _).set 1 _⟩⟩
              case measure => simp [intOf] <;> omega
            · have HNV := Lib.hid (show nd ch = false by rw [HND.out, s1, s2, s3]; rfl)
              clear HND
              go_wp2_with fail
              go_roundw
              case rel =>
                have hh : catH d (k + 1) = catH d k := by rw [HCH.out, HNV.out, if_neg (by decide)]
                exact ⟨k + 1, by go_num, Lib.hid ⟨HLT.out, ⟨HN.out.1.cells.far n57 1 [.string (catT d k ++ ch)], HN.out.1.sz⟩, HN.out.2.1.fr (set1Fr b7 1 _ _) n27 n37 n47 hw7, by rw [HCT.out, hh]; exact HN.out.2.2.set 1 _⟩⟩
              case measure => simp [intOf] <;> omega
          · have HNV := Lib.hid (show nd ch = false by rw [HND.out, s1, s2]; rfl)
            clear HND
            go_wp2_with fail
            go_roundw
            case rel =>
              have hh : catH d (k + 1) = catH d k := by rw [HCH.out, HNV.out, if_neg (by decide)]
              exact ⟨k + 1, by go_num, Lib.hid ⟨HLT.out, ⟨HN.out.1.cells.far n57 1 [.string (catT d k ++ ch)], HN.out.1.sz⟩, HN.out.2.1.fr (set1Fr b7 1 _ _) n27 n37 n47 hw7, by rw [HCT.out, hh]; exact HN.out.2.2.set 1 _⟩⟩
            case measure => simp [intOf] <;> omega
        · have HNV := Lib.hid (show nd ch = true by rw [HND.out, s1]; rfl)
          clear HND
          go_wp2_with fail
          go_roundw
          case rel =>
            have hh : catH d (k + 1) = catH d k ++ ch := by rw [HCH.out, if_pos HNV.out]
            exact ⟨k + 1, by go_num, Lib.hid ⟨HLT.out, ⟨(HN.out.1.cells.far n57 0 [.string (catH d k ++ ch)]).far n57 1 [.string (catT d k ++ ch)], HN.out.1.sz⟩, (HN.out.2.1.fr (set1Fr b7 0 _ _) n27 n37 n47 hw7).fr (set1Fr b7 1 _ _) n27 n37 n47 hw7, by rw [HCT.out, hh]; exact (HN.out.2.2.set 0 _).set 1 _⟩⟩
          case measure => simp [intOf] <;> omega
      · have hk : k = 64 := by omega
        subst hk
        have h70 : wo.cell? ⟨b7, 0, none⟩ = some (.string (catH d 64)) := (HI.out.2.2.2.cell 0).trans rfl
        have h71 : wo.cell? ⟨b7, 1, none⟩ = some (.string (catT d 64)) := (HI.out.2.2.2.cell 1).trans rfl
        have q0 : wo.cell? ⟨b4, 0, none⟩ = some (.string ⟨#[]⟩) := (HI.out.2.2.1.o4.cell 0).trans rfl
        have q1 : wo.cell? ⟨b4, 1, none⟩ = some (.string ⟨#[]⟩) := (HI.out.2.2.1.o4.cell 1).trans rfl
        have g0 := HI.out.2.2.1.o4.frozen 0
        have g1 := HI.out.2.2.1.o4.frozen 1
        have HBE := Lib.hid HI.out.2.2.1.be
        clear HI
        go_wp2_with fail
        refine bodyPost_ret (v := .agg #[.string (catH d 64), .string (catT d 64)]) (by simp [results, Try.results5, go_sem, *]) rfl ?_
        exact ⟨d, HD.out, rfl, (HBE.out.setCell hw4 _).setCell hw4 _⟩
end Go.Proofs.Ytfmeiljapojoiaa.Sl
