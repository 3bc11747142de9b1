/-
  Contract of decodeEscapesInToken (the walk). Conditions: the text's size; a backslash is its first special byte; no newline stands behind a backslash; the two tables of unicode/utf8.
-/
import Derived.Test.YtcljenkgbbbfpaaDoorDw
namespace Go.Proofs.YtcljenkgbbbfpaaDoor.Dx
open Go.RowKit Go.PlainAid Str Mem De Dw
set_option linter.unusedVariables false
def bytesV (l : List Int) : List Value := l.map (Value.int .u8)
theorem bytesV_append (a b : List Int) : bytesV (a ++ b) = bytesV a ++ bytesV b := by simp [bytesV]
theorem runeCells_eq (r : Int) : Lib.runeCells r = bytesV (Lib.encodeRuneZ r) := rfl
theorem bytesV_len (l : List Int) : (bytesV l).length = l.length := by simp [bytesV]
/-- The bytes of s below p. -/
def pre (s : ByteArray) (p : Nat) : List Int := (List.range p).map (bt s)
theorem strCells_pre (s : ByteArray) (p : Nat) (hp : p ≤ s.size) : Lib.strCells (s.extract 0 p) = bytesV (pre s p) := by
  have hl : (Lib.strCells (s.extract 0 p)).length = p := by rw [Lib.strCells_length, size_extract]; omega
  refine List.ext_getElem (by rw [hl, bytesV_len]; simp [pre]) fun i h1 h2 => ?_
  rw [hl] at h1
  have hi : i < (s.extract 0 p).size := by rw [size_extract]; omega
  have e := bt_extract s 0 p i (by omega)
  rw [Nat.zero_add, bt_get _ i hi] at e
  simp only [Lib.strCells, bytesV, pre, List.getElem_map, List.getElem_range]
  rw [← e]
  rfl
/-- The state at a round's head: the text from i on is left, 'out' is written. -/
structure St (w : World) (b : Nat) (s : ByteArray) (all : List Int) (i : Nat) (out : List Int) (wr : World) : Prop where
  hi : i ≤ s.size
  eq : all = out ++ D s i
  bl : Lib.IsBuilderF 102 5 w.heap.size b (bytesV out) wr
  be : Below w.heap.size w wr
theorem bld_below {T e : TypeId} {B b : Nat} {p : Value} {bs : List Value} {W W' : World} (h : Lib.BuilderAtF T e B b p bs W) (hb : Below W.heap.size W W') : Lib.BuilderAtF T e B b p bs W' := by
  obtain ⟨hB, v, hbk, hown, hne⟩ := h
  refine ⟨hB, v, ?_, ?_, hne⟩
  · rw [hb.block b (Lib.BuilderAtF.lt ⟨hB, v, hbk, hown, hne⟩)]; exact hbk
  · exact hown.kept (row := none) ⟨hb.os, hb.tape, hb.output, hb.size, fun k hk _ => hb.block k hk⟩ (Classical.em _)
theorem isb_below {T e : TypeId} {B b : Nat} {bs : List Value} {W W' : World} (h : Lib.IsBuilderF T e B b bs W) (hb : Below W.heap.size W W') : Lib.IsBuilderF T e B b bs W' :=
  h.elim (fun x => .inl (bld_below x hb)) (fun x => .inr (bld_below x hb))
theorem St.below {w wr w' : World} {b : Nat} {s : ByteArray} {all : List Int} {i : Nat} {out : List Int} (h : St w b s all i out wr) (hb : Below wr.heap.size wr w') : St w b s all i out w' :=
  ⟨h.hi, h.eq, isb_below h.bl hb, h.be.trans (hb.mono h.be.size)⟩
theorem len_le {s : ByteArray} {all out : List Int} {i p : Nat} (hall : all.length ≤ 4 * s.size + p) (h : all = out ++ D s i) : out.length ≤ 4 * s.size + p := by
  rw [h, List.length_append] at hall; omega
theorem ext_t {s t : ByteArray} {i k : Nat} (ht : t = s.extract i s.size) (h : i + k ≤ s.size) : t.extract k t.size = s.extract (i + k) s.size := by
  subst ht
  refine bt_ext (by simp only [size_extract]; omega) fun j hj => ?_
  rw [size_extract, size_extract] at hj
  rw [bt_extract _ _ _ _ (by rw [size_extract]; omega), bt_extract _ _ _ _ (by omega), bt_extract _ _ _ _ (by omega)]
  congr 1; omega
theorem size_t {s t : ByteArray} {i : Nat} (ht : t = s.extract i s.size) : t.size = s.size - i := by subst ht; rw [size_extract]; omega
theorem rc_nl {s : ByteArray} {i : Nat} (h : i < s.size) (h10 : bt s i ≠ 10 ∧ bt s i ≠ 12 ∧ bt s i ≠ 13) : rc s i ≠ 10 ∧ rc s i ≠ 12 ∧ rc s i ≠ 13 := by
  by_cases ha : bt s i < 128
  · rw [(rd_asc h ha).1]; exact h10
  · have := (rd_high h (by omega)).1; omega
theorem rc_92 {s : ByteArray} {i : Nat} (h : i < s.size) (h92 : rc s i = 92) : bt s i = 92 ∧ rw' s i = 1 := by
  by_cases ha : bt s i < 128
  · have := rd_asc h ha; rw [this.1] at h92; exact ⟨h92, this.2⟩
  · have := (rd_high h (by omega)).1; omega
/-- The state inside the loop over the digits. -/
structure Hx (w : World) (b : Nat) (s : ByteArray) (all : List Int) (i : Nat) (out : List Int) (m : Nat) (H0 : Int) (q n : Nat) (h : Int) (wr : World) : Prop where
  hq : q ≤ s.size
  hm : m ≤ q
  n5 : n ≤ 5
  h0 : 0 ≤ h
  h1 : h < 16 ^ (n + 1)
  run : hexRun s 5 m H0 = hexRun s (5 - n) q h
  st : St w b s all i out wr
theorem hexRun_go {s : ByteArray} {n q : Nat} {h : Int} (hn : n < 5) (hq : q < s.size) (hx : 0 ≤ hexV (rc s q)) : hexRun s (5 - n) q h = hexRun s (5 - (n + 1)) (q + rw' s q) (h * 16 + hexV (rc s q)) := by
  rw [show 5 - n = (5 - (n + 1)) + 1 by omega]
  conv => lhs; unfold hexRun
  rw [if_pos ⟨hq, hx⟩]
theorem hexRun_halt {s : ByteArray} {n q : Nat} {h : Int} (hn : n ≤ 5) (hx : n = 5 ∨ s.size ≤ q ∨ hexV (rc s q) < 0) : hexRun s (5 - n) q h = (q, h) := by
  by_cases e : n = 5
  · subst e; rfl
  · rw [show 5 - n = (5 - (n + 1)) + 1 by omega]
    unfold hexRun
    rw [if_neg]
    rintro ⟨a, b⟩
    omega
theorem pow_le {n : Nat} (hn : n ≤ 5) {h : Int} (h1 : h < 16 ^ (n + 1)) : h ≤ 16777215 := by
  have : (16 : Int) ^ (n + 1) ≤ 16 ^ 6 := by
    obtain rfl | rfl | rfl | rfl | rfl | rfl : n = 0 ∨ n = 1 ∨ n = 2 ∨ n = 3 ∨ n = 4 ∨ n = 5 := by omega
    all_goals decide
  have : (16 : Int) ^ 6 = 16777216 := by decide
  omega
theorem pow_step {n : Nat} {h d : Int} (h0 : 0 ≤ h) (h1 : h < 16 ^ (n + 1)) (d0 : 0 ≤ d) (d1 : d ≤ 15) : h * 16 + d < 16 ^ (n + 1 + 1) := by
  rw [Int.pow_succ 16 (n + 1)]
  omega
/-- A rune written, and the text from i' on left. -/
theorem St.next {w wr w1 : World} {b : Nat} {s : ByteArray} {all : List Int} {i i' : Nat} {out : List Int} {r : Int} (h : St w b s all i out wr) (hl : i < s.size) (e : stepD s i = (i', r))
    (hb : Lib.BuilderAtF 102 5 w.heap.size b (.pointer (some ⟨b, 0, none⟩)) (bytesV out ++ Lib.runeCells r) w1) (hw : Below w.heap.size w w1) : St w b s all i' (out ++ Lib.encodeRuneZ r) w1 := by
  have hle := stepD_le hl
  rw [e] at hle
  refine ⟨hle.2, ?_, .inr ?_, hw⟩
  · rw [h.eq, D_step hl, e, List.append_assoc]
  · rw [bytesV_append]; exact hb
/-- What is returned. -/
def Ret (all : List Int) (w : World) (e : Ending) (w' : World) : Prop := ∃ l : List UInt8, e = .returned (.string ⟨l.toArray⟩) ∧ l.map (fun b => (b.toNat : Int)) = all ∧ Below w.heap.size w w'
theorem enc_range (r : Int) : ∀ c ∈ Lib.encodeRuneZ r, 0 ≤ c ∧ c < 256 := by
  unfold Lib.encodeRuneZ
  intro c hc
  split at hc
  · simp at hc; omega
  split at hc
  · simp at hc; omega
  split at hc
  · simp at hc; omega
  split at hc
  · simp at hc; omega
  · simp at hc; omega
theorem D_range (s : ByteArray) : ∀ (f i : Nat), ∀ c ∈ decD s f i, 0 ≤ c ∧ c < 256
  | 0, i, c, h => by simp [decD] at h
  | f + 1, i, c, h => by
    unfold decD at h
    split at h
    · rcases List.mem_append.1 h with h | h
      · exact enc_range _ c h
      · exact D_range s f _ c h
    · simp at h
theorem toU (l : List Int) (h : ∀ c ∈ l, 0 ≤ c ∧ c < 256) : bytesV l = Lib.byteCells (l.map fun c => c.toNat.toUInt8) ∧ (l.map fun c => c.toNat.toUInt8).map (fun b => (b.toNat : Int)) = l := by
  induction l with
  | nil => exact ⟨rfl, rfl⟩
  | cons c l ih =>
    obtain ⟨i1, i2⟩ := ih fun x hx => h x (by simp [hx])
    have hc := h c (by simp)
    have e : ((c.toNat.toUInt8).toNat : Int) = c := by
      rw [UInt8.toNat_ofNat']; omega
    refine ⟨?_, ?_⟩
    · show Value.int .u8 c :: bytesV l = _
      rw [i1]
      show _ = Value.int .u8 ((c.toNat.toUInt8).toNat : Int) :: _
      rw [e]; rfl
    · rw [List.map_cons, List.map_cons, e, i2]
end Go.Proofs.YtcljenkgbbbfpaaDoor.Dx
