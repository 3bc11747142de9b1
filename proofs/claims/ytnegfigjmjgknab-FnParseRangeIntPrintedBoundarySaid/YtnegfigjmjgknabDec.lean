/-
  Contracts for the law on printed numbers: the decimal printer, the reader of range numbers. Conditions: sizes and ranges alone.
-/
import Derived.Test.YtnegfigjmjgknabRows
import Derived.Test.YtnegfigjmjgknabMem
import Derived.Test.YtnegfigjmjgknabStr
import Derived.WalkKit
import Derived.WalkSpells
import Derived.Handy
import Derived.Lib.Hide
import Derived.Laws.BytesArg
import Derived.Laws.RangeString
import Derived.Laws.Slices
import Derived.Laws.RangeAny
namespace Go.Proofs.Ytnegfigjmjgknab.Dec
open Go.RowKit Go.PlainAid Str Mem
set_option linter.unusedVariables false
/-- The number that digits spell, the greatest first, behind the number a. -/
def valF (a : Int) : List Int → Int
  | [] => a
  | d :: r => valF (a * 10 + (d - 48)) r
def digs (D : List Int) : Prop := ∀ d ∈ D, 48 ≤ d ∧ d ≤ 57
theorem valF_cons (a d : Int) (r : List Int) : valF a (d :: r) = valF (a * 10 + (d - 48)) r := rfl
theorem valF_append (a : Int) (D E : List Int) : valF a (D ++ E) = valF (valF a D) E := by
  induction D generalizing a with
  | nil => rfl
  | cons d D ih => simp only [List.cons_append, valF_cons]; exact ih _
theorem valF_mono (a : Int) (h : 0 ≤ a) (D : List Int) (hD : digs D) : a ≤ valF a D := by
  induction D generalizing a with
  | nil => exact Int.le_refl _
  | cons d D ih =>
    have hd := hD d (by simp)
    have := ih (a * 10 + (d - 48)) (by omega) fun x hx => hD x (by simp [hx])
    rw [valF_cons]
    omega
theorem slice56 (g i : Nat) (hi : i < 24) (w : World) : (Instr.sliceAt 56 (.pointer (some ⟨g, 0, none⟩)) (some (.int .i64 (i : Int))) none none).run Try.prog w = .ok (.slice (some ⟨g, i, none⟩) (24 - i) (24 - i)) w := by
  have hal : Try.prog.arrayLen 56 = 24 := by kernel_rfl
  have hsz : ∀ W : World, (sizeOf (Try.prog.elem 56)).run Try.prog W = .ok 1 W := fun _ => by kernel_rfl
  rw [run_sliceAt_array_l (P := Try.prog) w 56 ⟨g, 0, none⟩ (by kernel_rfl) .i64 i (by omega) (by rw [hal]; omega), hsz, hal]
  simp [slicedAt]
  rw [if_neg (by omega), add_none, Nat.zero_add]
def Printed (n : Int) (w : World) (e : Ending) (w' : World) : Prop :=
  ∃ D : List Int, e = .returned (.string (strOfNums D)) ∧ D ≠ [] ∧ D.length ≤ 24 ∧ digs D ∧ valF 0 D = n ∧ Below w.heap.size w w'
theorem valF_ge (a : Int) (h : 0 ≤ a) (D : List Int) (hD : digs D) : a * 10 ^ D.length ≤ valF a D := by
  induction D generalizing a with
  | nil => simp [valF]
  | cons d D ih =>
    have hd := hD d (by simp)
    have h2 := ih (a * 10 + (d - 48)) (by omega) fun x hx => hD x (by simp [hx])
    rw [valF_cons]
    refine Int.le_trans ?_ h2
    rw [List.length_cons, Int.pow_succ, Int.mul_comm (10 ^ D.length) 10, ← Int.mul_assoc]
    exact Int.mul_le_mul_of_nonneg_right (by omega) (Int.pow_nonneg (by omega))
/-- What is left of the number, and the digits that lie in the buffer: together the number. -/
structure Left (n : Int) (i : Nat) (m : Int) (D : List Int) : Prop where
  nn : 0 ≤ m
  len : D.length = 24 - i
  dg : digs D
  val : valF m D = n
theorem Left.room {n m : Int} {i : Nat} {D : List Int} (h : Left n i m D) (hn : n ≤ 214748363) (hm : 0 < m) (hi : i ≤ 24) : 15 < i := by
  rcases Nat.lt_or_ge 15 i with h1 | h1
  · exact h1
  exfalso
  have h2 := valF_ge m h.nn D h.dg
  rw [h.val] at h2
  have h3 : (10 : Int) ^ 9 ≤ 10 ^ D.length := by
    have hl := h.len
    exact_mod_cast Nat.pow_le_pow_right (by omega : 0 < 10) (by omega : 9 ≤ D.length)
  have h4 : (1 : Int) * 10 ^ D.length ≤ m * 10 ^ D.length := Int.mul_le_mul_of_nonneg_right (by omega) (Int.pow_nonneg (by omega))
  omega
theorem Left.step {n m : Int} {p : Nat} {D : List Int} (h : Left n (p + 1) m D) (hp : p + 1 ≤ 24) : Left n p (m / 10) ((48 + m % 10) :: D) where
  nn := by have := h.nn; omega
  len := by have := h.len; simp only [List.length_cons]; omega
  dg := by
    intro d hd
    rcases List.mem_cons.1 hd with rfl | hd
    · have := h.nn; omega
    · exact h.dg d hd
  val := by
    rw [valF_cons, show m / 10 * 10 + (48 + m % 10 - 48) = m by omega]
    exact h.val
set_option maxHeartbeats 2000000 in
theorem itoa_any (n : Int) (h0 : 0 ≤ n) (h1 : n ≤ 214748363) (w : World) : Calls Try.prog 12 #[.int .i64 n] w (Printed n w) := by
  by_cases hz : n = 0
  · subst hz
    go_enter Try.func12, Try.ntmps12
    go_wp2
    go_ret
    exact ⟨[48], rfl, by simp, by decide, by intro d hd; simp at hd; omega, rfl, Below.refl _ _⟩
  have hz' : (n == 0) = false := by simp [hz]
  have hpos : 0 < n := by omega
  clear hz
  go_enter Try.func12, Try.ntmps12
  go_wp2
  go_loopw [0, 4] (fun a b wr => ∃ (m : Int) (i : Nat) (D : List Int) (cs : Array Value), a = .int .i64 m ∧ b = .int .i64 i ∧ i ≤ 24 ∧ m ≤ n ∧ Left n i m D ∧ Own wr w.heap.size 56 cs ∧ cs.size = 24 ∧ (∀ j, j < 24 → ∃ z, cs[j]? = some (.int .u8 z)) ∧ (∀ j, j < 24 - i → cs[i + j]? = some (.int .u8 (D.getD j 0))) ∧ Below w.heap.size w wr) (fun _ b _ => (intOf b).toNat)
  case atStart =>
    refine ⟨n, 24, [], _, rfl, rfl, by omega, Int.le_refl _, ⟨h0, rfl, by intro d hd; simp at hd, rfl⟩, Own.new _ _ _, rfl, ?_, by intro j hj; omega, by go_grown⟩
    have key : ∀ j : Nat, j < 24 → (List.replicate 24 (Value.int .u8 0)).toArray[j]? = some (.int .u8 0) := fun j hj => by
      rw [List.getElem?_toArray, List.getElem?_replicate, if_pos hj]
    exact fun j hj => ⟨0, key j hj⟩
  case round =>
    obtain ⟨m, i, D, cs, rfl, rfl, hi, hmn, hL, hO, hS, hE, hD, hB⟩ := hrel
    have HO := Lib.hid hO
    have HS := Lib.hid hS
    have HE := Lib.hid hE
    have HD := Lib.hid hD
    have HL := Lib.hid hL
    have hm0 := hL.nn
    clear hO hS hE hD hL
    by_cases hm : 0 < m
    · have h15 := HL.out.room h1 hm hi
      obtain ⟨p, rfl⟩ : ∃ p, i = p + 1 := ⟨i - 1, by omega⟩
      obtain ⟨z, hz⟩ := HE.out p (by omega)
      have hcell := (HO.out.cell p).trans hz
      have hfr := HO.out.frozen p
      have t1 : decide (0 < m) = true := by simp [hm]
      clear hz
      go_wp2
      refine ⟨⟨m / 10, p, (48 + m % 10) :: D, _, rfl, rfl, by omega, by omega, HL.out.step hi, HO.out.set p _, by simpa using HS.out, fun j hj => ?_, fun j hj => ?_, hB.setCell (Nat.le_refl _) _⟩, by simp [intOf]⟩
      · rw [Array.getElem?_setIfInBounds]
        by_cases e : p = j
        · subst e; exact ⟨48 + m % 10, by simp [HS.out, hj]⟩
        · rw [if_neg e]; exact HE.out j hj
      · rw [Array.getElem?_setIfInBounds]
        cases j with
        | zero => simp [HS.out]; omega
        | succ j =>
          rw [if_neg (by omega)]
          have := HD.out j (by omega)
          rw [show p + (j + 1) = p + 1 + j by omega, this]
          simp
    · obtain rfl : m = 0 := by omega
      have hlen := HL.out.len
      have hne : D ≠ [] := by
        intro e
        have := HL.out.val
        rw [e] at this
        simp [valF] at this
        omega
      have hpl : 0 < D.length := by
        cases D with
        | nil => exact absurd rfl hne
        | cons d D => simp
      have hsl := slice56 w.heap.size i (by omega) wr
      have hcv := run_convert_bytes_arg (P := Try.prog) wr 32 5 Try.underlying32 Try.underlying5 w.heap.size i (24 - i) (24 - i) D hlen (fun j hj => by rw [HO.out.cell]; exact HD.out j hj) 9 Try.underlying9
      have HLN := Lib.hid hlen
      clear hlen hne
      go_wp2
      go_ret
      exact ⟨D, rfl, by intro e; rw [e] at hpl; simp at hpl, by have := HLN.out; omega, HL.out.dg, HL.out.val, hB⟩

theorem byte_at (E : List Int) (hE : digs E) (k : Nat) (hk : k < E.length) (h : k < (strOfNums E).size) : (((strOfNums E)[k]'h).toNat : Int) = E[k] ∧ ((strOfNums E)[k]'h).toNat < 128 := by
  have hd := hE E[k] (List.getElem_mem hk)
  have e : (strOfNums E)[k]'h = UInt8.ofNat (E[k]).toNat := by
    have h1 : (strOfNums E)[k]'h = (strOfNums E).data.toList[k]'(by simpa using h) := rfl
    rw [h1]
    simp [strOfNums_data]
  rw [e]
  have : (UInt8.ofNat (E[k]).toNat).toNat = (E[k]).toNat := by
    rw [UInt8.toNat_ofNat']; omega
  rw [this]
  omega
theorem take_val (E : List Int) (k : Nat) (hk : k < E.length) : valF 0 (E.take (k + 1)) = valF 0 (E.take k) * 10 + (E[k] - 48) := by
  rw [List.take_succ_eq_append_getElem hk, valF_append]
  rfl
theorem take_digs {E : List Int} (hE : digs E) (k : Nat) : digs (E.take k) := fun d hd => hE d (List.mem_of_mem_take hd)
theorem take_le (E : List Int) (hE : digs E) (k : Nat) : valF 0 (E.take k) ≤ valF 0 E := by
  have h := valF_append 0 (E.take k) (E.drop k)
  rw [List.take_append_drop] at h
  rw [h]
  exact valF_mono _ (valF_mono 0 (by omega) _ (take_digs hE k)) _ (fun d hd => hE d (List.mem_of_mem_drop hd))
theorem vi {k : IntKind} {a b : Int} (h : a = b) : Value.int k a = .int k b := by rw [h]
theorem below_iter (w : World) (s : ByteArray) (k : Nat) : Below w.heap.size w (w.iter s k) := (Below.refl _ _).alloc (Nat.le_refl _) _
def pv (E : List Int) (M : Int) : Int := if valF 0 E ≤ M then valF 0 E else 0
def pb (E : List Int) (M : Int) : Bool := decide (valF 0 E ≤ M)
theorem pv_yes {E : List Int} {M : Int} (h : valF 0 E ≤ M) : pv E M = valF 0 E := if_pos h
theorem pb_yes {E : List Int} {M : Int} (h : valF 0 E ≤ M) : pb E M = true := decide_eq_true h
theorem pv_no {E : List Int} {M : Int} (h : M < valF 0 E) : pv E M = 0 := if_neg (by omega)
theorem pb_no {E : List Int} {M : Int} (h : M < valF 0 E) : pb E M = false := decide_eq_false (by omega)
def Parsed (E : List Int) (M : Int) (w : World) (e : Ending) (w' : World) : Prop :=
  e = .returned (.tuple #[.int .i64 (pv E M), .bool (pb E M)]) ∧ Below w.heap.size w w'
set_option maxHeartbeats 2000000 in
theorem parse25 (E : List Int) (hE : digs E) (hne : E ≠ []) (hlen : E.length ≤ 100000) (M : Int) (hM0 : -1 ≤ M) (hM1 : M ≤ 214748363) (w : World) :
    Calls Try.prog 25 #[.string (strOfNums E), .int .i64 M] w (Parsed E M w) := by
  have hs := strOfNums_size E
  have hpos : 0 < E.length := by
    cases E with
    | nil => exact absurd rfl hne
    | cons d E => simp
  have hemp : (strOfNums E).toList.isEmpty = false := by
    have : (strOfNums E).toList.length = E.length := by rw [ByteArray.toList_eq]; simpa using hs
    cases h : (strOfNums E).toList with
    | nil => rw [h] at this; simp at this; omega
    | cons a b => rfl
  have HE := Lib.hid hE
  have HS := Lib.hid hs
  clear hE hs hne
  have hsz : (strOfNums E).size ≤ 100000 := by rw [HS.out]; exact hlen
  generalize hss : strOfNums E = s at *
  have HSS := Lib.hid hss
  clear hss
  go_enter Try.func25, Try.ntmps25
  go_wp2
  go_loopw [6, 8] (fun v _ wr => ∃ k : Nat, k ≤ E.length ∧ v = .int .i64 (valF 0 (E.take k)) ∧ 0 ≤ valF 0 (E.take k) ∧ valF 0 (E.take k) ≤ 214748363 ∧ (k = 0 ∨ valF 0 (E.take k) ≤ M) ∧ wr = w.iter s k) (fun _ _ wr => E.length - wr.iterPos w.heap.size)
  case atStart => exact ⟨0, by omega, rfl, by simp [valF], by simp [valF], .inl rfl, rfl⟩
  case round =>
    obtain ⟨k, hk, rfl, v0, v1, vM, rfl⟩ := hrel
    have VM := Lib.hid vM
    clear vM
    have hsE : s.size = E.length := HS.out
    by_cases hlt : k < E.length
    · have hks : k < s.size := by omega
      have hby : ((s[k]'hks).toNat : Int) = E[k] ∧ (s[k]'hks).toNat < 128 := by
        have := HSS.out
        subst this
        exact byte_at E HE.out k hlt hks
      have hd := HE.out E[k] (List.getElem_mem hlt)
      have hnx := run_next_ascii (P := Try.prog) w s k 0 hks hby.2
      have HT := Lib.hid (take_val E k hlt)
      have hle := take_le E HE.out (k + 1)
      have hle0 := valF_mono 0 (by omega) (E.take (k + 1)) (take_digs HE.out (k + 1))
      have HB := hby.1
      generalize valF 0 (E.take k) = x at *
      generalize E[k] = c at *
      clear hsE hby
      by_cases hc : x * 10 + (c - 48) ≤ M
      · go_wp2
        exact ⟨⟨k + 1, by omega, vi HT.out.symm, by rw [HT.out]; omega, by rw [HT.out]; omega, .inr (by rw [HT.out]; exact hc), rfl⟩, by simp only [World.iterPos_iter]; omega⟩
      · have hbig : M < valF 0 E := by rw [HT.out] at hle; omega
        have HB' := Lib.hid hbig
        clear hbig
        go_wp2
        go_ret2
        exact ⟨by rw [pv_no HB'.out, pb_no HB'.out]; rfl, below_iter _ _ _⟩
    · have hend := run_next_end (P := Try.prog) w s k 0 (by omega)
      obtain rfl : k = E.length := by omega
      rw [List.take_length] at *
      have hsm : valF 0 E ≤ M := by
        have := VM.out
        omega
      have HB' := Lib.hid hsm
      clear hsm VM
      go_wp2
      go_ret2
      exact ⟨by rw [pv_yes HB'.out, pb_yes HB'.out]; rfl, below_iter _ _ _⟩
theorem parse_any (E : List Int) (hE : digs E) (hne : E ≠ []) (hlen : E.length ≤ 100000) (M : Int) (hM0 : -1 ≤ M) (hM1 : M ≤ 214748363) (w : World) :
    Calls Try.prog 13 #[.string (strOfNums E), .int .i64 M] w (Parsed E M w) := by
  go_enter Try.func13, Try.ntmps13
  go_wp2_with fail
  refine (parse25 E hE hne hlen M hM0 hM1 _).mono ?_
  rintro e w1 ⟨rfl, hb⟩
  go_wp2_with fail
  go_ret2
  exact ⟨rfl, hb⟩
end Go.Proofs.Ytnegfigjmjgknab.Dec
