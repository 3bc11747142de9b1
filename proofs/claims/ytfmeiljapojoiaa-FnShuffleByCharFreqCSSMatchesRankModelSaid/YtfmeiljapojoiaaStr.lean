/-
  Plain lemmas on Go strings (ByteArray) by size and bytes. Proved: two strings of one size and of the same bytes are equal; the bytes of a cut and of a sum; equality of strings by their lists. No condition.
-/
import Derived.WalkKit
import Derived.PlainAid
import Derived.Lib.Strings
namespace Go.Proofs.Ytfmeiljapojoiaa.Str
open Go.PlainAid
theorem bt_get (s : ByteArray) (i : Nat) (h : i < s.size) : bt s i = ((s[i]'h).toNat : Int) := by unfold bt; rw [dif_pos h]
theorem bt_list (s : ByteArray) (i : Nat) : bt s i = ((s.data.toList.getD i 0).toNat : Int) := by
  by_cases h : i < s.size
  · rw [bt_get s i h, List.getD_eq_getElem?_getD, List.getElem?_eq_getElem (by simpa using h)]
    rfl
  · rw [bt_end s (by omega), List.getD_eq_getElem?_getD, List.getElem?_eq_none (by simpa using h)]
    rfl
theorem len_list (s : ByteArray) : s.data.toList.length = s.size := by simp
theorem list_inj {s t : ByteArray} (h : s.data.toList = t.data.toList) : s = t := by
  obtain ⟨⟨a⟩⟩ := s
  obtain ⟨⟨b⟩⟩ := t
  simp at h
  rw [h]
theorem bt_ext {s t : ByteArray} (h : s.size = t.size) (hb : ∀ i, i < s.size → bt s i = bt t i) : s = t := by
  refine list_inj (List.ext_getElem (by simpa using h) fun i h1 h2 => ?_)
  have e := hb i (by simpa using h1)
  rw [bt_get s i (by simpa using h1), bt_get t i (by simpa using h2)] at e
  have : (s[i]'(by simpa using h1)).toNat = (t[i]'(by simpa using h2)).toNat := by omega
  exact UInt8.toNat_inj.1 this
theorem extract_list (s : ByteArray) (a b : Nat) : (s.extract a b).data.toList = (s.data.toList.take b).drop a := by
  rw [ByteArray.data_extract, Array.toList_extract, List.extract_eq_take_drop]
  rw [List.drop_take]
theorem size_extract (s : ByteArray) (a b : Nat) : (s.extract a b).size = min b s.size - a := by
  rw [← len_list, extract_list]; simp
theorem bt_extract (s : ByteArray) (a b i : Nat) (h : a + i < b) : bt (s.extract a b) i = bt s (a + i) := by
  rw [bt_list, bt_list, extract_list]
  congr 2
  rw [List.getD_eq_getElem?_getD, List.getD_eq_getElem?_getD, List.getElem?_drop, List.getElem?_take]
  rw [if_pos h]
theorem append_list (s t : ByteArray) : (s ++ t).data.toList = s.data.toList ++ t.data.toList := by
  rw [ByteArray.data_append, Array.toList_append]
theorem size_append (s t : ByteArray) : (s ++ t).size = s.size + t.size := by
  rw [← len_list, append_list, List.length_append, len_list, len_list]
theorem bt_append_left (s t : ByteArray) (i : Nat) (h : i < s.size) : bt (s ++ t) i = bt s i := by
  rw [bt_list, bt_list, append_list, List.getD_eq_getElem?_getD, List.getD_eq_getElem?_getD, List.getElem?_append_left (by simpa using h)]
theorem bt_append_right (s t : ByteArray) (i : Nat) (h : s.size ≤ i) : bt (s ++ t) i = bt t (i - s.size) := by
  rw [bt_list, bt_list, append_list, List.getD_eq_getElem?_getD, List.getD_eq_getElem?_getD, List.getElem?_append_right (by simpa using h)]
  simp
theorem toList_beq (a b : ByteArray) : (a.toList == b.toList) = decide (a = b) := by
  rw [Bool.eq_iff_iff]
  simp only [beq_iff_eq, decide_eq_true_eq]
  rw [ByteArray.toList_eq, ByteArray.toList_eq]
  exact ⟨list_inj, fun h => by rw [h]⟩
/-- Does s open with p? -/
def preB (s p : ByteArray) : Bool := decide (p.size ≤ s.size) && decide (s.extract 0 p.size = p)
/-- Does s end with p? -/
def sufB (s p : ByteArray) : Bool := decide (p.size ≤ s.size) && decide (s.extract (s.size - p.size) s.size = p)
theorem preB_iff (s p : ByteArray) : preB s p = true ↔ p.size ≤ s.size ∧ ∀ i, i < p.size → bt s i = bt p i := by
  unfold preB
  rw [Bool.and_eq_true, decide_eq_true_eq, decide_eq_true_eq]
  refine ⟨fun ⟨h1, h2⟩ => ⟨h1, fun i hi => ?_⟩, fun ⟨h1, h2⟩ => ⟨h1, ?_⟩⟩
  · rw [← h2, bt_extract _ _ _ _ (by omega)]; simp
  · refine bt_ext (by rw [size_extract]; omega) fun i hi => ?_
    rw [size_extract] at hi
    rw [bt_extract _ _ _ _ (by omega), Nat.zero_add, h2 i (by omega)]
theorem sufB_iff (s p : ByteArray) : sufB s p = true ↔ p.size ≤ s.size ∧ ∀ i, i < p.size → bt s (s.size - p.size + i) = bt p i := by
  unfold sufB
  rw [Bool.and_eq_true, decide_eq_true_eq, decide_eq_true_eq]
  refine ⟨fun ⟨h1, h2⟩ => ⟨h1, fun i hi => ?_⟩, fun ⟨h1, h2⟩ => ⟨h1, ?_⟩⟩
  · rw [← h2, bt_extract _ _ _ _ (by omega), h2]
  · refine bt_ext (by rw [size_extract]; omega) fun i hi => ?_
    rw [size_extract] at hi
    rw [bt_extract _ _ _ _ (by omega), h2 i (by omega)]
/-- Does some byte of s equal c? -/
def hasB (s : ByteArray) (c : Int) : Bool := (List.range s.size).any fun i => bt s i == c
theorem hasB_iff (s : ByteArray) (c : Int) : hasB s c = true ↔ ∃ i, i < s.size ∧ bt s i = c := by
  unfold hasB; rw [List.any_eq_true]; simp
theorem hasB_no (s : ByteArray) (c : Int) : hasB s c = false ↔ ∀ i, i < s.size → bt s i ≠ c := by
  rw [← Bool.not_eq_true, hasB_iff]; simp
end Go.Proofs.Ytfmeiljapojoiaa.Str
