/-
  Proved: what ShuffleByCharFreq lays fulfils the rank law, in plain Lean. Conditions: those that each theorem names as its hypotheses, and no others.
-/
import Derived.Test.YtfmeiljapojoiaaSl
import Derived.Test.YtfmeiljapojoiaaSm
namespace Go.Proofs.Ytfmeiljapojoiaa.Sn
open Go.RowKit Go.PlainAid Mem Rws Sa Sl Sm
set_option linter.unusedVariables false
set_option linter.unusedSimpArgs false
def X (tl : ByteArray) (z : Nat → Int) (i : Nat) : El := ⟨tl.extract i (i + 1), z i, (i : Int)⟩
def xs (tl : ByteArray) (z : Nat → Int) (n : Nat) : List El := (List.range n).map (X tl z)
def ne (e : El) : Bool := e.ch.size != 0
def bs (e : El) : List UInt8 := e.ch.data.toList
def bb (e : El) : UInt8 := (bs e).getD 0 0
theorem bb_bt (e : El) : ((bb e).toNat : Int) = bt e.ch 0 := (Str.bt_list e.ch 0).symm
theorem dk_list (tl : ByteArray) (z : Nat → Int) : (dkF tl z 63).toList = xs tl z 63 ++ [⟨⟨#[]⟩, 0, 0⟩] := by
  refine List.ext_getElem ?_ fun i h1 h2 => ?_
  · simp [dkF, xs]
  · have h64 : i < 64 := by simpa [dkF] using h1
    have e := dkF_at tl z 63 i h64
    rw [getElem!_pos _ i (by rw [dkF_size]; exact h64)] at e
    rw [Array.getElem_toList, e]
    by_cases hi : i < 63
    · rw [if_pos hi, List.getElem_append_left (by simpa [xs] using hi)]
      simp [xs, X]
    · rw [if_neg hi, List.getElem_append_right (by simp [xs]; omega)]
      simp
theorem lt_tri {a c : El} (h : Sa.lt c a = false) (hx : a.ix ≠ c.ix) : Sa.lt a c = true := by
  unfold Sa.lt at *
  simp at *
  omega
theorem strict_pos : ∀ (L : List El), L.Pairwise (fun a c => Sa.lt a c = true) → ∀ (q : Nat) (h : q < L.length), L.countP (fun y => Sa.lt y L[q]) = q
  | [], _, q, h => absurd h (Nat.not_lt_zero _)
  | a :: r, hp, 0, h => by
    rw [List.pairwise_cons] at hp
    rw [List.countP_cons, show (a :: r)[0] = a from rfl, swo.irrefl]
    have : r.countP (fun y => Sa.lt y a) = 0 := by
      rw [List.countP_eq_zero]
      intro y hy hc
      have h1 := hp.1 y hy
      have h2 := swo.trans a y a h1 hc
      rw [swo.irrefl] at h2
      cases h2
    rw [this]; rfl
  | a :: r, hp, q + 1, h => by
    rw [List.pairwise_cons] at hp
    have hq : q < r.length := by simpa using h
    rw [List.countP_cons, show (a :: r)[q + 1] = r[q] from rfl, strict_pos r hp.2 q hq, if_pos (hp.1 _ (List.getElem_mem hq))]
theorem rk_count (tl : ByteArray) (z : Nat → Int) (i : Nat) : ∀ n, rk z i n = (xs tl z n).countP (fun y => Sa.lt y (X tl z i))
  | 0 => rfl
  | n + 1 => by
    have hg : gb z i n = Sa.lt (X tl z n) (X tl z i) := by
      unfold gb Sa.lt X
      show (decide (z i < z n) || (z n == z i && decide (n < i))) = (decide (z i < z n) || (z n == z i && decide ((n : Int) < (i : Int))))
      rw [decide_eq_decide.2 (show (n < i) ↔ ((n : Int) < (i : Int)) by omega)]
    unfold rk xs
    rw [List.range_succ, List.map_append, List.countP_append, rk_count tl z i n, hg]
    simp [xs, List.countP_cons]
theorem cat_list (d : Array El) (hd : d.size = 64) : ∀ k, k ≤ 64 → (catT d k).data.toList = (d.toList.take k).flatMap bs ∧ (catH d k).data.toList = ((d.toList.take k).filter (fun e => nd e.ch)).flatMap bs
  | 0, _ => ⟨rfl, rfl⟩
  | k + 1, hk => by
    obtain ⟨h1, h2⟩ := cat_list d hd k (by omega)
    have hl : k < d.toList.length := by simpa using (show k < d.size by omega)
    have e : d.toList.take (k + 1) = d.toList.take k ++ [d[k]!] := by
      rw [List.take_add_one, List.getElem?_eq_getElem hl, Array.getElem_toList, getElem!_pos d k (by omega)]; rfl
    constructor
    · unfold catT
      rw [Str.append_list, h1, e, List.flatMap_append]
      simp [bs]
    · unfold catH
      rw [e, List.filter_append, List.flatMap_append, ← h2]
      cases hn : nd (d[k]!).ch
      · simp [hn]
      · rw [if_pos rfl, Str.append_list]
        simp [hn, bs]
theorem flat_ne : ∀ (l : List El), l.flatMap bs = (l.filter ne).flatMap bs
  | [] => rfl
  | a :: r => by
    rw [List.flatMap_cons, flat_ne r, List.filter_cons]
    cases h : ne a
    · have : bs a = [] := by
        have h0 : a.ch.size = 0 := by simpa [ne] using h
        have : (bs a).length = 0 := by unfold bs; simpa using h0
        exact List.length_eq_zero_iff.1 this
      rw [this]; simp
    · simp
theorem flat_one : ∀ (l : List El), (∀ e ∈ l, e.ch.size = 1) → l.flatMap bs = l.map bb
  | [], _ => rfl
  | a :: r, h => by
    have h1 : (bs a).length = 1 := by unfold bs; simpa using h a (List.mem_cons_self ..)
    obtain ⟨c, hc⟩ := List.length_eq_one_iff.1 h1
    rw [List.flatMap_cons, flat_one r (fun e he => h e (List.mem_cons_of_mem _ he)), List.map_cons, hc]
    unfold bb
    rw [hc]; rfl
theorem filter_at {α : Type} (p : α → Bool) : ∀ (G : List α) (k : Nat) (h : k < G.length), p G[k] = true → (G.filter p)[(G.take k).countP p]? = some G[k]
  | a :: r, 0, _, hp => by
    rw [List.filter_cons, if_pos (show p a = true from hp)]; rfl
  | a :: r, k + 1, h, hp => by
    have hk : k < r.length := by simpa using h
    have ih := filter_at p r k hk hp
    rw [List.filter_cons, List.take_succ_cons, List.countP_cons]
    cases hq : p a
    · simpa using ih
    · simpa using ih
def nb (c : UInt8) : Bool := !dig ((c.toNat : Nat) : Int)
theorem nd_c (c : UInt8) : (Op.bytesLess [c] [48] || (!Op.bytesLess [c] [57] && !([c] == ([57] : List UInt8)))) = nb c := by
  have h1 : Op.bytesLess [c] [48] = decide (c.toNat < 48) := by
    show (decide (c < 48) || (c == 48 && false)) = _
    rw [Bool.and_false, Bool.or_false]
    exact decide_eq_decide.2 UInt8.lt_iff_toNat_lt
  have h2 : Op.bytesLess [c] [57] = decide (c.toNat < 57) := by
    show (decide (c < 57) || (c == 57 && false)) = _
    rw [Bool.and_false, Bool.or_false]
    exact decide_eq_decide.2 UInt8.lt_iff_toNat_lt
  have h3 : ([c] == ([57] : List UInt8)) = decide (c.toNat = 57) := by
    rw [Bool.eq_iff_iff, beq_iff_eq, decide_eq_true_iff]
    constructor
    · intro h; injection h with h _; rw [h]; rfl
    · intro h; rw [show c = 57 from UInt8.toNat_inj.1 h]
  rw [h1, h2, h3]
  unfold nb dig
  rw [Bool.eq_iff_iff]
  simp
  omega
theorem nd_one {e : El} (h : e.ch.size = 1) : nd e.ch = nb (bb e) := by
  have h1 : (bs e).length = 1 := by unfold bs; simpa using h
  obtain ⟨c, hc⟩ := List.length_eq_one_iff.1 h1
  have h2 : e.ch.toList = [c] := by rw [ByteArray.toList_eq]; exact hc
  have h3 : bb e = c := by unfold bb; rw [hc]; rfl
  unfold nd
  rw [h2, h3]
  exact nd_c c
theorem xs_one {tl : ByteArray} {z : Nat → Int} (h : tl.size = 63) : ∀ e ∈ xs tl z 63, e.ch.size = 1 := by
  intro e he
  obtain ⟨i, hi, rfl⟩ := List.mem_map.1 he
  have : i < 63 := List.mem_range.1 hi
  show (tl.extract i (i + 1)).size = 1
  rw [Str.size_extract]; omega
section
variable {tl : ByteArray} {z : Nat → Int} {d : Array El}
theorem whole (hd : d.size = 64) : (d.extract 0 64).toList = d.toList := by
  rw [Array.toList_extract, List.extract_eq_take_drop, List.drop_zero]
  exact List.take_of_length_le (by simp [hd])
theorem perm_L (ht : tl.size = 63) (hp : Sort.PermIn 0 64 (dkF tl z 63) d) : (d.toList.filter ne).Perm (xs tl z 63) := by
  have hd : d.size = 64 := hp.1.trans (dkF_size _ _ _)
  have h := hp.2.2
  rw [whole hd, whole (dkF_size tl z 63), dk_list] at h
  have h2 := h.filter ne
  rw [List.filter_append] at h2
  have h3 : (xs tl z 63).filter ne = xs tl z 63 := List.filter_eq_self.2 fun e he => by
    have := xs_one ht e he
    simp [ne, this]
  rw [h3] at h2
  rw [show ([⟨⟨#[]⟩, 0, 0⟩] : List El).filter ne = [] from rfl, List.append_nil] at h2
  exact h2
theorem strict_L (ht : tl.size = 63) (hp : Sort.PermIn 0 64 (dkF tl z 63) d) (hs : Sort.SortedIn Sa.lt 0 64 d) : (d.toList.filter ne).Pairwise (fun a c => Sa.lt a c = true) := by
  have hd : d.size = 64 := hp.1.trans (dkF_size _ _ _)
  have h1 : d.toList.Pairwise (fun a c => Sa.lt c a = false) := by
    rw [List.pairwise_iff_getElem]
    intro i j hi hj hij
    have hi' : i < d.size := by simpa using hi
    have hj' : j < d.size := by simpa using hj
    have := hs i j (Nat.zero_le _) hij (by omega)
    rw [getElem!_pos d i hi', getElem!_pos d j hj'] at this
    simpa using this
  have h2 : (xs tl z 63).Pairwise (fun a c => a.ix ≠ c.ix) := by
    unfold xs
    rw [List.pairwise_map]
    exact (List.nodup_range (n := 63)).imp (fun h e => h (by
      have e' : ((_ : Nat) : Int) = ((_ : Nat) : Int) := e
      omega))
  have h3 : (d.toList.filter ne).Pairwise (fun a c => a.ix ≠ c.ix) := ((perm_L ht hp).pairwise_iff (fun h e => h e.symm)).2 h2
  have h4 : (d.toList.filter ne).Pairwise (fun a c => Sa.lt c a = false) := h1.filter ne
  exact (h4.and h3).imp fun h => lt_tri h.1 h.2
theorem catT_L (ht : tl.size = 63) (hp : Sort.PermIn 0 64 (dkF tl z 63) d) : (catT d 64).data.toList = (d.toList.filter ne).map bb := by
  have hd : d.size = 64 := hp.1.trans (dkF_size _ _ _)
  rw [(cat_list d hd 64 (Nat.le_refl _)).1, List.take_of_length_le (by simp [hd]), flat_ne]
  exact flat_one _ fun e he => xs_one ht e ((perm_L ht hp).mem_iff.1 he)
theorem catH_L (ht : tl.size = 63) (hp : Sort.PermIn 0 64 (dkF tl z 63) d) : (catH d 64).data.toList = ((d.toList.filter ne).map bb).filter nb := by
  have hd : d.size = 64 := hp.1.trans (dkF_size _ _ _)
  have hone : ∀ e ∈ d.toList.filter ne, e.ch.size = 1 := fun e he => xs_one ht e ((perm_L ht hp).mem_iff.1 he)
  rw [(cat_list d hd 64 (Nat.le_refl _)).2, List.take_of_length_le (by simp [hd]), flat_ne, List.filter_filter, List.filter_map]
  have e1 : d.toList.filter (fun a => ne a && nd a.ch) = (d.toList.filter ne).filter (fun e => nd e.ch) := by
    rw [List.filter_filter]
    exact congrArg (fun p => List.filter p d.toList) (funext fun a => Bool.and_comm _ _)
  rw [e1, flat_one _ (fun e he => hone e (List.mem_filter.1 he).1)]
  congr 1
  exact List.filter_congr fun e he => nd_one (hone e he)
theorem hc_count (s : ByteArray) : ∀ n, n ≤ s.size → hc s n = (s.data.toList.take n).countP nb
  | 0, _ => rfl
  | n + 1, h => by
    have hl : n < s.data.toList.length := by rw [Str.len_list]; omega
    have e : s.data.toList.take (n + 1) = s.data.toList.take n ++ [s.data.toList[n]] := by
      rw [List.take_add_one, List.getElem?_eq_getElem hl]; rfl
    have hb : bt s n = ((s.data.toList[n]).toNat : Int) := by
      rw [Str.bt_list, List.getD_eq_getElem?_getD, List.getElem?_eq_getElem hl]; rfl
    unfold hc
    rw [e, List.countP_append, hc_count s n (by omega), hb]
    unfold nb
    generalize s.data.toList[n] = c
    cases hd : dig (c.toNat : Int) <;> simp [List.countP_cons, hd]
/-- What ShuffleByCharFreq lays is what the model asks. -/
theorem model (ht : tl.size = 63) (hp : Sort.PermIn 0 64 (dkF tl z 63) d) (hs : Sort.SortedIn Sa.lt 0 64 d) : Mo z tl (catH d 64) (catT d 64) := by
  have hperm := perm_L ht hp
  have hstr := strict_L ht hp hs
  have hT := catT_L ht hp
  have hH := catH_L ht hp
  have hlen : (d.toList.filter ne).length = 63 := by rw [hperm.length_eq]; simp [xs]
  generalize d.toList.filter ne = L at *
  have hTs : (catT d 64).size = 63 := by rw [← Str.len_list, hT, List.length_map, hlen]
  have hHs : (catH d 64).size = ((L.map bb).filter nb).length := by rw [← Str.len_list, hH]
  have hbt : ∀ q (h : q < L.length), bt (catT d 64) q = ((bb L[q]).toNat : Int) := fun q h => by
    rw [Str.bt_list, hT, List.getD_eq_getElem?_getD, List.getElem?_map, List.getElem?_eq_getElem h]; rfl
  refine ⟨ht, hTs, ?_, fun i hi => ?_, fun k hk hd => ?_, ?_⟩
  · rw [hHs]
    have := List.length_filter_le nb (L.map bb)
    rw [List.length_map, hlen] at this
    exact this
  · have hm : X tl z i ∈ L := hperm.mem_iff.2 (List.mem_map.2 ⟨i, List.mem_range.2 hi, rfl⟩)
    obtain ⟨q, hq, hqe⟩ := List.getElem_of_mem hm
    have hr : rk z i 63 = q := by
      rw [rk_count tl, ← hperm.countP_eq, ← hqe]
      exact strict_pos L hstr q hq
    rw [hr]
    refine ⟨by omega, ?_⟩
    rw [hbt q hq, hqe, bb_bt]
    show bt (tl.extract i (i + 1)) 0 = bt tl i
    exact Str.bt_extract tl i (i + 1) 0 (by omega)
  · have hkl : k < (L.map bb).length := by rw [List.length_map, hlen]; exact hk
    have hcb : hc (catT d 64) k = ((L.map bb).take k).countP nb := by rw [hc_count _ k (by omega), hT]
    have hpk : nb (L.map bb)[k] = true := by
      rw [hbt k (by omega)] at hd
      unfold nb
      simp [hd]
    have hf := filter_at nb (L.map bb) k hkl hpk
    rw [← hcb] at hf
    have hlt : hc (catT d 64) k < ((L.map bb).filter nb).length := by
      rcases Nat.lt_or_ge (hc (catT d 64) k) ((L.map bb).filter nb).length with x | x
      · exact x
      · rw [List.getElem?_eq_none x] at hf; cases hf
    refine ⟨by rw [hHs]; exact hlt, ?_⟩
    rw [hbt k (by omega), Str.bt_list, hH, List.getD_eq_getElem?_getD, hf]
    simp
  · rw [hc_count _ 63 (by omega), hT, List.take_of_length_le (by rw [List.length_map, hlen]; exact Nat.le_refl _), hHs, List.countP_eq_length_filter]
end
end Go.Proofs.Ytfmeiljapojoiaa.Sn
