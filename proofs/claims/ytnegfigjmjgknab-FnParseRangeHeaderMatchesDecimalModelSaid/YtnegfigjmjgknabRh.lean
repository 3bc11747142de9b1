/-
  Contracts for the law on range headers: parseRangeInt at every text, the law's own reader of range numbers. Conditions: sizes and ranges alone.
-/
import Derived.Test.YtnegfigjmjgknabRows
import Derived.Test.YtnegfigjmjgknabMem
import Derived.Test.YtnegfigjmjgknabStr
import Derived.Test.YtnegfigjmjgknabRp
import Derived.WalkKit
import Derived.WalkSpells
import Derived.Handy
import Derived.Lib.Hide
import Derived.Laws.BytesArg
import Derived.Laws.RangeString
import Derived.Laws.Slices
import Derived.Laws.RangeAny
import Derived.Deep.QuietTactic
import Derived.BigQuiet
namespace Go.Proofs.Ytnegfigjmjgknab.Rh
open Go.RowKit Go.PlainAid Str Mem It Rp
set_option linter.unusedVariables false
theorem vi {k : IntKind} {a b : Int} (h : a = b) : Value.int k a = .int k b := by rw [h]
theorem below_iter (w : World) (s : ByteArray) (k : Nat) : Below w.heap.size w (w.iter s k) := (Below.refl _ _).alloc (Nat.le_refl _) _
theorem emp_yes {s : ByteArray} (h : s.size = 0) : s.toList.isEmpty = true ∧ s.toList = [] := by
  have : s.toList.length = 0 := by rw [ByteArray.toList_eq]; simpa using h
  have e : s.toList = [] := List.length_eq_zero_iff.1 this
  exact ⟨by rw [e]; rfl, e⟩
theorem emp_no {s : ByteArray} (h : 0 < s.size) : s.toList.isEmpty = false := by
  have : s.toList.length = s.size := by rw [ByteArray.toList_eq]; simp
  cases h' : s.toList with
  | nil => rw [h'] at this; simp at this; omega
  | cons a b => rfl
def Got (t : ByteArray) (M : Int) (w : World) (e : Ending) (w' : World) : Prop :=
  Below w.heap.size w w' ∧ ((Rn t M ∧ e = .returned (.tuple #[.int .i64 (valF 0 (tl t)), .bool true])) ∨ (¬ Rn t M ∧ e = .returned (.tuple #[.int .i64 0, .bool false])))
set_option maxHeartbeats 2000000 in
theorem parse25 (t : ByteArray) (ht : t.size ≤ 1048576) (M : Int) (hM0 : -9000000000000000000 ≤ M + 223372036854775808) (hM1 : M ≤ 922337203685477578) (w : World) :
    Calls Try.prog 25 #[.string t, .int .i64 M] w (Got t M w) := by
  by_cases h0 : t.size = 0
  · have e1 := (emp_yes h0).1
    have e2 := (emp_yes h0).2
    have HN := Lib.hid (show ¬ Rn t M from fun h => by have := h.1; omega)
    have H0 := Lib.hid h0
    clear h0
    go_enter Try.func25, Try.ntmps25
    go_wp2
    go_ret2
    exact ⟨Below.refl _ _, .inr ⟨HN.out, rfl⟩⟩
  have hpos : 0 < t.size := by omega
  have e1 := emp_no hpos
  clear h0
  go_enter Try.func25, Try.ntmps25
  go_wp2
  go_loopw [6, 8] (fun v _ wr => ∃ k : Nat, k ≤ t.size ∧ v = .int .i64 (valF 0 ((tl t).take k)) ∧ 0 ≤ valF 0 ((tl t).take k) ∧ valF 0 ((tl t).take k) ≤ 922337203685477578 ∧ (k = 0 ∨ valF 0 ((tl t).take k) ≤ M) ∧ digs ((tl t).take k) ∧ wr = w.iter t k) (fun _ _ wr => t.size - wr.iterPos w.heap.size)
  case atStart => exact ⟨0, by omega, rfl, by simp [valF], by simp [valF], .inl rfl, (by intro d hd; simp at hd), rfl⟩
  case round =>
    obtain ⟨k, hk, rfl, v0, v1, vM, hdg, rfl⟩ := hrel
    have VM := Lib.hid vM
    have HDG := Lib.hid hdg
    clear vM hdg
    by_cases hlt : k < t.size
    · have hbk := bt_get t k hlt
      have b0 := bt_nonneg t k
      have b1 := bt_le t k
      by_cases hd : 48 ≤ bt t k ∧ bt t k ≤ 57
      · obtain ⟨d0, d1⟩ := hd
        have hnx := run_next_ascii (P := Try.prog) w t k 0 hlt (by omega)
        rw [← hbk] at hnx
        have HT := Lib.hid (tl_val hlt)
        have HDS := Lib.hid (take_digs_succ hlt HDG.out d0 d1)
        have hle0 := valF_mono 0 (by omega) _ HDS.out
        have HLE := Lib.hid (fun h : digs (tl t) => take_le (tl t) h (k + 1))
        clear hbk
        generalize hx : valF 0 ((tl t).take k) = x at *
        have HX := Lib.hid hx
        clear hx
        generalize hc : bt t k = c at *
        have HC := Lib.hid hc
        clear hc
        have t1 : decide (c < 48) = false := by simp; omega
        have t2 : decide (57 < c) = false := by simp; omega
        by_cases hcM : x * 10 + (c - 48) ≤ M
        · go_wp2
          exact ⟨⟨k + 1, by omega, vi HT.out.symm, by rw [HT.out]; omega, by rw [HT.out]; omega, .inr (by rw [HT.out]; exact hcM), HDS.out, rfl⟩, by simp only [World.iterPos_iter]; omega⟩
        · have HN : Hid (¬ Rn t M) := Lib.hid fun h => by
            have h1 := HLE.out h.2.1
            rw [HT.out] at h1
            have := h.2.2
            omega
          go_wp2
          go_ret2
          exact ⟨below_iter _ _ _, .inr ⟨HN.out, rfl⟩⟩
      · have HN : Hid (¬ Rn t M) := Lib.hid fun h => not_digs hlt (by omega) h.2.1
        obtain ⟨r, k', hnx, hr, hr0, hr1⟩ : ∃ (r : Nat) (k' : Nat), (Instr.next (.pointer (some ⟨w.heap.size, 0, none⟩)) true 0).run Try.prog (w.iter t k) = .ok (.tuple #[.bool true, .int .i64 k, .int .i32 (r : Int)]) (w.iter t k') ∧ (r < 48 ∨ 57 < r) ∧ 0 ≤ r ∧ r ≤ 2147483647 := by
          by_cases ha : (t[k]'hlt).toNat < 128
          · exact ⟨_, _, run_next_ascii (P := Try.prog) w t k 0 hlt ha, by omega, by omega, by omega⟩
          · have hh := decode_high t k hlt (by omega)
            exact ⟨_, _, run_next_any (P := Try.prog) w t k 0 hlt, by omega, by omega, decode_le t k⟩
        clear hbk hd b0 b1
        by_cases hr' : r < 48
        · have t1 : decide ((r : Int) < 48) = true := by simp; omega
          clear hr
          go_wp2
          go_ret2
          exact ⟨below_iter _ _ _, .inr ⟨HN.out, rfl⟩⟩
        · have t1 : decide ((r : Int) < 48) = false := by simp; omega
          have t2 : decide (57 < (r : Int)) = true := by simp; omega
          clear hr
          go_wp2
          go_ret2
          exact ⟨below_iter _ _ _, .inr ⟨HN.out, rfl⟩⟩
    · have hend := run_next_end (P := Try.prog) w t k 0 (by omega)
      obtain rfl : k = t.size := by omega
      have HX := Lib.hid (show valF 0 ((tl t).take t.size) = valF 0 (tl t) by rw [tl_take])
      have HN : Hid (Rn t M) := Lib.hid ⟨hpos, by have := HDG.out; rwa [tl_take] at this, by have := VM.out; rw [tl_take] at this; omega⟩
      clear VM HDG
      go_wp2
      go_ret2
      exact ⟨below_iter _ _ _, .inl ⟨HN.out, by rw [← HX.out]; rfl⟩⟩
theorem nums_bt (N : List Int) (hN : digs N) (k : Nat) (hk : k < N.length) : bt (strOfNums N) k = N[k] := by
  have hs := strOfNums_size N
  rw [bt_get _ k (by omega)]
  have hd := hN N[k] (List.getElem_mem hk)
  have e : (strOfNums N)[k]'(by omega) = UInt8.ofNat (N[k]).toNat := by
    have h1 : (strOfNums N)[k]'(by omega) = (strOfNums N).data.toList[k]'(by simpa using (by omega)) := rfl
    rw [h1]
    simp [strOfNums_data]
  rw [e]
  have : (UInt8.ofNat (N[k]).toNat).toNat = (N[k]).toNat := by rw [UInt8.toNat_ofNat']; omega
  rw [this]
  omega
/-- What is known of the text behind its leading zeros. -/
structure Cut (t : ByteArray) (s : Nat) (D : List Int) : Prop where
  lt : s < t.size
  eq : tl (t.extract s t.size) = D
  dg : digs D
  lead : Lead D
  val : valF 0 D = valF 0 (tl t)
theorem cut_of {t : ByteArray} {s : Nat} (hs : s < t.size) (hd : digs (tl t)) (hz : ∀ j, j < s → bt t j = 48) (he : s + 1 = t.size ∨ bt t s ≠ 48) : Cut t s ((tl t).drop s) where
  lt := hs
  eq := tl_extract t s (by omega)
  dg := fun x hx => hd x (List.mem_of_mem_drop hx)
  lead := by
    rcases he with he | he
    · left; rw [List.length_drop, tl_len]; omega
    · right
      refine ⟨_, _, List.drop_eq_getElem_cons (by rw [tl_len]; exact hs), ?_⟩
      have := hd _ (List.getElem_mem (show s < (tl t).length by rw [tl_len]; exact hs))
      rw [tl_get t s hs] at this ⊢
      omega
  val := zeros (by rw [tl_len]; omega) fun j hj h => by rw [tl_get t j (by omega)]; exact hz j hj
theorem dfacts {t : ByteArray} {s : Nat} (hs : s < t.size) (ht : t.size ≤ 1048576) (hd : digs (tl t)) (hz : ∀ j, j < s → bt t j = 48) (he : s + 1 = t.size ∨ bt t s ≠ 48) :
    (0 < (t.extract s t.size).size ∧ (t.extract s t.size).size ≤ 1048576) ∧ digs (tl (t.extract s t.size)) ∧ Lead (tl (t.extract s t.size)) ∧ valF 0 (tl (t.extract s t.size)) = valF 0 (tl t) := by
  have c := cut_of hs hd hz he
  refine ⟨by rw [size_extract]; omega, ?_⟩
  rw [c.eq]
  exact ⟨c.dg, c.lead, c.val⟩
theorem tl_nums (N : List Int) (hN : digs N) : tl (strOfNums N) = N := by
  have hs := strOfNums_size N
  refine List.ext_getElem (by rw [tl_len]; exact hs) fun k h1 h2 => ?_
  rw [tl_get _ _ (by omega), nums_bt N hN k h2]
theorem nfacts (M : Int) (h : 0 ≤ M) (h1 : M ≤ 922337203685477578) :
    (0 < (strOfNums (itD M)).size ∧ (strOfNums (itD M)).size ≤ 922337203685477580) ∧ digs (tl (strOfNums (itD M))) ∧ Lead (tl (strOfNums (itD M))) ∧ valF 0 (tl (strOfNums (itD M))) = M := by
  obtain ⟨a, b, c, d, e⟩ := itD_facts M h
  rw [strOfNums_size, tl_nums _ a]
  exact ⟨⟨d, by omega⟩, a, b, c⟩
set_option maxRecDepth 100000 in
set_option maxHeartbeats 4000000 in
theorem number26 (t : ByteArray) (ht : t.size ≤ 1048576) (M : Int) (hM0 : -9000000000000000000 ≤ M + 223372036854775808) (hM1 : M ≤ 922337203685477578) (w : World) :
    Calls Try.prog 26 #[.string t, .int .i64 M] w (Got t M w) := by
  by_cases h0 : t.size = 0
  · have HN := Lib.hid (show ¬ Rn t M from fun h => by have := h.1; omega)
    have t1 : ((t.size : Int) == 0) = true := by simp [h0]
    clear h0
    go_enter Try.func26, Try.ntmps26
    go_wp2
    go_ret2
    exact ⟨Below.refl _ _, .inr ⟨HN.out, rfl⟩⟩
  have t1 : ((t.size : Int) == 0) = false := by simp [h0]
  have hpos : 0 < t.size := by omega
  clear h0
  by_cases hMn : M < 0
  · have HN : Hid (¬ Rn t M) := Lib.hid fun h => by
      have := valF_mono 0 (by omega) _ h.2.1
      have := h.2.2
      omega
    have t2 : decide (M < 0) = true := by simp [hMn]
    go_enter Try.func26, Try.ntmps26
    go_wp2
    go_ret2
    exact ⟨Below.refl _ _, .inr ⟨HN.out, rfl⟩⟩
  have t2 : decide (M < 0) = false := by simp; omega
  have hM : 0 ≤ M := by omega
  clear hMn hM0
  have hgb := get_bt t
  go_enter Try.func26, Try.ntmps26
  go_wp2
  clear t1 t2
  go_loop [6] (fun i => ∃ k : Nat, k ≤ t.size ∧ i = .int .i64 k ∧ digs ((tl t).take k)) (fun i => t.size - (intOf i).toNat)
  case atStart => exact ⟨0, by omega, rfl, by intro d hd; simp at hd⟩
  case round =>
    obtain ⟨k, hk, rfl, hdg⟩ := hrel
    have HDG := Lib.hid hdg
    clear hdg
    by_cases hlt : k < t.size
    · have b0 := bt_nonneg t k
      have b1 := bt_le t k
      by_cases hd : 48 ≤ bt t k ∧ bt t k ≤ 57
      · obtain ⟨d0, d1⟩ := hd
        have HDS := Lib.hid (take_digs_succ hlt HDG.out d0 d1)
        have t1 : decide (bt t k < 48) = false := by simp; omega
        have t2 : decide (57 < bt t k) = false := by simp; omega
        go_wp2
        go_round
        case rel => exact ⟨k + 1, by omega, by go_num, HDS.out⟩
        case measure => simp [intOf]; omega
      · have HN : Hid (¬ Rn t M) := Lib.hid fun h => not_digs hlt (by omega) h.2.1
        by_cases hr' : bt t k < 48
        · have t1 : decide (bt t k < 48) = true := by simp; omega
          clear hd
          go_wp2
          go_ret2
          exact ⟨Below.refl _ _, .inr ⟨HN.out, rfl⟩⟩
        · have t1 : decide (bt t k < 48) = false := by simp; omega
          have t2 : decide (57 < bt t k) = true := by simp; omega
          clear hd
          go_wp2
          go_ret2
          exact ⟨Below.refl _ _, .inr ⟨HN.out, rfl⟩⟩
    · obtain rfl : k = t.size := by omega
      have HD : Hid (digs (tl t)) := Lib.hid (by have := HDG.out; rwa [tl_take] at this)
      clear HDG
      go_wp2
      go_loop [7] (fun i => ∃ s : Nat, s < t.size ∧ i = .int .i64 s ∧ ∀ j, j < s → bt t j = 48) (fun i => t.size - (intOf i).toNat)
      case atStart => exact ⟨0, hpos, rfl, by omega⟩
      case round =>
        obtain ⟨s, hs, rfl, hz⟩ := hrel
        have HZ := Lib.hid hz
        clear hz
        by_cases hgo : s + 1 < t.size ∧ bt t s = 48
        · obtain ⟨hs1, h48⟩ := hgo
          have t1 : (bt t s == 48) = true := by simp [h48]
          have H48 := Lib.hid h48
          clear h48
          go_wp2
          go_round
          case rel => exact ⟨s + 1, by omega, by go_num, fun j hj => by
            rcases Nat.lt_or_ge j s with h | h
            · exact HZ.out j h
            · obtain rfl : j = s := by omega
              exact H48.out⟩
          case measure => simp [intOf]; omega
        · have HDF := Lib.hid (dfacts hs ht HD.out HZ.out (by omega))
          have HNF := Lib.hid (nfacts M hM hM1)
          by_cases hs1 : s + 1 = t.size
          focus
            clear hgo
            go_wp2_with fail
          rotate_left
          focus
            have t1 : (bt t s == 48) = false := by
              have : bt t s ≠ 48 := by omega
              simpa using this
            clear hgo
            go_wp2_with fail
            clear t1
          all_goals
            clear hgb
            refine (itoa_any M (by omega) (by omega) _).mono ?_
            rintro e w1 ⟨rfl, hb1⟩
            generalize t.extract s t.size = ds at *
            generalize strOfNums (itD M) = ms at *
            have hz1 := hb1.size
            obtain ⟨hdp, hdl⟩ := HDF.out.1
            obtain ⟨hmp, hml⟩ := HNF.out.1
            have hgd := get_bt ds
            have hgm := get_bt ms
            have HB := Lib.hid hb1
            clear hb1
            rcases Nat.lt_trichotomy ds.size ms.size with hlt | heq | hgt
            focus
              have t1 : decide (ms.size < ds.size) = false := by simp; omega
              have t2 : ((ds.size : Int) == (ms.size : Int)) = false := by simp; omega
              have HR : Hid (Rn t M) := Lib.hid ⟨hpos, HD.out, by
                have := longer HNF.out.2.1 HDF.out.2.1 HNF.out.2.2.1 (by rw [tl_len]; exact hdp) (by rw [tl_len, tl_len]; exact hlt)
                rw [HDF.out.2.2.2, HNF.out.2.2.2] at this
                omega⟩
              go_wp2_with fail
              clear t1 t2
            rotate_left
            focus
              have t1 : decide (ms.size < ds.size) = false := by simp; omega
              have t2 : ((ds.size : Int) == (ms.size : Int)) = true := by simp; omega
              have HEQ := Lib.hid heq
              have hmd : ms.size ≤ ds.size := by omega
              clear heq
              go_wp2_with fail
              clear t1 t2
              go_loopw [10] (fun i wr => ∃ k : Nat, k ≤ ds.size ∧ i = .int .i64 k ∧ (tl ds).take k = (tl ms).take k ∧ Below w.heap.size w wr) (fun i _ => ds.size - (intOf i).toNat)
              case atStart => exact ⟨0, by omega, rfl, rfl, HB.out⟩
              case round =>
                clear HB
                obtain ⟨k, hk, rfl, hp, hb⟩ := hrel
                have HP := Lib.hid hp
                have HB := Lib.hid hb
                clear hp hb
                by_cases hlt : k < ds.size
                · have hlm : k < ms.size := by have := HEQ.out; omega
                  have hi0 : (0 : Int) ≤ (k : Int) := by omega
                  have hi1 : (k : Int) < (ds.size : Int) := by omega
                  have hi2 : (k : Int) < (ms.size : Int) := by omega
                  by_cases hne : bt ds k = bt ms k
                  · have t1 : (bt ds k != bt ms k) = false := by simp [hne]
                    have HP' : Hid ((tl ds).take (k + 1) = (tl ms).take (k + 1)) := Lib.hid (by
                      rw [List.take_succ_eq_append_getElem (by rw [tl_len]; exact hlt), List.take_succ_eq_append_getElem (by rw [tl_len]; exact hlm), HP.out, tl_get _ _ hlt, tl_get _ _ hlm, hne])
                    clear hne
                    go_wp2_with fail
                    go_quiet (fail)
                    go_wp2_with fail
                    exact ⟨⟨k + 1, by omega, by go_num, HP'.out, below_drewN HB.out _⟩, by simp [intOf]; omega⟩
                  · have t1 : (bt ds k != bt ms k) = true := by simp [hne]
                    rcases Int.lt_or_lt_of_ne hne with hl | hg
                    · have t2 : decide (bt ms k < bt ds k) = false := by simp; omega
                      have HR : Hid (Rn t M) := Lib.hid ⟨hpos, HD.out, by
                        have := first_diff HDF.out.2.1 HNF.out.2.1 (by rw [tl_len, tl_len]; exact HEQ.out) (i := k) (by rw [tl_len]; exact hlt) HP.out (by rw [tl_get _ _ hlt, tl_get _ _ hlm]; exact hl)
                        rw [HDF.out.2.2.2, HNF.out.2.2.2] at this
                        omega⟩
                      clear hne hl
                      go_wp2_with fail
                      go_quiet (fail)
                      go_wp2_with fail
                      go_quiet (fail)
                      go_wp2_with fail
                      clear t1 t2
                      have HVM : Hid (valF 0 (tl ds) ≤ M) := Lib.hid (by rw [HDF.out.2.2.2]; exact HR.out.2.2)
                      go_loop [11, 12] (fun v i => ∃ k : Nat, k ≤ ds.size ∧ i = .int .i64 k ∧ v = .int .i64 (valF 0 ((tl ds).take k)) ∧ 0 ≤ valF 0 ((tl ds).take k) ∧ valF 0 ((tl ds).take k) ≤ M) (fun _ i => ds.size - (intOf i).toNat)
                      case atStart => exact ⟨0, by omega, rfl, rfl, by simp [valF], by simpa [valF] using hM⟩
                      case round =>
                        obtain ⟨k', hk', rfl, rfl, v0, v1⟩ := hrel
                        by_cases hlt4 : k' < ds.size
                        · have HT := Lib.hid (tl_val hlt4)
                          have hd := HDF.out.2.1 _ (List.getElem_mem (show k' < (tl ds).length by rw [tl_len]; exact hlt4))
                          rw [tl_get _ _ hlt4] at hd
                          obtain ⟨d0, d1⟩ := hd
                          have hle := take_le (tl ds) HDF.out.2.1 (k' + 1)
                          rw [HT.out] at hle
                          have hle2 : valF 0 ((tl ds).take k') * 10 + (bt ds k' - 48) ≤ M := by have := HVM.out; omega
                          clear hle
                          generalize valF 0 ((tl ds).take k') = x at *
                          go_wp2_with fail
                          go_round
                          case rel => exact ⟨k' + 1, by omega, by go_num, by first | exact HT.out.symm | exact vi HT.out.symm, by rw [HT.out]; omega, by rw [HT.out]; omega⟩
                          case measure => simp [intOf]; omega
                        · obtain rfl : ds.size = k' := by omega
                          have HX := Lib.hid (show valF 0 ((tl ds).take ds.size) = valF 0 (tl t) by rw [tl_take, HDF.out.2.2.2])
                          clear v0 v1
                          go_wp2_with fail
                          go_ret2
                          exact ⟨below_drewN HB.out _, .inl ⟨HR.out, by rw [← HX.out]; rfl⟩⟩
                    · have t2 : decide (bt ms k < bt ds k) = true := by simp; omega
                      have HR : Hid (¬ Rn t M) := Lib.hid fun h => by
                        have := first_diff HNF.out.2.1 HDF.out.2.1 (by rw [tl_len, tl_len]; exact HEQ.out.symm) (i := k) (by rw [tl_len]; exact hlm) HP.out.symm (by rw [tl_get _ _ hlt, tl_get _ _ hlm]; exact hg)
                        rw [HDF.out.2.2.2, HNF.out.2.2.2] at this
                        have := h.2.2
                        omega
                      clear hne hg
                      go_wp2_with fail
                      go_quiet (fail)
                      go_wp2_with fail
                      go_quiet (fail)
                      go_wp2_with fail
                      go_ret2
                      exact ⟨below_drewN (below_drewN HB.out _) _, .inr ⟨HR.out, rfl⟩⟩
                · have HR : Hid (Rn t M) := Lib.hid ⟨hpos, HD.out, by
                    have e := HP.out
                    rw [List.take_of_length_le (by rw [tl_len]; omega), List.take_of_length_le (by rw [tl_len]; have := HEQ.out; omega)] at e
                    rw [← HDF.out.2.2.2, e, HNF.out.2.2.2]
                    exact Int.le_refl _⟩
                  go_wp2_with fail
                  have HVM : Hid (valF 0 (tl ds) ≤ M) := Lib.hid (by rw [HDF.out.2.2.2]; exact HR.out.2.2)
                  go_loop [11, 12] (fun v i => ∃ k : Nat, k ≤ ds.size ∧ i = .int .i64 k ∧ v = .int .i64 (valF 0 ((tl ds).take k)) ∧ 0 ≤ valF 0 ((tl ds).take k) ∧ valF 0 ((tl ds).take k) ≤ M) (fun _ i => ds.size - (intOf i).toNat)
                  case atStart => exact ⟨0, by omega, rfl, rfl, by simp [valF], by simpa [valF] using hM⟩
                  case round =>
                    obtain ⟨k', hk', rfl, rfl, v0, v1⟩ := hrel
                    by_cases hlt4 : k' < ds.size
                    · have HT := Lib.hid (tl_val hlt4)
                      have hd := HDF.out.2.1 _ (List.getElem_mem (show k' < (tl ds).length by rw [tl_len]; exact hlt4))
                      rw [tl_get _ _ hlt4] at hd
                      obtain ⟨d0, d1⟩ := hd
                      have hle := take_le (tl ds) HDF.out.2.1 (k' + 1)
                      rw [HT.out] at hle
                      have hle2 : valF 0 ((tl ds).take k') * 10 + (bt ds k' - 48) ≤ M := by have := HVM.out; omega
                      clear hle
                      generalize valF 0 ((tl ds).take k') = x at *
                      go_wp2_with fail
                      go_round
                      case rel => exact ⟨k' + 1, by omega, by go_num, vi HT.out.symm, by rw [HT.out]; omega, by rw [HT.out]; omega⟩
                      case measure => simp [intOf]; omega
                    · obtain rfl : ds.size = k' := by omega
                      have HX := Lib.hid (show valF 0 ((tl ds).take ds.size) = valF 0 (tl t) by rw [tl_take, HDF.out.2.2.2])
                      clear v0 v1
                      go_wp2_with fail
                      go_ret2
                      exact ⟨HB.out, .inl ⟨HR.out, by rw [← HX.out]; rfl⟩⟩
            focus
              have t1 : decide (ms.size < ds.size) = true := by simp; omega
              have HR : Hid (¬ Rn t M) := Lib.hid fun h => by
                have := longer HDF.out.2.1 HNF.out.2.1 HDF.out.2.2.1 (by rw [tl_len]; exact hmp) (by rw [tl_len, tl_len]; exact hgt)
                rw [HDF.out.2.2.2, HNF.out.2.2.2] at this
                have := h.2.2
                omega
              go_wp2_with fail
              go_ret2
              exact ⟨HB.out, .inr ⟨HR.out, rfl⟩⟩
            have HVM : Hid (valF 0 (tl ds) ≤ M) := Lib.hid (by rw [HDF.out.2.2.2]; exact HR.out.2.2)
            go_loop [11, 12] (fun v i => ∃ k : Nat, k ≤ ds.size ∧ i = .int .i64 k ∧ v = .int .i64 (valF 0 ((tl ds).take k)) ∧ 0 ≤ valF 0 ((tl ds).take k) ∧ valF 0 ((tl ds).take k) ≤ M) (fun _ i => ds.size - (intOf i).toNat)
            case atStart => exact ⟨0, by omega, rfl, rfl, by simp [valF], by simpa [valF] using hM⟩
            case round =>
              obtain ⟨k', hk', rfl, rfl, v0, v1⟩ := hrel
              by_cases hlt4 : k' < ds.size
              · have HT := Lib.hid (tl_val hlt4)
                have hd := HDF.out.2.1 _ (List.getElem_mem (show k' < (tl ds).length by rw [tl_len]; exact hlt4))
                rw [tl_get _ _ hlt4] at hd
                obtain ⟨d0, d1⟩ := hd
                have hle := take_le (tl ds) HDF.out.2.1 (k' + 1)
                rw [HT.out] at hle
                have hle2 : valF 0 ((tl ds).take k') * 10 + (bt ds k' - 48) ≤ M := by have := HVM.out; omega
                clear hle
                generalize valF 0 ((tl ds).take k') = x at *
                go_wp2_with fail
                go_round
                case rel => exact ⟨k' + 1, by omega, by go_num, vi HT.out.symm, by rw [HT.out]; omega, by rw [HT.out]; omega⟩
                case measure => simp [intOf]; omega
              · obtain rfl : ds.size = k' := by omega
                have HX := Lib.hid (show valF 0 ((tl ds).take ds.size) = valF 0 (tl t) by rw [tl_take, HDF.out.2.2.2])
                clear v0 v1
                go_wp2_with fail
                go_ret2
                exact ⟨HB.out, .inl ⟨HR.out, by rw [← HX.out]; rfl⟩⟩
end Go.Proofs.Ytnegfigjmjgknab.Rh
