/-
  Contracts for the law on wouldStartNumber. Conditions: sizes, and the two tables of unicode/utf8.
-/
import Derived.Test.YtojihophipgljaaDoorLx
import Derived.WalkKit
import Derived.WalkSpells
import Derived.Handy
import Derived.Lib.Hide
import Derived.Laws.RangeString
import Derived.Laws.RangeAny
namespace Go.Proofs.YtojihophipgljaaDoor.Wn
open Go.RowKit Go.PlainAid Str Mem Rws Lx
set_option linter.unusedVariables false
def dg (c : Int) : Bool := decide (48 ≤ c) && decide (c ≤ 57)
theorem dg_yes {c : Int} (h : 48 ≤ c ∧ c ≤ 57) : dg c = true := by simp [dg, h]
theorem dg_no {c : Int} (h : c < 48 ∨ 57 < c) : dg c = false := by simp [dg]; omega
theorem dg_ge {c : Int} (h : 48 ≤ c) : dg c = decide (c ≤ 57) := by simp [dg, h]
def at1 (s : ByteArray) (k : Nat) : Bool := decide (k < s.size) && dg (bt s k)
/-- wouldStartNumber's answer at code point cp and place cur. -/
def wn (s : ByteArray) (cp : Int) (cur : Nat) : Bool :=
  if dg cp then true else if cp = 46 then at1 s cur else if cp = 43 ∨ cp = 45 then (at1 s cur || (decide (cur < s.size) && decide (bt s cur = 46) && at1 s (cur + 1))) else false
theorem at1_eq {s : ByteArray} {k : Nat} (h : k < s.size) : at1 s k = dg (bt s k) := by simp [at1, h]
theorem at1_end {s : ByteArray} {k : Nat} (h : s.size ≤ k) : at1 s k = false := by simp [at1]; omega
theorem wn_yes {s : ByteArray} {cp : Int} {cur : Nat} (h : 48 ≤ cp ∧ cp ≤ 57) : wn s cp cur = true := by simp [wn, dg_yes h]
theorem wn_dot {s : ByteArray} {cp : Int} {cur : Nat} (h : cp = 46) : wn s cp cur = at1 s cur := by subst h; rfl
theorem wn_sign {s : ByteArray} {cp : Int} {cur : Nat} (h : cp = 43 ∨ cp = 45) : wn s cp cur = (at1 s cur || (decide (cur < s.size) && decide (bt s cur = 46) && at1 s (cur + 1))) := by rcases h with rfl | rfl <;> rfl
theorem wn_no {s : ByteArray} {cp : Int} {cur : Nat} (h : (cp < 48 ∨ 57 < cp) ∧ cp ≠ 46 ∧ cp ≠ 43 ∧ cp ≠ 45) : wn s cp cur = false := by
  unfold wn
  rw [dg_no h.1]
  simp [h.2.1, h.2.2.1, h.2.2.2]
set_option maxRecDepth 100000 in
set_option maxHeartbeats 8000000 in
theorem num26 (g : Nat) (s : ByteArray) (cur : Nat) (nl cp ts tl : Int) (cs : Array Value) (w : World) (h : LX w g s nl (cur : Int) cp ts tl cs) (hs : s.size ≤ 1048576) (hc : cur ≤ s.size) (hp0 : -1 ≤ cp) (hp1 : cp ≤ 2147483647) :
    Calls Tryd.prog 26 #[.pointer (some ⟨g, 0, none⟩)] w fun e w' => e = .returned (.bool (wn s cp cur)) ∧ w = w' := by
  have c10 := (h.own.cell 10).trans h.c10
  have c33 := (h.own.cell 33).trans h.c33
  have c35 := (h.own.cell 35).trans h.c35
  have hb := get_bt s
  clear h
  generalize hB : wn s cp cur = B
  have HB := Lib.hid hB
  clear hB
  go_enter Tryd.func26, Tryd.ntmps26
  go_wp2
  all_goals
    go_ret
    refine ⟨congrArg (fun b => Ending.returned (.bool b)) ?_, rfl⟩
    rw [← HB.out]
    clear hb c10 c33 c35 HB
    try simp only [beq_iff_eq, beq_eq_false_iff_ne, ne_eq] at *
    first
    | (have e1 : 48 ≤ cp ∧ cp ≤ 57 := by omega
       rw [wn_yes e1]
       done)
    | (have e1 : cp = 46 := by omega
       have e2 : s.size ≤ cur := by omega
       rw [wn_dot e1, at1_end e2]
       done)
    | (have e1 : cp = 46 := by omega
       have e2 : cur < s.size := by omega
       rw [wn_dot e1, at1_eq e2]
       first
       | (have e3 : bt s cur < 48 ∨ 57 < bt s cur := by omega
          rw [dg_no e3]
          done)
       | (have e3 : 48 ≤ bt s cur := by omega
          rw [dg_ge e3]
          done))
    | (have e1 : cp = 43 ∨ cp = 45 := by omega
       have e2 : s.size ≤ cur := by omega
       have e3 : decide (cur < s.size) = false := by simp; omega
       rw [wn_sign e1, at1_end e2, e3]
       rfl)
    | (have e1 : cp = 43 ∨ cp = 45 := by omega
       have e2 : cur < s.size := by omega
       have e3 : 48 ≤ bt s cur ∧ bt s cur ≤ 57 := by omega
       rw [wn_sign e1, at1_eq e2, dg_yes e3]
       rfl)
    | (have e1 : cp = 43 ∨ cp = 45 := by omega
       have e2 : cur < s.size := by omega
       have e3 : bt s cur < 48 ∨ 57 < bt s cur := by omega
       have e4 : bt s cur ≠ 46 := by omega
       rw [wn_sign e1, at1_eq e2, dg_no e3, decide_eq_false e4]
       simp
       done)
    | (have e1 : cp = 43 ∨ cp = 45 := by omega
       have e2 : cur < s.size := by omega
       have e3 : bt s cur < 48 ∨ 57 < bt s cur := by omega
       have e4 : bt s cur = 46 := by omega
       have e5 : s.size ≤ cur + 1 := by omega
       rw [wn_sign e1, at1_eq e2, dg_no e3, at1_end e5]
       simp
       done)
    | (have e1 : cp = 43 ∨ cp = 45 := by omega
       have e2 : cur < s.size := by omega
       have e3 : bt s cur < 48 ∨ 57 < bt s cur := by omega
       have e4 : bt s cur = 46 := by omega
       have e5 : cur + 1 < s.size := by omega
       rw [wn_sign e1, at1_eq e2, dg_no e3, at1_eq e5, decide_eq_true e4, decide_eq_true e2]
       first
       | (have e6 : bt s (cur + 1) < 48 ∨ 57 < bt s (cur + 1) := by omega
          rw [dg_no e6]
          rfl)
       | (have e6 : 48 ≤ bt s (cur + 1) := by omega
          rw [dg_ge e6]
          simp
          done))
    | (have e1 : (cp < 48 ∨ 57 < cp) ∧ cp ≠ 46 ∧ cp ≠ 43 ∧ cp ≠ 45 := by omega
       rw [wn_no e1]
       done)
theorem step11 (g : Nat) (s : ByteArray) (k : Nat) (nl cp ts tl : Int) (cs : Array Value) (w : World) (h : LX w g s nl (k : Int) cp ts tl cs) (hT : Lib.Utf8Tabs 0 1 w) (hw2 : 2 ≤ w.heap.size) (hs : s.size ≤ 1048576) (hk : k ≤ s.size) (hn0 : 0 ≤ nl) (hn1 : nl ≤ 1000000000) (ht0 : 0 ≤ ts) (ht1 : ts ≤ 1000000) :
    Calls Tryd.prog 11 #[.pointer (some ⟨g, 0, none⟩)] w (Lx.Stepped w g s k nl ts) := by
  go_enter Tryd.func11, Tryd.ntmps11
  go_wp2_with fail
  refine (step25 g s k nl cp ts tl cs _ h hT hw2 hs hk hn0 hn1 ht0 ht1).mono ?_
  rintro e w1 ⟨cs', nl', rfl, h2, h3, h4, h5⟩
  go_wp2_with fail
  go_end0
  exact ⟨cs', nl', rfl, h2, h3, h4, h5⟩
theorem num12 (g : Nat) (s : ByteArray) (cur : Nat) (nl cp ts tl : Int) (cs : Array Value) (w : World) (h : LX w g s nl (cur : Int) cp ts tl cs) (hs : s.size ≤ 1048576) (hc : cur ≤ s.size) (hp0 : -1 ≤ cp) (hp1 : cp ≤ 2147483647) :
    Calls Tryd.prog 12 #[.pointer (some ⟨g, 0, none⟩)] w fun e w' => e = .returned (.bool (wn s cp cur)) ∧ w = w' := by
  go_enter Tryd.func12, Tryd.ntmps12
  go_wp2_with fail
  refine (num26 g s cur nl cp ts tl cs _ h hs hc hp0 hp1).mono ?_
  rintro e w1 ⟨rfl, rfl⟩
  go_wp2_with fail
  go_ret
  exact ⟨rfl, rfl⟩
theorem dig13 (x : Int) (w : World) : Calls Tryd.prog 13 #[.int .u8 x] w fun e w' => e = .returned (.bool (dg x)) ∧ w = w' := by
  by_cases h1 : 48 ≤ x
  · have t1 : decide (48 ≤ x) = true := by simp [h1]
    have HD := Lib.hid (dg_ge h1)
    go_enter Tryd.func13, Tryd.ntmps13
    go_wp2
    go_ret
    exact ⟨by rw [HD.out]; rfl, rfl⟩
  · have t1 : decide (48 ≤ x) = false := by simp; omega
    have h2 : x < 48 ∨ 57 < x := by omega
    have HD := Lib.hid (dg_no h2)
    clear h2
    go_enter Tryd.func13, Tryd.ntmps13
    go_wp2
    go_ret
    exact ⟨by rw [HD.out]; rfl, rfl⟩
theorem cp_empty {s : ByteArray} (h : s.size = 0) : cpOf s 0 = -1 ∧ wdOf s 0 = 0 := by
  have e : (s.extract 0 s.size).size = 0 := by rw [size_extract]; omega
  unfold cpOf wdOf Lib.decodeGo
  rw [if_pos e]
  exact ⟨rfl, rfl⟩
theorem extract_all (s : ByteArray) : s.extract 0 s.size = s := bt_ext (by rw [size_extract]; omega) fun i hi => by rw [size_extract] at hi; rw [bt_extract _ _ _ _ (by omega), Nat.zero_add]
theorem cp_ascii {s : ByteArray} (h : 0 < s.size) (ha : bt s 0 < 128) : cpOf s 0 = bt s 0 ∧ wdOf s 0 = 1 := by
  have hb := bt_get s 0 h
  have e : Lib.decodeGo s = ((s[0]'h).toNat, 1) := by unfold Lib.decodeGo; rw [if_neg (by omega), decode_ascii s 0 h (by omega)]
  unfold cpOf wdOf
  rw [extract_all, e]
  exact ⟨hb.symm, rfl⟩
theorem cp_high {s : ByteArray} (h : 0 < s.size) (ha : 128 ≤ bt s 0) : 128 ≤ cpOf s 0 ∧ 1 ≤ wdOf s 0 := by
  have hb := bt_get s 0 h
  have hd := decode_high s 0 h (by omega)
  have e : Lib.decodeGo s = Utf8.decode s 0 := if_neg (by omega)
  unfold cpOf wdOf
  rw [extract_all, e, if_neg (by omega)]
  exact ⟨by omega, hd.2⟩
theorem cp_bounds (s : ByteArray) (k : Nat) (hk : k ≤ s.size) : -1 ≤ cpOf s k ∧ cpOf s k ≤ 2147483647 ∧ k + wdOf s k ≤ s.size := by
  have h := dec_bounds (s.extract k s.size)
  rw [size_extract] at h
  unfold cpOf wdOf
  refine ⟨?_, ?_, by omega⟩
  · split <;> omega
  · split <;> omega
end Go.Proofs.YtojihophipgljaaDoor.Wn
