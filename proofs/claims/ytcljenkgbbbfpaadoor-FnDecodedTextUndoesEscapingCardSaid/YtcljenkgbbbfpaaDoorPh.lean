/-
  Contract of a law's own hexadecimal printer (zzPutHex): it pushes the digits, the greatest first. Conditions: the number is a scalar value, not 0; the buffer is the call's own.
-/
import Derived.Test.YtcljenkgbbbfpaaDoorAp
import Derived.Test.YtcljenkgbbbfpaaDoorDg
import Derived.WalkSpells
import Derived.Handy
namespace Go.Proofs.YtcljenkgbbbfpaaDoor.Ph
open Go.RowKit Mem Ap De Df Dg
set_option linter.unusedVariables false
structure Dq (wr : World) (up : Bool) (v : Int) (n : Nat) (x : Int) (wx : World) : Prop where
  n6 : n ≤ 6
  x0 : 0 ≤ x
  x1 : x < 16 ^ (6 - n)
  d : ∃ (d : List Int) (cs : Array Value), d.length = n ∧ dl up 6 v = d ++ dl up (6 - n) x ∧ Own wx wr.heap.size 91 cs ∧ cs.size = 8 ∧ ∀ i (h : i < d.length), cs[i]? = some (.int .u8 d[i])
  gr : wr.grownBy wx none
theorem dl_step (up : Bool) (n : Nat) (x : Int) (hn : n < 6) (hx : 0 < x) : dl up (6 - n) x = hd up (x % 16) :: dl up (6 - (n + 1)) (x / 16) := by
  rw [show 6 - n = (6 - (n + 1)) + 1 by omega, dl, if_pos hx]
theorem dl_zero (up : Bool) (n : Nat) (x : Int) (hx : x ≤ 0) : dl up n x = [] := by
  cases n with
  | zero => rfl
  | succ n => rw [dl, if_neg (by omega)]
theorem lt6 {n : Nat} {x : Int} (hn : n ≤ 6) (hx : 0 < x) (h : x < 16 ^ (6 - n)) : n < 6 := by
  by_cases e : n = 6
  · subst e; simp at h; omega
  · omega
theorem div16 {n : Nat} {x : Int} (hn : n < 6) (h : x < 16 ^ (6 - n)) : x / 16 < 16 ^ (6 - (n + 1)) := by
  rw [show 6 - n = (6 - (n + 1)) + 1 by omega, Int.pow_succ] at h
  omega
theorem x_le {n : Nat} {x : Int} (hn : n ≤ 6) (h : x < 16 ^ (6 - n)) : x ≤ 16777216 := by
  have h2 : (16 : Int) ^ (6 - n) ≤ 16 ^ 6 := by
    obtain e | e | e | e | e | e | e : n = 0 ∨ n = 1 ∨ n = 2 ∨ n = 3 ∨ n = 4 ∨ n = 5 ∨ n = 6 := by omega
    all_goals (subst e; decide)
  have h3 : (16 : Int) ^ 6 = 16777216 := by decide
  omega
theorem Dq.start (wr : World) (up : Bool) (v : Int) (h0 : 0 ≤ v) (h1 : v ≤ 1114111) (cs : Array Value) (hcs : cs.size = 8) : Dq wr up v 0 v (wr.alloc (.cells cs 91)) :=
  ⟨by omega, h0, by have : (16 : Int) ^ (6 - 0) = 16777216 := by decide
                    omega, ⟨[], cs, rfl, rfl, Own.new _ _ _, hcs, fun i h => absurd h (by simp)⟩, World.grownBy_alloc _ _ _⟩
theorem Dq.next {wr wx : World} {up : Bool} {v x : Int} {n : Nat} (h : Dq wr up v n x wx) (hx : 0 < x) : Dq wr up v (n + 1) (x / 16) (wx.setCell ⟨wr.heap.size, n, none⟩ (.int .u8 (hd up (x % 16)))) := by
  have hn := lt6 h.n6 hx h.x1
  obtain ⟨d, cs, e1, e2, e3, e4, e5⟩ := h.d
  refine ⟨by omega, by omega, div16 hn h.x1, ⟨d ++ [hd up (x % 16)], cs.setIfInBounds n (.int .u8 (hd up (x % 16))), by simp [e1], ?_, e3.set n _, by simpa using e4, ?_⟩, ?_⟩
  · rw [e2, dl_step up n x hn hx]; simp
  · intro i hi
    rw [List.length_append, List.length_singleton] at hi
    rw [Array.getElem?_setIfInBounds]
    by_cases e : n = i
    · subst e
      rw [if_pos rfl, if_pos (by omega)]
      rw [List.getElem_append_right (by omega)]
      simp [e1]
    · rw [if_neg e, List.getElem_append_left (by omega)]
      exact e5 i (by omega)
  · refine ⟨h.gr.os, h.gr.tape, h.gr.output, by rw [World.size_setCell]; exact h.gr.size, fun k hk hne => ?_⟩
    rw [Below.heap_setCell wx ⟨wr.heap.size, n, none⟩ _ k (by show k ≠ wr.heap.size; omega)]
    exact h.gr.block k hk hne
theorem kept_none {w w' : World} {B : Nat} {v : Value} {n : Nat} {xs : List Value} (h : w.ownsRow B 5 1 v n xs) (hg : w.grownBy w' none) : w'.ownsRow B 5 1 v n xs := h.kept hg (by cases v.ownBlock <;> simp)
theorem weaken {w w' : World} (h : w.grownBy w' none) (row : Option Nat) : w.grownBy w' row := ⟨h.os, h.tape, h.output, h.size, fun k hk _ => h.block k hk (by simp)⟩
theorem own_kept {wr wx w5 : World} {B : Nat} {v0 v : Value} {l : List Int} {cs : Array Value} {n : Nat} {xs : List Value} (h : Own wx wr.heap.size 91 cs) (hv : wr.ownsRow B 5 1 v0 n xs) (hb : Bf B wx v0.ownBlock v l w5) : Own w5 wr.heap.size 91 cs := by
  refine (hb.gr.block _ h.lt fun e => ?_).trans h
  have := (hv.lt _ e.symm).2
  omega
theorem back {w wx w2 : World} {B : Nat} {row : Option Nat} {v : Value} {l : List Int} (h : Bf B wx row v l w2) (hg : w.grownBy wx none) (hB : B ≤ w.heap.size) : Bf B w row v l w2 := by
  refine ⟨h.own, grown_trans (weaken hg row) h.gr (.inl rfl), ?_, hB⟩
  rcases h.blk with e | ⟨k, e, hk⟩
  · exact .inl e
  · exact .inr ⟨k, e, Nat.le_trans hg.size hk⟩
theorem drop_rev {d : List Int} {m : Nat} (hm : m < d.length) : (d.drop m).reverse = (d.drop (m + 1)).reverse ++ [d[m]] := by
  rw [← List.reverse_cons, ← List.drop_eq_getElem_cons hm]
set_option maxRecDepth 100000 in
set_option maxHeartbeats 8000000 in
theorem putHex (B : Nat) (v : Value) (l : List Int) (r : Int) (up : Bool) (w : World) (hown : w.ownsRow B 5 1 v l.length (bytesV l)) (hB : B ≤ w.heap.size) (hl : l.length ≤ 100000000) (h0 : 0 < r) (h1 : r ≤ 1114111) :
    Calls Tryd.prog 23 #[v, .int .i32 r, .bool up] w (Put B v l (dl up 6 r).reverse w) := by
  have HOWN := Lib.hid hown
  have hvlt := hown.lt
  have HVLT := Lib.hid hvlt
  clear hown hvlt
  go_enter Tryd.func23, Tryd.ntmps23
  go_wp2_with fail
  go_loopw [8, 9] (fun a x wx => ∃ (n : Nat) (xv : Int), a = .int .i64 n ∧ x = .int .i32 xv ∧ 0 < xv ∧ Hid (Dq w up r n xv wx)) (fun _ x _ => (intOf x).toNat)
  case atStart => exact ⟨0, r, rfl, rfl, h0, Lib.hid (Dq.start w up r (by omega) (by omega) _ rfl)⟩
  case round =>
    obtain ⟨n, xv, rfl, rfl, hx, HD⟩ := hrel
    have hxb := x_le HD.out.n6 HD.out.x1
    have hn6 := lt6 HD.out.n6 hx HD.out.x1
    obtain ⟨d0, cs0, e1, e2, e3, e4, e5⟩ := HD.out.d
    have hcl : ∃ u, wr.cell? ⟨w.heap.size, n, none⟩ = some u := by
      rw [e3.cell n]; exact ⟨_, Array.getElem?_eq_getElem (by omega)⟩
    obtain ⟨u, hcl⟩ := hcl
    have hfz := e3.frozen n
    have HDN := Lib.hid (HD.out.next hx)
    clear e1 e2 e3 e4 e5 HD
    have tn : decide ((n : Int) < 8) = true := decide_eq_true (by omega)
    have hn0 : (0 : Int) ≤ (n : Int) := by omega
    have hn1 : (n : Int) < 8 := by omega
    have b1 : bits .and .i32 xv 15 = xv % 16 := Bit.and_15 _ (by omega) (by omega)
    have hcase : (xv % 16 < 10 ∧ hd up (xv % 16) = 48 + xv % 16) ∨ (¬ xv % 16 < 10 ∧ up = true ∧ hd up (xv % 16) = 65 + xv % 16 - 10) ∨ (¬ xv % 16 < 10 ∧ up = false ∧ hd up (xv % 16) = 97 + xv % 16 - 10) := by
      unfold hd
      by_cases c : xv % 16 < 10
      · exact .inl ⟨c, if_pos c⟩
      · cases up
        · refine .inr (.inr ⟨c, rfl, ?_⟩); rw [if_neg c]; simp; omega
        · refine .inr (.inl ⟨c, rfl, ?_⟩); rw [if_neg c]; simp; omega
    have hmod0 : 0 ≤ xv % 16 := by omega
    have hmod1 : xv % 16 < 16 := by omega
    by_cases hz : xv / 16 = 0
    focus
      have tz : (xv / 16 == 0) = true := beq_iff_eq.2 hz
      have HZ := Lib.hid hz
      clear hz
      rcases hcase with ⟨c1, c2⟩ | ⟨c1, rfl, c2⟩ | ⟨c1, rfl, c2⟩
      all_goals
        rw [c2] at HDN
        first
          | have tc : decide (xv % 16 < 10) = true := decide_eq_true c1
          | have tc : decide (xv % 16 < 10) = false := decide_eq_false c1
        clear c1 c2
        go_wp2_with fail
    rotate_left 3
    focus
      have tz : (xv / 16 == 0) = false := beq_eq_false_iff_ne.2 hz
      rcases hcase with ⟨c1, c2⟩ | ⟨c1, rfl, c2⟩ | ⟨c1, rfl, c2⟩
      all_goals
        rw [c2] at HDN
        first
          | have tc : decide (xv % 16 < 10) = true := decide_eq_true c1
          | have tc : decide (xv % 16 < 10) = false := decide_eq_false c1
        clear c1 c2
        go_wp2_with fail
        go_roundw
        case rel => exact ⟨n + 1, xv / 16, by go_num, rfl, by omega, HDN⟩
        case measure => simp [intOf]; omega
    all_goals
      obtain ⟨d, cs, e1, e2, e3, e4, e5⟩ := HDN.out.d
      rw [dl_zero _ (6 - (n + 1)) (xv / 16) (by rw [HZ.out]; exact Int.le_refl _), List.append_nil] at e2
      have hng := HDN.out.gr
      have H1 := Lib.hid e1
      have H2 := Lib.hid e2
      have H3 := Lib.hid e3
      have H5 := Lib.hid e5
      have HB0 := Lib.hid (Bf.start (kept_none HOWN.out hng) (Nat.le_trans hB hng.size))
      have HGR := Lib.hid hng
      clear e1 e2 e3 e4 e5 hng HDN HZ hcl hfz
      generalize World.setCell _ _ _ = wx at *
      go_loopw [0, 8] (fun ve z wq => ∃ m : Nat, m ≤ n + 1 ∧ z = .int .i64 m ∧ Hid (Bf B wx v.ownBlock ve (l ++ (d.drop m).reverse) wq)) (fun _ z _ => (intOf z).toNat)
      case atStart => exact ⟨n + 1, Nat.le_refl _, by go_num, by rw [List.drop_of_length_le (by rw [H1.out]; exact Nat.le_refl _), List.reverse_nil, List.append_nil]; exact HB0⟩
      case round =>
        clear HB0
        obtain ⟨m, hm, rfl, HQ⟩ := hrel
        by_cases hm0 : 0 < m
        · obtain ⟨m', rfl⟩ : ∃ m', m = m' + 1 := ⟨m - 1, by omega⟩
          have em : (((m' + 1 : Nat) : Int) - 1) = (m' : Int) := by omega
          have em' : ((m' : Int) + 1 - 1) = (m' : Int) := by omega
          have hmd : m' < d.length := by rw [H1.out]; omega
          have hcd := (own_kept H3.out HOWN.out HQ.out).cell m'
          rw [H5.out m' hmd] at hcd
          have HDR := Lib.hid (drop_rev hmd)
          have hm0' : (0 : Int) ≤ (m' : Int) := by omega
          have hm1' : (m' : Int) < 8 := by omega
          have tm : decide ((0 : Int) < ((m' + 1 : Nat) : Int)) = true := decide_eq_true (by omega)
          have tm' : decide (0 < m' + 1) = true := decide_eq_true (by omega)
          have hml : (l ++ (d.drop (m' + 1)).reverse).length + 1 ≤ 140737488355328 := by
            have := H1.out
            rw [List.length_append, List.length_reverse, List.length_drop]; omega
          generalize d[m'] = c at *
          go_wp2_with (at_builtin; (refine push rfl _ _ rfl B wx _ _ _ _ _ rfl HQ.out (by rfl) hml ?_))
          intro v2 w2 hb2
          have HQ2 : Hid (Bf B wx v.ownBlock v2 (l ++ (d.drop m').reverse) w2) := Lib.hid (by rw [HDR.out]; simpa only [List.append_assoc] using hb2)
          clear hb2 HQ
          go_wp2_with fail
          go_roundw
          case rel => first | exact ⟨m', by omega, by go_num, HQ2⟩ | ((repeat apply Exists.intro); exact ⟨⟨m', by omega, by go_num, HQ2⟩, rfl⟩)
          case measure => first | (simp [intOf]; done) | (simp [intOf]; omega)
        · obtain rfl : m = 0 := by omega
          have HQ0 := HQ
          rw [List.drop_zero] at HQ0
          have tm : decide ((0 : Int) < ((0 : Nat) : Int)) = false := by decide
          clear HQ
          go_wp2_with fail
          go_ret
          exact ⟨_, rfl, by rw [H2.out]; exact back HQ0.out HGR.out hB⟩
end Go.Proofs.YtcljenkgbbbfpaaDoor.Ph
