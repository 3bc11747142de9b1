/-
  Proved: the law FnKeysStartWithDotFirstKeyDecides of folder n011_98 returns true for every argument that its parameter types allow, and leaves its arguments as they were; there is no further condition.
-/
import Derived.Test.YtnegfigjmjgknacRows
import Derived.WalkKit
import Derived.ProofKit
import Derived.OpenShut
import Derived.Below
import Derived.Carry
import Derived.ChangeMaps5
import Derived.Handy
import Derived.Lib.Hide
import Derived.WalkSpells
import Derived.OwnWalk
import Derived.Test.YtnegfigjmjgknacKs
namespace Go.Proofs.Ytnegfigjmjgknac.fnKeysStartWithDotFirstKeyDecides
open Go.ChangeShapes Go.WideShapes Go.ChangeAt Go.RowKit
set_option linter.unusedVariables false

theorem own : ownKnob Try.prog.godebug = none := by kernel_rfl
theorem laid : laidOutB Try.prog = true := by kernel_rfl
theorem readAll : (Try.f6.params.toList.all fun t => Try.prog.readableRec t && decide (t < Try.prog.types.size)) = true := by kernel_rfl
theorem readEach : ∀ t ∈ Try.f6.params.toList, Try.prog.readableRec t = true ∧ t < Try.prog.types.size := fun t ht => by
  have := List.all_eq_true.1 readAll t ht
  simpa using this
section
variable {H : Type} {enc : TypeId × Value → H} {P : Program}
theorem trodAll_stays (hl : laidOutB P = true) {W W' : World} (hb : Below W.heap.size W W') {sp : Nat → Bool} : ∀ {ts : List TypeId} {vs : List Value} {ds : List (DataW H)} {ps : List MemPlace},
    (∀ t ∈ ts, P.readableRec t = true ∧ t < P.types.size) → DataW.TrodAll enc P W 0 (fun _ => true) true ts vs ds ps → (∀ p ∈ ps, p.block < W.heap.size) → (∀ p ∈ ps, sp p.block = true) → DataW.TrodAll enc P W' 0 sp true ts vs ds ps
  | [], [], [], _, _, h, _, _ => h
  | _ :: _, _ :: _, _ :: _, _, hT, ⟨p, q, h1, h2, e⟩, hlt, hs =>
    ⟨p, q, WideElems.Trod_stays hl (hT _ (List.mem_cons.2 (Or.inl rfl))).1 (hT _ (List.mem_cons.2 (Or.inl rfl))).2 h1 (fun x hx => hb.same (hlt x (by rw [e]; exact List.mem_append_left _ hx))) (fun x hx => hs x (by rw [e]; exact List.mem_append_left _ hx)),
      trodAll_stays hl hb (fun t ht => hT t (List.mem_cons.2 (Or.inr ht))) h2 (fun x hx => hlt x (by rw [e]; exact List.mem_append_right _ hx)) (fun x hx => hs x (by rw [e]; exact List.mem_append_right _ hx)), e⟩

/-- A law's step: the result is true, the arguments are kept, the world has changed in new blocks alone. -/
theorem law_post {f : Func} {s : ChangeSpec} {apart fresh handsOn again : Bool} {W W' : World} {args : Array Value} {ds gs : List (DataW H)} {before : List MemPlace} {tb : TypeId}
    (hl : laidOutB P = true) (hps : ∀ t ∈ f.params.toList, P.readableRec t = true ∧ t < P.types.size) (hv : s.vars = []) (hr : f.resultTypes = #[tb]) (ht : P.underlying tb = some .bool)
    (hs : (s.fn H (ds ++ [])).results = [.lit (.bool true)] ∧ (s.fn H (ds ++ [])).args = ds ∧ (s.fn H (ds ++ [])).vars = [])
    (hW : DataW.Whole enc P f.params.toList s.vars apart W args.toList ds gs before) (hb : Below W.heap.size W W') :
    s.post enc P f apart fresh handsOn again W args (.bool true) W' := by
  have hlt : ∀ p ∈ before, p.block < W.heap.size := fun p hp => hW.lt p hp
  have hold : ∀ p ∈ before, (fun b => decide (b < W.heap.size)) p.block = true := fun p hp => by simpa using hlt p hp
  have hW0 := hW
  obtain ⟨pa, pv, hA, hV, rfl, hz, hn⟩ := hW
  rw [hv] at hV
  obtain ⟨rfl, rfl⟩ := trodVars_none hV
  have hres : ∀ (b : Nat) (sp : Nat → Bool) (hd : Bool), DataW.TrodAll enc P W' b sp hd f.resultTypes.toList ((Value.bool true).resultList f.resultTypes.size) (s.fn H (ds ++ [])).results [] := fun b sp hd => by
    rw [hs.1, hr]; exact trodAll_cons_mk (shut_bool ht _) trodAll_mk0
  have hargs : ∀ sp : Nat → Bool, (∀ p ∈ pa ++ [], sp p.block = true) → DataW.TrodAll enc P W' 0 sp true f.params.toList args.toList (s.fn H (ds ++ [])).args pa := fun sp hsp => by
    rw [hs.2.1]; exact trodAll_stays hl hb hps hA (fun p hp => hlt p (by simpa using hp)) (fun p hp => hsp p (by simpa using hp))
  have hvars : ∀ sp : Nat → Bool, DataW.TrodVars enc P W' sp s.vars (s.fn H (ds ++ [])).vars [] := fun sp => by rw [hv, hs.2.2]; rfl
  refine ⟨ds, [], pa ++ [], [], pa, [], hW0, hres _ _ _, hargs _ hold, hvars _, World.keptBut_mono (fun p hp => ⟨hp, Or.inr (List.mem_append.1 hp)⟩) (hb.frame (· ∈ pa ++ [])), fun _ => ?_⟩
  refine ⟨?_, _, _, ([] ++ pa) ++ [], ⟨[] ++ pa, [], trodAll_append (hargs _ (fun _ _ => rfl)) (hres _ _ _), hvars _, rfl, ?_, ?_⟩, ?_⟩
  · intro j t r h1 h2
    rw [hr] at h1 h2
    match j, h1, h2 with
    | 0, h1, h2 =>
      obtain rfl : tb = t := by simpa using h1
      obtain rfl : Value.bool true = r := by simpa [Value.resultList] using h2
      exact okWide_bool_mk ht _
    | j + 1, h1, _ => simp at h1
  · intro b off hp
    have hp' : MemPlace.cell b off ∈ pa ++ [] := by simpa using hp
    rw [hb.frozen (hlt _ hp')]
    exact hz b off hp'
  · intro ha
    simpa using hn ha
  · intro p hp _
    simpa using hp
end

open Go.PlainAid Str Mem Url Sz Ks
theorem mk_strs (n : Nat) (h : n ≤ 3000000) (x : Int) (hx : x = n) (w : World) : (Instr.makeSlice 22 (.int .i64 0) (.int .i64 x)).run Try.prog w = .ok (.slice (some ⟨w.heap.size, 0, none⟩) 0 n) (w.alloc (.cells (madeCells #[.string ⟨#[]⟩] (n * 1)) 9)) := by
  subst hx
  exact run_mkc (P := Try.prog) 22 9 _ _ rfl _ _ Try.underlying22 info9 0 n (by omega) (by omega) (by omega) w
theorem strs_one (S : Nat → ByteArray) (k : Nat) : ∀ u ∈ [Value.string (S k)], u.oneCell' = true := by
  intro u hu
  simp at hu
  subst hu
  rfl
def both (n : Nat) (S T : Nat → ByteArray) : Nat → ByteArray := fun j => if j < n then S j else T (j - n)
theorem both_lo {n : Nat} {S T : Nat → ByteArray} {k : Nat} (h : k < n) : both n S T k = S k := by simp [both, h]
theorem both_hi {n : Nat} {S T : Nat → ByteArray} {k : Nat} : both n S T (n + k) = T k := by simp only [both]; rw [if_neg (by omega)]; congr 1; omega
theorem cell_one_at (w : World) (v : Value) (t : TypeId) (b : Nat) (hb : w.heap.size = b) : ∀ j u, [v][j]? = some u → (w.alloc (.cells #[v] t)).cell? ((⟨b, 0, none⟩ : Addr).add j) = some u := by
  subst hb
  exact cell_one_new _ _ _
def led (p : ByteArray) (T : Nat → ByteArray) : Nat → ByteArray := fun j => if j = 0 then p else T (j - 1)
theorem led_zero (p : ByteArray) (T : Nat → ByteArray) : led p T 0 = p := rfl
theorem led_succ (p : ByteArray) (T : Nat → ByteArray) (k : Nat) : led p T (1 + k) = T k := by
  simp only [led]; rw [if_neg (by omega)]; congr 1; omega
theorem strsV_one (p : ByteArray) (T : Nat → ByteArray) : strsV (led p T) (1 + 0) = [] ++ [.string p] := by simp [strsV, led]
theorem strsV_led (p : ByteArray) (T : Nat → ByteArray) (k : Nat) : strsV (led p T) (1 + (k + 1)) = strsV (led p T) (1 + k) ++ [.string (T k)] := by
  rw [← Nat.add_assoc, strsV_succ, led_succ]
theorem one_str (s : ByteArray) : ∀ u ∈ [Value.string s], u.oneCell' = true := by
  intro u hu
  simp at hu
  subst hu
  rfl
theorem pre_of_append (p t q : ByteArray) (h : p = q) : preB (p ++ t) q = true := by
  subst h
  refine (preB_iff _ _).2 ⟨by rw [size_append]; omega, fun i hi => bt_append_left p t i hi⟩
theorem hash_not (t : ByteArray) : preB ((⟨#[35]⟩ : ByteArray) ++ t) pDot = false := by
  rw [← Bool.not_eq_true, preB_iff]
  intro h
  have h0 := h.2 0 (by decide)
  rw [bt_append_left _ _ _ (by decide)] at h0
  exact absurd h0 (by decide)
set_option maxRecDepth 100000 in
set_option maxHeartbeats 4000000 in
theorem walk (A0 : Option Addr) (n0 c0 : Nat) (S0 : Nat → ByteArray) (A1 : Option Addr) (n1 c1 : Nat) (S1 : Nat → ByteArray) (a2 : ByteArray) (w : World) (hA0 : Mem.Rd w w.heap.size 1 A0 n0 (fun j => .string (S0 j))) (hc0 : c0 ≤ maxLen) (hn0 : n0 ≤ c0) (hz0 : A0 = none → n0 = 0 ∧ c0 = 0) (hS0 : ∀ j, j < n0 → (S0 j).size ≤ maxLen) (hA1 : Mem.Rd w w.heap.size 1 A1 n1 (fun j => .string (S1 j))) (hc1 : c1 ≤ maxLen) (hn1 : n1 ≤ c1) (hz1 : A1 = none → n1 = 0 ∧ c1 = 0) (hS1 : ∀ j, j < n1 → (S1 j).size ≤ maxLen) (w2 : a2.size ≤ maxLen) :
    Calls Try.prog 6 #[.slice A0 n0 c0, .slice A1 n1 c1, .string a2] w fun e w' => e = .returned (.bool true) ∧ Below w.heap.size w w' := by
  have HA0 := Lib.hid hA0
  have HA1 := Lib.hid hA1
  have HS0 := Lib.hid hS0
  have HS1 := Lib.hid hS1
  have HZ0 := Lib.hid hz0
  have HZ1 := Lib.hid hz1
  have hN0 : n0 ≤ maxLen := Nat.le_trans hn0 hc0
  have hN1 : n1 ≤ maxLen := Nat.le_trans hn1 hc1
  clear hA0 hA1 hS0 hS1 hz0 hz1
  go_enter Try.func6, Try.ntmps6
  go_wp2_with fail
  refine (bytes24 A0 n0 c0 S0 A1 n1 c1 S1 a2 _ HA0.out hN0 HS0.out HA1.out hN1 HS1.out w2).mono ?_
  rintro e w' ⟨rfl, rfl⟩
  by_cases ht : (n0 + tot S0 n0) + (n1 + tot S1 n1) + a2.size ≤ 1048576
  · rw [szOk_yes ht]
    clear hN0 hN1 hc0 hc1 w2
    go_wp2_with fail
    refine (sum_any A0 n0 c0 S0 _ HA0.out (by omega)).mono ?_
    rintro e w' ⟨⟨N0, p0, q0, rfl⟩, rfl⟩
    go_wp2_with fail
    refine (sum_any A1 n1 c1 S1 _ HA1.out (by omega)).mono ?_
    rintro e w' ⟨⟨N1, p1, q1, rfl⟩, rfl⟩
    go_wp2_with fail
    · go_ret
      exact ⟨rfl, by go_grown⟩
    refine (clone_any A0 n0 c0 S0 _ HA0.out HZ0.out (by omega)).mono ?_
    rintro e w1 ⟨B0, d0, rfl, r0, z0, b0⟩
    have R0 := Lib.hid r0
    have Z0 := Lib.hid z0
    clear r0 z0
    go_wp2_with fail
    refine (clone_any A1 n1 c1 S1 _ (HA1.out.below b0 |>.mono b0.size) HZ1.out (by omega)).mono ?_
    rintro e w2 ⟨B1, d1, rfl, r1, z1, b1⟩
    have R1 := Lib.hid r1
    have R0' := Lib.hid ((R0.out.below b1).mono b1.size)
    have Z1 := Lib.hid z1
    clear r1 R0 z1
    have hmk := mk_strs (n0 + n1) (by omega) ((n0 : Int) + (n1 : Int)) (by omega)
    go_wp2_with fail
    have hw2 : Below w.heap.size w w2 := b0.trans (b1.mono b0.size)
    have hwz := hw2.size
    clear b0 b1 hmk HA0 HA1 HS0 HS1 HZ0 HZ1
    obtain ⟨i0, hi, hz0, hz1, hz2⟩ := info_parts info9
    go_loopw [7, 8] (fun v i wr => ∃ k : Nat, k ≤ n0 ∧ i = .int .i64 k ∧ v = .slice (some ⟨w2.heap.size, 0, none⟩) k (n0 + n1) ∧ wr.ownsRow w2.heap.size 9 1 (.slice (some ⟨w2.heap.size, 0, none⟩) k (n0 + n1)) k (strsV (both n0 S0 S1) k) ∧ Below w2.heap.size w2 wr) (fun _ i _ => n0 - (intOf i).toNat)
    case atStart => exact ⟨0, by omega, rfl, rfl, World.ownsRow_made w2 _ _ (Nat.le_refl _) (by unfold maxLen; omega) (by rw [size_madeCells, Nat.mul_one]), by go_grown⟩
    case round =>
      obtain ⟨k, hk, rfl, rfl, hown, hb⟩ := hrel
      by_cases hlt : k < n0
      · obtain ⟨b, off, rfl, hbb, hc⟩ := R0'.out (by omega)
        have hck := (hb.cell (p := ⟨b, off + k, none⟩) hbb).trans (hc k (by omega))
        have hsz := hb.size
        have hlt2 : k + 1 ≤ n0 + n1 := by omega
        clear hc
        have hq := Lib.hid (both_lo (S := S0) (T := S1) hlt)
        go_wp2_with (at_builtin; (refine wpList_append_fits _ rfl _ _ 22 rfl w2.heap.size 9 i0 1 Try.underlying22 hi hz1 w2.heap.size k (n0 + n1) _ rfl (hown.alloc _) ⟨wr.heap.size, 0, none⟩ 1 1 [.string (S0 k)] rfl rfl ?c1 (strs_one S0 k) hlt2 ?_))
        intro w3 hown3 hg3
        have hb3 : Below w2.heap.size w2 w3 := (hb.alloc hsz _).grown hg3 (by simp; omega) (by simp)
        have hown3' : w3.ownsRow w2.heap.size 9 1 (.slice (some ⟨w2.heap.size, 0, none⟩) (k + 1) (n0 + n1)) (k + 1) (strsV (both n0 S0 S1) (k + 1)) := by
          rw [strsV_succ, hq.out]; exact hown3
        have HO := Lib.hid hown3'
        clear hown3 hown3' hown hg3 hb hck
        go_wp2_with fail
        first
        | exact ⟨⟨k + 1, by omega, by go_num, rfl, HO.out, hb3⟩, by simp [intOf]; omega⟩
        | (refine ⟨?_, by simp [intOf]; omega⟩; (repeat apply Exists.intro); exact ⟨⟨k + 1, by omega, by go_num, rfl, HO.out, hb3⟩, rfl⟩)
      · obtain rfl : n0 = k := by omega
        go_wp2_with fail
        go_loopw [7, 9] (fun v i wr => ∃ k : Nat, k ≤ n1 ∧ i = .int .i64 k ∧ v = .slice (some ⟨w2.heap.size, 0, none⟩) (n0 + k) (n0 + n1) ∧ wr.ownsRow w2.heap.size 9 1 (.slice (some ⟨w2.heap.size, 0, none⟩) (n0 + k) (n0 + n1)) (n0 + k) (strsV (both n0 S0 S1) (n0 + k)) ∧ Below w2.heap.size w2 wr) (fun _ i _ => n1 - (intOf i).toNat)
        case atStart => exact ⟨0, by omega, rfl, rfl, hown, hb⟩
        case round =>
          clear hown hb
          obtain ⟨k, hk, rfl, rfl, hown, hb⟩ := hrel
          by_cases hlt : k < n1
          · obtain ⟨b, off, rfl, hbb, hc⟩ := R1.out (by omega)
            have hck := (hb.cell (p := ⟨b, off + k, none⟩) hbb).trans (hc k (by omega))
            have hsz := hb.size
            have hlt2 : n0 + k + 1 ≤ n0 + n1 := by omega
            clear hc
            have hq := Lib.hid (both_hi (n := n0) (S := S0) (T := S1) (k := k))
            go_wp2_with (at_builtin; (refine wpList_append_fits _ rfl _ _ 22 rfl w2.heap.size 9 i0 1 Try.underlying22 hi hz1 w2.heap.size (n0 + k) (n0 + n1) _ rfl (hown.alloc _) ⟨wr.heap.size, 0, none⟩ 1 1 [.string (S1 k)] rfl rfl ?c2 (strs_one S1 k) hlt2 ?_))
            intro w3 hown3 hg3
            have hb3 : Below w2.heap.size w2 w3 := (hb.alloc hsz _).grown hg3 (by simp; omega) (by simp)
            have hown3' : w3.ownsRow w2.heap.size 9 1 (.slice (some ⟨w2.heap.size, 0, none⟩) (n0 + (k + 1)) (n0 + n1)) (n0 + (k + 1)) (strsV (both n0 S0 S1) (n0 + (k + 1))) := by
              rw [← Nat.add_assoc, strsV_succ, hq.out]; exact hown3
            have HO := Lib.hid hown3'
            clear hown3 hown3' hown hg3 hb hck
            go_wp2_with fail
            first
            | exact ⟨⟨k + 1, by omega, by go_num, rfl, HO.out, hb3⟩, by simp [intOf]; omega⟩
            | (refine ⟨?_, by simp [intOf]; omega⟩; (repeat apply Exists.intro); exact ⟨⟨k + 1, by omega, by go_num, rfl, HO.out, hb3⟩, rfl⟩)
          · obtain rfl : n1 = k := by omega
            have HO := Lib.hid hown
            clear hown
            have hN : n0 + n1 ≤ 1048576 := by omega
            have hS' : 0 < n0 + n1 → (both n0 S0 S1 0).size ≤ maxLen := by
              intro hpos
              unfold maxLen
              by_cases h0 : 0 < n0
              · rw [both_lo h0]
                have := tot_at S0 h0
                omega
              · obtain rfl : n0 = 0 := by omega
                have := tot_at S1 (k := 0) (n := n1) (by omega)
                have e := both_hi (n := 0) (S := S0) (T := S1) (k := 0)
                rw [Nat.zero_add] at e
                rw [e]
                omega
            have HS' := Lib.hid hS'
            clear hS'
            have hw3 : Below w.heap.size w wr := hw2.trans (hb.mono hwz)
            have hsz := hb.size
            have RJ := Lib.hid (Rd.of_strs HO.out)
            have RK := Lib.hid ((R0'.out.below hb).mono hsz)
            have RM := Lib.hid ((R1.out.below hb).mono hsz)
            clear HO hb R0' R1
            by_cases hpos : 0 < n0
            focus
              go_wp2_with fail
              refine (dot_any _ (n0 + n1) _ (both n0 S0 S1) _ RJ.out (fun h => by cases h) (by omega) HS'.out).mono ?_
              rintro e w4 ⟨rfl, b4⟩
              go_wp2_with fail
              refine (dot_any _ n0 _ S0 _ ((RK.out.below b4).mono b4.size) Z0.out (by omega) ?_).mono ?_
              · intro _
                have := tot_at S0 hpos
                unfold maxLen
                omega
              rintro e wX ⟨rfl, b5⟩
              have heq : dotB (n0 + n1) (both n0 S0 S1) = dotB n0 S0 := by
                unfold dotB
                rw [both_lo hpos]
                simp [hpos]
                omega
              rw [heq]
              have hbne : (dotB n0 S0 != dotB n0 S0) = false := by simp
              have bX : Below wr.heap.size wr wX := b4.trans (b5.mono b4.size)
              clear b4 b5 heq
              go_wp2_with fail
              clear hbne
            rotate_left
            focus
              obtain rfl : n0 = 0 := by omega
              obtain ⟨wX, hX⟩ : ∃ wX, wX = wr := ⟨_, rfl⟩
              have bX : Below wr.heap.size wr wX := by rw [hX]; exact Below.refl _ _
              rw [← hX]
              clear hX
              go_wp2_with fail
            all_goals
              have hsX := bX.size
              have hwX : Below w.heap.size w wX := hw3.trans (bX.mono (by omega))
              have RMX := Lib.hid ((RM.out.below bX).mono hsX)
              clear RJ RK RM HS' hw3
              refine (dot_any none 0 0 (fun _ => ByteArray.empty) _ (Rd.zero _ _ _ _ _) (fun _ => ⟨rfl, rfl⟩) (by omega) (fun h => absurd h (by omega))).mono ?_
              rintro e w6 ⟨rfl, b6⟩
              rw [show dotB 0 (fun _ => ByteArray.empty) = false from rfl]
              go_wp2_with fail
              refine (dot_any _ 0 0 (fun _ => ByteArray.empty) _ (Rd.zero _ _ _ _ _) (fun _ => ⟨rfl, rfl⟩) (by omega) (fun h => absurd h (by omega))).mono ?_
              rintro e w7 ⟨rfl, b7⟩
              rw [show dotB 0 (fun _ => ByteArray.empty) = false from rfl]
              have h6 := b6.size
              have b67 : Below w6.heap.size w6 w7 := ((Below.refl _ _).alloc (Nat.le_refl _) _).trans (b7.mono (by simp))
              have h7 := b67.size
              have bX7 : Below wX.heap.size wX w7 := b6.trans (b67.mono h6)
              have hw7 : Below w.heap.size w w7 := hwX.trans (bX7.mono (by omega))
              have RM7 := Lib.hid ((RMX.out.below bX7).mono bX7.size)
              have hz7 := hw7.size
              clear b6 b67 b7 bX7 hwX RMX bX
              have hmk := mk_strs (1 + n1) (by omega) ((1 : Int) + (n1 : Int)) (by omega)
              have ownD := World.ownsRow_made (e := 9) (size := 1) (base := w7.heap.size) w7 (madeCells #[.string ⟨#[]⟩] (1 + n1)) (1 + n1) (Nat.le_refl _) (by unfold maxLen; omega) (by rw [size_madeCells, Nat.mul_one])
              have hcap : 0 + 1 ≤ 1 + n1 := by omega
              have hats : a2.size ≤ 1048576 := by omega
              go_wp2_with (at_builtin; (refine wpList_append_fits _ rfl _ _ 22 rfl w7.heap.size 9 i0 1 Try.underlying22 hi hz1 w7.heap.size 0 (1 + n1) _ rfl (ownD.alloc _) ⟨w7.heap.size + 1, 0, none⟩ 1 1 [.string ((⟨#[46]⟩ : ByteArray) ++ a2)] rfl rfl (cell_one_at _ _ _ _ (by simp)) (one_str _) hcap ?_))
              intro w8 ownD1 gD1
              have h8 : w7.heap.size + 2 ≤ w8.heap.size := by have := gD1.size; simp at this; omega
              have b78 : Below w7.heap.size w7 w8 := (((Below.refl _ _).alloc (Nat.le_refl _) _).alloc (by simp) _).grown gD1 (by simp; omega) (by simp)
              have OD := Lib.hid ownD1
              clear ownD1 ownD gD1
              have ownH := World.ownsRow_made (e := 9) (size := 1) (base := w7.heap.size) w8 (madeCells #[.string ⟨#[]⟩] (1 + n1)) (1 + n1) (by omega) (by unfold maxLen; omega) (by rw [size_madeCells, Nat.mul_one])
              go_wp2_with (at_builtin; (refine wpList_append_fits _ rfl _ _ 22 rfl w7.heap.size 9 i0 1 Try.underlying22 hi hz1 w8.heap.size 0 (1 + n1) _ rfl (ownH.alloc _) ⟨w8.heap.size + 1, 0, none⟩ 1 1 [.string ((⟨#[35]⟩ : ByteArray) ++ a2)] rfl rfl (cell_one_at _ _ _ _ (by simp)) (one_str _) hcap ?_))
              intro w9 ownH1 gH1
              have b89 : Below w8.heap.size w8 w9 := (((Below.refl _ _).alloc (Nat.le_refl _) _).alloc (by simp) _).grown gH1 (by simp; omega) (by simp)
              have OD9 := Lib.hid ((((OD.out.alloc _).alloc _).kept gH1 (Or.inr (by simp [Value.ownBlock]; omega))))
              have OH9 := Lib.hid ownH1
              have b79 : Below w7.heap.size w7 w9 := b78.trans (b89.mono (by omega))
              clear ownH1 ownH gH1 OD b78 b89 hmk
              go_wp2_with fail
              go_loopw [10, 11, 12] (fun v u i wr => ∃ k : Nat, k ≤ n1 ∧ i = .int .i64 k ∧ v = .slice (some ⟨w7.heap.size, 0, none⟩) (1 + k) (1 + n1) ∧ u = .slice (some ⟨w8.heap.size, 0, none⟩) (1 + k) (1 + n1) ∧
                wr.ownsRow w7.heap.size 9 1 (.slice (some ⟨w7.heap.size, 0, none⟩) (1 + k) (1 + n1)) (1 + k) (strsV (led ((⟨#[46]⟩ : ByteArray) ++ a2) S1) (1 + k)) ∧
                wr.ownsRow w7.heap.size 9 1 (.slice (some ⟨w8.heap.size, 0, none⟩) (1 + k) (1 + n1)) (1 + k) (strsV (led ((⟨#[35]⟩ : ByteArray) ++ a2) S1) (1 + k)) ∧ Below w7.heap.size w7 wr) (fun _ _ i _ => n1 - (intOf i).toNat)
              case atStart => exact ⟨0, by omega, rfl, rfl, rfl, by rw [strsV_one]; exact OD9.out, by rw [strsV_one]; exact OH9.out, b79⟩
              case round =>
                clear OD9 OH9 b79
                obtain ⟨k, hk, rfl, rfl, rfl, hD, hH, hb⟩ := hrel
                by_cases hlt : k < n1
                · obtain ⟨b, off, rfl, hbb, hc⟩ := RM7.out (by omega)
                  have hck := (hb.cell (p := ⟨b, off + k, none⟩) hbb).trans (hc k (by omega))
                  have hbz := hb.size
                  have hlt2 : 1 + k + 1 ≤ 1 + n1 := by omega
                  have hH' := Lib.hid hH
                  clear hH
                  go_wp2_with (at_builtin; (refine wpList_append_fits _ rfl _ _ 22 rfl w7.heap.size 9 i0 1 Try.underlying22 hi hz1 w7.heap.size (1 + k) (1 + n1) _ rfl (hD.alloc _) ⟨wr.heap.size, 0, none⟩ 1 1 [.string (S1 k)] rfl rfl (cell_one_at _ _ _ _ rfl) (one_str _) hlt2 ?_))
                  intro w10 hD10 g10
                  have b10 : Below w7.heap.size w7 w10 := (hb.alloc hbz _).grown g10 (by simp; omega) (by simp)
                  have hH10 := (hH'.out.alloc (.cells #[.string (S1 k)] 9)).kept g10 (Or.inr (by simp [Value.ownBlock]; omega))
                  have hck10 := (b10.cell (p := ⟨b, off + k, none⟩) hbb).trans (hc k (by omega))
                  have hbz10 := b10.size
                  have HD10 := Lib.hid hD10
                  have h89 : w8.heap.size < w10.heap.size := by
                    rcases hH10.form (by omega) with ⟨g, cap, hv, _, hlt9⟩
                    have : w8.heap.size = g := by have h0 := hv; simp at h0; exact h0.1
                    omega
                  clear hD10 hD hck hb hH' hc g10
                  go_wp2_with (at_builtin; (refine wpList_append_fits _ rfl _ _ 22 rfl w7.heap.size 9 i0 1 Try.underlying22 hi hz1 w8.heap.size (1 + k) (1 + n1) _ rfl (hH10.alloc _) ⟨w10.heap.size, 0, none⟩ 1 1 [.string (S1 k)] rfl rfl (cell_one_at _ _ _ _ rfl) (one_str _) hlt2 ?_))
                  intro w11 hH11 g11
                  have b11 : Below w7.heap.size w7 w11 := (b10.alloc hbz10 _).grown g11 (by simp; omega) (by simp; omega)
                  have hD11 := (HD10.out.alloc (.cells #[.string (S1 k)] 9)).kept g11 (Or.inr (by simp [Value.ownBlock]; omega))
                  have PD : Hid (w11.ownsRow w7.heap.size 9 1 (.slice (some ⟨w7.heap.size, 0, none⟩) (1 + (k + 1)) (1 + n1)) (1 + (k + 1)) (strsV (led ((⟨#[46]⟩ : ByteArray) ++ a2) S1) (1 + (k + 1)))) := by
                    refine Lib.hid ?_
                    rw [strsV_led]; exact hD11
                  have PH : Hid (w11.ownsRow w7.heap.size 9 1 (.slice (some ⟨w8.heap.size, 0, none⟩) (1 + (k + 1)) (1 + n1)) (1 + (k + 1)) (strsV (led ((⟨#[35]⟩ : ByteArray) ++ a2) S1) (1 + (k + 1)))) := by
                    refine Lib.hid ?_
                    rw [strsV_led]; exact hH11
                  clear hD11 hH11 HD10 hH10 b10 hck10 g11
                  go_wp2_with fail
                  first
                  | exact ⟨⟨k + 1, by omega, by go_num, rfl, rfl, PD.out, PH.out, b11⟩, by simp [intOf]; omega⟩
                  | (refine ⟨?_, by simp [intOf]; omega⟩; (repeat apply Exists.intro); exact ⟨⟨k + 1, by omega, by go_num, rfl, rfl, PD.out, PH.out, b11⟩, rfl⟩)
                · obtain rfl : n1 = k := by omega
                  have RD := Lib.hid (Rd.of_strs hD)
                  have RH := Lib.hid (Rd.of_strs hH)
                  have hwF := hw7.trans (hb.mono hz7)
                  clear hD hH hb RM7
                  have e1 : dotB (1 + n1) (led ((⟨#[46]⟩ : ByteArray) ++ a2) S1) = true := by
                    unfold dotB
                    rw [led_zero, pre_of_append (⟨#[46]⟩ : ByteArray) a2 pDot rfl]
                    simp only [Bool.and_true, decide_eq_true_eq]
                    omega
                  have e2 : dotB (1 + n1) (led ((⟨#[35]⟩ : ByteArray) ++ a2) S1) = false := by
                    unfold dotB
                    rw [led_zero, hash_not]
                    simp
                  have E1 := Lib.hid e1
                  have E2 := Lib.hid e2
                  clear e1 e2
                  go_wp2_with fail
                  refine (dot_any _ (1 + n1) _ (led ((⟨#[46]⟩ : ByteArray) ++ a2) S1) _ RD.out (fun h => by cases h) (by omega) (fun _ => by rw [led_zero, size_append]; show 1 + a2.size ≤ maxLen; unfold maxLen; omega)).mono ?_
                  rintro e wY ⟨rfl, bY⟩
                  rw [E1.out]
                  go_wp2_with fail
                  refine (dot_any _ (1 + n1) _ (led ((⟨#[35]⟩ : ByteArray) ++ a2) S1) _ ((RH.out.below bY).mono bY.size) (fun h => by cases h) (by omega) (fun _ => by rw [led_zero, size_append]; show 1 + a2.size ≤ maxLen; unfold maxLen; omega)).mono ?_
                  rintro e wZ ⟨rfl, bZ⟩
                  rw [E2.out]
                  go_wp2_with fail
                  go_ret
                  have hszF := hwF.size
                  exact ⟨rfl, (hwF.trans (bY.mono hszF)).trans (bZ.mono (Nat.le_trans hszF bY.size))⟩
  · rw [szOk_no ht]
    go_wp2_with fail
    go_ret
    exact ⟨rfl, by go_grown⟩

set_option maxRecDepth 100000 in
theorem lifted (os : Os) (started : os.Started) (H : Type) (enc : TypeId × Value → H) :
    ReturnsInHanded {} Try.checked os 6 .any (Rows.fnKeysStartWithDotFirstKeyDecidesSpec.pre6 enc Try.prog Try.f6 Rows.fnKeysStartWithDotFirstKeyDecidesRow.domain false) (Rows.fnKeysStartWithDotFirstKeyDecidesSpec.post enc Try.prog Try.f6 false true false false) := by
  refine returnsInHanded_of_change (C := Try.checked) own started (by kernel_rfl) Try.func6
    (ChangeSpec.witness6 (enc := enc) (C := Try.checked) false ⟨#[], #[.slice none 0 0, .slice none 0 0, .string ⟨#[]⟩], []⟩ 8 (by kernel_rfl) (by kernel_rfl) (by kernel_rfl) (by kernel_rfl)) ?_
  intro W base args ds gs before hval0 hW hcnd _
  have hval : ∀ (j : Nat) t v, Try.f6.params[j]? = some t → args[j]? = some v → Value.okWide Try.prog W .any base t v := hval0
  have hW' := hW
  obtain ⟨p, q, hA0, hV, rfl, hfz, hnd⟩ := hW
  have hA : DataW.TrodAll enc Try.prog W 0 (fun _ => true) true Try.f6.params.toList args.toList ds p := hA0
  rw [Try.params6] at hA hval
  obtain ⟨v0, vs0, d0, ds0, p0, q0, hargs0, rfl, rfl, h0, r0⟩ := trodAll_cons hA
  obtain ⟨v1, vs1, d1, ds1, p1, q1, hargs1, rfl, rfl, h1, r1⟩ := trodAll_cons r0
  obtain ⟨v2, vs2, d2, ds2, p2, q2, hargs2, rfl, rfl, h2, r2⟩ := trodAll_cons r1
  obtain ⟨rfl, rfl, rfl⟩ := trodAll_nil r2
  obtain rfl : args = #[v0, v1, v2] := by cases args; simp_all
  obtain ⟨A0, n0, c0, S0, rfl, hn0, hc0, hz0, hA0, hS0⟩ := Mem.open_strings Try.underlying22 Try.underlying9 (by kernel_rfl) (hval 0 22 v0 rfl rfl) h0
  obtain ⟨A1, n1, c1, S1, rfl, hn1, hc1, hz1, hA1, hS1⟩ := Mem.open_strings Try.underlying22 Try.underlying9 (by kernel_rfl) (hval 1 22 v1 rfl rfl) h1
  obtain ⟨a2, rfl, rfl, rfl, w2⟩ := Go.ChangeMaps.open_string Try.underlying9 (hval 2 9 v2 rfl rfl) h2
  clear hA0 hval0
  refine (walk A0 n0 c0 S0 A1 n1 c1 S1 a2 W hA0 hc0 hn0 hz0 hS0 hA1 hc1 hn1 hz1 hS1 w2).mono fun e W' ⟨he, hg⟩ => ?_
  subst he
  exact ⟨_, rfl, law_post laid readEach rfl rfl Try.underlying4 ⟨rfl, rfl, rfl⟩ hW' hg⟩

theorem over : Rows.fnKeysStartWithDotFirstKeyDecidesRow.holds Try.pinned (OpenSpec.ofChange Rows.fnKeysStartWithDotFirstKeyDecidesSpec) :=
  OpenClaim.holds_of_wide 6 Try.f6 rfl rfl rfl rfl rfl rfl rfl ⟨rfl, rfl, rfl, rfl, rfl⟩ rfl rfl rfl rfl rfl (by kernel_rfl) Try.func6 (by kernel_rfl)
    (of_decide_eq_true (by kernel_rfl)) (by unfold Func.isWrapper; first | (rw [if_pos (by decide +kernel)]; kernel_rfl) | (rw [if_neg (by decide +kernel)]; exact ⟨rfl, rfl⟩))
    (fun os started H enc _ => lifted os started H enc)

/-- The statement. -/
theorem proved : Rows.FnKeysStartWithDotFirstKeyDecidesSaid :=
  over
#print axioms proved
end Go.Proofs.Ytnegfigjmjgknac.fnKeysStartWithDotFirstKeyDecides
