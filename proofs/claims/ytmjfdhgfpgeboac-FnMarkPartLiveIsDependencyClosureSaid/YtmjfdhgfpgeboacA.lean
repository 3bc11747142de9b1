/-
  Proved: the law FnMarkPartLiveIsDependencyClosure of folder n011_188 returns true for every argument that its parameter types allow, and leaves its arguments as they were; there is no further condition.
-/
import Derived.Test.YtmjfdhgfpgeboacRows
import Derived.WalkKit
import Derived.ProofKit
import Derived.OpenShut
import Derived.Below
import Derived.Carry
import Derived.ChangeMaps5
import Derived.Handy
import Derived.Lib.Hide
import Derived.WalkSpells
import Derived.OwnWalk
import Derived.Deep.CutRange
import Derived.Deep.QuietTactic
import Derived.Test.YtmjfdhgfpgeboacGl
import Derived.Test.YtmjfdhgfpgeboacTy
import Derived.Test.YtmjfdhgfpgeboacJf
namespace Go.Proofs.Ytmjfdhgfpgeboac.fnMarkPartLiveIsDependencyClosure
open Go.ChangeShapes Go.WideShapes Go.ChangeAt Go.RowKit
set_option linter.unusedVariables false

theorem own : ownKnob Try.prog.godebug = none := by kernel_rfl
theorem laid : laidOutB Try.prog = true := by kernel_rfl
theorem readAll : (Try.f3.params.toList.all fun t => Try.prog.readableRec t && decide (t < Try.prog.types.size)) = true := by kernel_rfl
theorem readEach : ∀ t ∈ Try.f3.params.toList, Try.prog.readableRec t = true ∧ t < Try.prog.types.size := fun t ht => by
  have := List.all_eq_true.1 readAll t ht
  simpa using this
section
variable {H : Type} {enc : TypeId × Value → H} {P : Program}
theorem trodAll_stays (hl : laidOutB P = true) {W W' : World} (hb : Below W.heap.size W W') {sp : Nat → Bool} : ∀ {ts : List TypeId} {vs : List Value} {ds : List (DataW H)} {ps : List MemPlace},
    (∀ t ∈ ts, P.readableRec t = true ∧ t < P.types.size) → DataW.TrodAll enc P W 0 (fun _ => true) true ts vs ds ps → (∀ p ∈ ps, p.block < W.heap.size) → (∀ p ∈ ps, sp p.block = true) → DataW.TrodAll enc P W' 0 sp true ts vs ds ps
  | [], [], [], _, _, h, _, _ => h
  | _ :: _, _ :: _, _ :: _, _, hT, ⟨p, q, h1, h2, e⟩, hlt, hs =>
    ⟨p, q, WideElems.Trod_stays hl (hT _ (List.mem_cons.2 (Or.inl rfl))).1 (hT _ (List.mem_cons.2 (Or.inl rfl))).2 h1 (fun x hx => hb.same (hlt x (by rw [e]; exact List.mem_append_left _ hx))) (fun x hx => hs x (by rw [e]; exact List.mem_append_left _ hx)),
      trodAll_stays hl hb (fun t ht => hT t (List.mem_cons.2 (Or.inr ht))) h2 (fun x hx => hlt x (by rw [e]; exact List.mem_append_right _ hx)) (fun x hx => hs x (by rw [e]; exact List.mem_append_right _ hx)), e⟩

/-- A law's step: the result is true, the arguments are kept, the world has changed in new blocks alone. -/
theorem law_post {f : Func} {s : ChangeSpec} {apart fresh handsOn again : Bool} {W W' : World} {args : Array Value} {ds gs : List (DataW H)} {before : List MemPlace} {tb : TypeId}
    (hl : laidOutB P = true) (hps : ∀ t ∈ f.params.toList, P.readableRec t = true ∧ t < P.types.size) (hv : s.vars = []) (hr : f.resultTypes = #[tb]) (ht : P.underlying tb = some .bool)
    (hs : (s.fn H (ds ++ [])).results = [.lit (.bool true)] ∧ (s.fn H (ds ++ [])).args = ds ∧ (s.fn H (ds ++ [])).vars = [])
    (hW : DataW.Whole enc P f.params.toList s.vars apart W args.toList ds gs before) (hb : Below W.heap.size W W') :
    s.post enc P f apart fresh handsOn again W args (.bool true) W' := by
  have hlt : ∀ p ∈ before, p.block < W.heap.size := fun p hp => hW.lt p hp
  have hold : ∀ p ∈ before, (fun b => decide (b < W.heap.size)) p.block = true := fun p hp => by simpa using hlt p hp
  have hW0 := hW
  obtain ⟨pa, pv, hA, hV, rfl, hz, hn⟩ := hW
  rw [hv] at hV
  obtain ⟨rfl, rfl⟩ := trodVars_none hV
  have hres : ∀ (b : Nat) (sp : Nat → Bool) (hd : Bool), DataW.TrodAll enc P W' b sp hd f.resultTypes.toList ((Value.bool true).resultList f.resultTypes.size) (s.fn H (ds ++ [])).results [] := fun b sp hd => by
    rw [hs.1, hr]; exact trodAll_cons_mk (shut_bool ht _) trodAll_mk0
  have hargs : ∀ sp : Nat → Bool, (∀ p ∈ pa ++ [], sp p.block = true) → DataW.TrodAll enc P W' 0 sp true f.params.toList args.toList (s.fn H (ds ++ [])).args pa := fun sp hsp => by
    rw [hs.2.1]; exact trodAll_stays hl hb hps hA (fun p hp => hlt p (by simpa using hp)) (fun p hp => hsp p (by simpa using hp))
  have hvars : ∀ sp : Nat → Bool, DataW.TrodVars enc P W' sp s.vars (s.fn H (ds ++ [])).vars [] := fun sp => by rw [hv, hs.2.2]; rfl
  refine ⟨ds, [], pa ++ [], [], pa, [], hW0, hres _ _ _, hargs _ hold, hvars _, World.keptBut_mono (fun p hp => ⟨hp, Or.inr (List.mem_append.1 hp)⟩) (hb.frame (· ∈ pa ++ [])), fun _ => ?_⟩
  refine ⟨?_, _, _, ([] ++ pa) ++ [], ⟨[] ++ pa, [], trodAll_append (hargs _ (fun _ _ => rfl)) (hres _ _ _), hvars _, rfl, ?_, ?_⟩, ?_⟩
  · intro j t r h1 h2
    rw [hr] at h1 h2
    match j, h1, h2 with
    | 0, h1, h2 =>
      obtain rfl : tb = t := by simpa using h1
      obtain rfl : Value.bool true = r := by simpa [Value.resultList] using h2
      exact okWide_bool_mk ht _
    | j + 1, h1, _ => simp at h1
  · intro b off hp
    have hp' : MemPlace.cell b off ∈ pa ++ [] := by simpa using hp
    rw [hb.frozen (hlt _ hp')]
    exact hz b off hp'
  · intro ha
    simpa using hn ha
  · intro p hp _
    simpa using hp
end

open Go.PlainAid Mem Ho Rws Orw Dg Fs Ga Gb Gc Fil Gd Ge Gf Gg Gh Gi Gj Gk Gl Go.Proofs
set_option linter.unusedSimpArgs false
theorem wp_buildc {P : Program} {o : Oper} {a : Act} {w : World} {K : Act → World → Prop} {Q : Exit → Act → World → Prop} (t : TypeId) (parts : Array (Nat × Operand)) (ho : o.op = .build t parts) (cells : Array Value)
    (hf : P.built t (parts.map fun (i, x) => (i, a.eval x)).toList = some cells) (h : K (a.put o.dst (.agg cells)) w) : o.wp P a w K Q := by
  refine wp_build t parts ho (by rw [hf]; rfl) ?_
  rw [hf]; exact h
def opts : Array Value := #[.pointer none, .int .i32 0, .int .i32 0, .int .u8 0, .pointer none, .pointer none, .pointer none, .pointer none, .pointer none, .nilFunc, .string ⟨#[]⟩, .slice none 0 0, .slice none 0 0, .slice none 0 0, .slice none 0 0, .slice none 0 0, .map none, .slice none 0 0, .map none, .slice none 0 0, .bool false, .map none, .string ⟨#[]⟩, .string ⟨#[]⟩, .string ⟨#[]⟩, .string ⟨#[]⟩, .string ⟨#[]⟩, .slice none 0 0, .string ⟨#[]⟩, .string ⟨#[]⟩, .map none, .string ⟨#[]⟩, .slice none 0 0, .slice none 0 0, .slice none 0 0, .string ⟨#[]⟩, .string ⟨#[]⟩, .string ⟨#[]⟩, .string ⟨#[]⟩, .slice none 0 0, .slice none 0 0, .slice none 0 0, .slice none 0 0, .string ⟨#[]⟩, .pointer none, .nilIface, .slice none 0 0, .int .u32 0, .nilIface, .slice none 0 0, .int .u32 0, .bool false, .bool false, .bool false, .string ⟨#[]⟩, .bool false, .bool false, .int .i64 0, .map none, .int .u64 0, .int .u16 0, .int .u64 0, .int .u64 0, .int .u16 0, .int .u16 0, .int .u8 0, .int .u8 0, .int .u8 0, .int .u8 0, .int .u8 0, .int .u8 0, .bool false, .bool false, .int .u8 0, .bool false, .bool false, .bool false, .bool false, .bool false, .bool false, .bool false, .bool false, .int .u8 0, .int .u8 0, .int .u8 0, .int .u8 0, .int .u8 0, .bool false, .int .u8 0, .bool false, .bool false, .bool false, .bool false, .bool false, .bool true, .bool false, .bool false, .int .u8 0, .int .u8 0, .bool false, .int .u8 0, .bool false]
set_option maxRecDepth 10000000 in
set_option maxHeartbeats 40000000 in
theorem walk (A0 : Option Addr) (n0 c0 : Nat) (F0 : Nat → Fs.Fl) (a1 b1 : Nat) (w : World) (hA0 : Fs.Src w A0 n0 F0) (hc0 : c0 ≤ maxLen) (hn0 : n0 ≤ c0) (hz0 : A0 = none → n0 = 0 ∧ c0 = 0) (w1 : a1 < 4294967296) (x1 : b1 < 4294967296) :
    Calls Try.prog 3 #[.slice A0 n0 c0, .agg #[.int .u32 (a1 : Int), .int .u32 (b1 : Int)]] w fun e w' => e = .returned (.bool true) ∧ Below w.heap.size w w' := by
  have HS := Lib.hid hA0
  have HZ := Lib.hid hz0
  have hnm : n0 ≤ maxLen := Nat.le_trans hn0 hc0
  clear hA0 hz0 hn0 hc0
  go_enter Try.func3, Try.ntmps3
  go_upto_region 1 with fail
  generalize hW : w.alloc _ = W
  have HB := Lib.hid (show Below w.heap.size w W by rw [← hW]; exact (Below.refl _ _).alloc (Nat.le_refl _) _)
  have ho : Own W w.heap.size 25 #[.int .u32 (a1 : Int), .int .u32 (b1 : Int)] := by rw [← hW]; exact Own.new _ _ _
  have s0 : W.cell? ⟨w.heap.size, 0, none⟩ = some (.int .u32 (a1 : Int)) := (ho.cell 0).trans rfl
  have s1 : W.cell? ⟨w.heap.size, 1, none⟩ = some (.int .u32 (b1 : Int)) := (ho.cell 1).trans rfl
  have HO := Lib.hid ho
  clear hW ho
  go_wp2_with fail
  refine (zz4 A0 n0 c0 F0 a1 b1 W (HS.out.below HB.out) hnm).mono ?_
  rintro e v1 ⟨hb1, bz, rfl, hok⟩
  have HB1 := Lib.hid (HB.out.trans (hb1.mono HB.out.size))
  have HO1 := Lib.hid (HO.out.below hb1 HO.out.lt)
  cases bz with
  | false =>
    go_wp2_with fail
    go_ret
    exact ⟨rfl, HB1.out⟩
  | true =>
    have hN := hok rfl
    have hn1 : n0 ≤ 1048576 := by omega
    have HNP : Hid (∀ i, i < n0 → (F0 i).np ≤ 1048576) := Lib.hid (fun i hi => by have := sp_le F0 n0 i hi; omega)
    have HND : Hid (∀ i, i < n0 → ∀ j, j < (F0 i).np → ((F0 i).pt j).nd ≤ 1048576) := Lib.hid (fun i hi j hj => by have := sp_le F0 n0 i hi; have := sd_le (F0 i) (F0 i).np j hj; omega)
    clear hok hb1 s0 s1 HO
    go_wp2_with fail
    refine (bytes5 A0 n0 c0 F0 v1 (HS.out.below HB1.out) hn1 HNP.out).mono ?_
    rintro e v2 ⟨⟨y1, rfl⟩, hb2⟩
    have HB2 := Lib.hid (HB1.out.trans (hb2.mono HB1.out.size))
    have HO2 := Lib.hid (HO1.out.below hb2 HO1.out.lt)
    clear hb2 HO1 HB1
    rcases Bool.eq_false_or_eq_true (decide ((1048576 : Int) < y1)) with t0 | t0
    · go_wp2_with fail
      go_ret
      exact ⟨rfl, HB2.out⟩
    · go_wp2_with fail
      refine (valid6 A0 n0 c0 F0 v2 (HS.out.below HB2.out) hn1 HNP.out HND.out).mono ?_
      rintro e v3 ⟨hb3, bv, rfl, hv⟩
      have HB3 := Lib.hid (HB2.out.trans (hb3.mono HB2.out.size))
      have ho3 := HO2.out.below hb3 HO2.out.lt
      have s0 : v3.cell? ⟨w.heap.size, 0, none⟩ = some (.int .u32 (a1 : Int)) := (ho3.cell 0).trans rfl
      have s1 : v3.cell? ⟨w.heap.size, 1, none⟩ = some (.int .u32 (b1 : Int)) := (ho3.cell 1).trans rfl
      have HO3 := Lib.hid ho3
      clear hb3 ho3 HO2 t0
      cases bv with
      | false =>
        go_wp2_with fail
        go_ret
        exact ⟨rfl, HB3.out⟩
      | true =>
        have HV := Lib.hid (hv rfl)
        clear hv
        go_wp2_with fail
        refine (depok7 A0 n0 c0 F0 a1 b1 v3 (HS.out.below HB3.out) hnm (fun i hi => by have := HNP.out i hi; unfold maxLen; omega) w1 x1).mono ?_
        rintro e v4 ⟨rfl, hb4⟩
        have HB4 := Lib.hid (HB3.out.trans (hb4.mono HB3.out.size))
        have ho4 := HO3.out.below hb4 HO3.out.lt
        have HO4 := Lib.hid ho4
        clear hb4 ho4 HO3 s0 s1
        cases hok : okD n0 F0 a1 b1 with
        | false =>
          go_wp2_with fail
          go_ret
          exact ⟨rfl, HB4.out⟩
        | true =>
          have HOK := Lib.hid hok
          clear hok
          go_wp2_with fail
          refine (clone8 A0 n0 c0 F0 v4 (HS.out.below HB4.out) HZ.out hn1 HNP.out HND.out).mono ?_
          rintro e v5 ⟨A, c, F, rfl, hs5, hg5, hb5⟩
          have HS5 := Lib.hid hs5
          have HG5 := Lib.hid hg5
          have HB5 := Lib.hid (HB4.out.trans (hb5.mono HB4.out.size))
          have HO5 := Lib.hid (HO4.out.below hb5 HO4.out.lt)
          clear hs5 hg5 hb5 HO4
          have HF5 := Lib.hid (And.intro (show n0 + sp F n0 ≤ 1048576 by rw [sp_gr HG5.out]; exact hN) (And.intro (valid_gr HG5.out HV.out) (show okD n0 F a1 b1 = true by rw [okD_gr HG5.out]; exact HOK.out)))
          have HNP5 : Hid (∀ i, i < n0 → (F i).np ≤ 1048576) := Lib.hid (fun i hi => by have := sp_le F n0 i hi; have := HF5.out.1; omega)
          have HND5 : Hid (∀ i, i < n0 → ∀ j, j < (F i).np → ((F i).pt j).nd ≤ 1048576) := Lib.hid (fun i hi j hj => by have := sp_le F n0 i hi; have := sd_le (F i) (F i).np j hj; have := HF5.out.1; omega)
          go_wp2_with fail
          refine (empty9 A n0 c F v5 HS5.out hn1 HNP5.out).mono ?_
          rintro e v6 ⟨fb, pb, qb, rfl, hsp, hb6⟩
          have H10 := Lib.hid (closure10 A n0 c F a1 b1 fb pb qb v5.heap.size v5 v6 HS5.out (Nat.le_refl _) hb6 hsp hb6.size HF5.out.2.1 HF5.out.2.2 HF5.out.1)
          have HB6 := Lib.hid (HB5.out.trans (hb6.mono HB5.out.size))
          have HB56 := Lib.hid hb6
          have ho6 := HO5.out.below hb6 HO5.out.lt
          have s0 : v6.cell? ⟨w.heap.size, 0, none⟩ = some (.int .u32 (a1 : Int)) := (ho6.cell 0).trans rfl
          have s1 : v6.cell? ⟨w.heap.size, 1, none⟩ = some (.int .u32 (b1 : Int)) := (ho6.cell 1).trans rfl
          clear hsp hb6 ho6
          go_wp2_with fail
          refine H10.out.mono ?_
          rintro e v7 ⟨rfl, l, hsp7, hl7, hb7⟩
          have HSP7 := Lib.hid hsp7
          have HL7 := Lib.hid hl7
          have hb57 : Below v5.heap.size v5 v7 := HB56.out.trans hb7
          have HB7 := Lib.hid (HB5.out.trans (hb57.mono HB5.out.size))
          have HO7 := Lib.hid (HO5.out.below hb57 HO5.out.lt)
          have HS7 := Lib.hid (HS5.out.below hb57)
          clear hsp7 hl7 hb7 hb57 s0 s1 H10 HB56
          go_wp2_with fail
          refine (build11 A n0 c F v7 HS7.out hn1 HNP5.out HND5.out).mono ?_
          rintro e v8 ⟨lf, rp, rb, pt, db, cr, rfl, hrp, hcr, hlz, hb8⟩
          have HRP := Lib.hid hrp
          have HCR := Lib.hid hcr
          have HLZ := Lib.hid hlz
          have HSP8 := Lib.hid (HSP7.out.below hb8)
          have HB8 := Lib.hid (HB7.out.trans (hb8.mono HB7.out.size))
          have HO8 := Lib.hid (HO7.out.below hb8 HO7.out.lt)
          have HLO := Lib.hid hb8.size
          have HB78 := Lib.hid hb8
          clear hrp hcr hlz hb8
          go_wp2_with fail
          refine wp_buildc 97 _ rfl opts (by kernel_rfl) ?_
          go_wp2_with fail
          generalize hW9 : v8.alloc _ = v9
          have HOP := Lib.hid (show Own v9 v8.heap.size 97 opts by rw [← hW9]; exact Own.new _ _ _)
          have HB89 := Lib.hid (show Below v8.heap.size v8 v9 by rw [← hW9]; exact (Below.refl _ _).alloc (Nat.le_refl _) _)
          clear hW9
          refine (new12 v8.heap.size lf n0 v9).mono ?_
          rintro e v10 ⟨lc, cx, rfl, ox, x0, x10, hb10⟩
          have hb810 := HB89.out.trans (hb10.mono HB89.out.size)
          have HL10 := Lib.hid (ln_of (rp := rp) (Lz.below HLZ.out hb810) (HRP.out.below hb810 HRP.out.lt) HCR.out ox x0 x10 (HOP.out.below hb10 HOP.out.lt) rfl)
          have HFIT := Lib.hid (fit_gr HF5.out.2.1 HF5.out.1)
          have hst := okD_np HF5.out.2.2
          have HSP10 := Lib.hid (HSP8.out.below hb810)
          have HB10 := Lib.hid (HB8.out.trans (hb810.mono HB8.out.size))
          have ho10 := HO8.out.below hb810 HO8.out.lt
          have HO10 := Lib.hid ho10
          have s0 : v10.cell? ⟨w.heap.size, 0, none⟩ = some (.int .u32 (a1 : Int)) := (ho10.cell 0).trans rfl
          have s1 : v10.cell? ⟨w.heap.size, 1, none⟩ = some (.int .u32 (b1 : Int)) := (ho10.cell 1).trans rfl
          have HM := Lib.hid (mark13 HFIT.out a1 b1 non v10 hst.1 hst.2 HL10.out (Nat.le_trans HLO.out hb810.size))
          have HB710 := Lib.hid (HB78.out.trans (hb810.mono HB78.out.size))
          clear ox x0 x10 hb10 hb810 HOP HB89 hst ho10
          go_wp2_with fail
          refine HM.out.mono ?_
          rintro e v11 ⟨rfl, l', hL11, hA11, hb11⟩
          have HL11 := Lib.hid hL11
          have HEQ : Hid (∀ y, l' y = l y) := Lib.hid (fun y => by
            have h1 := Adv.whole hA11 y
            have h2 := HL7.out y
            cases e1 : l' y <;> cases e2 : l y <;> simp_all)
          have HSP11 := Lib.hid (HSP7.out.below (HB710.out.trans hb11))
          have HB11 := Lib.hid (HB10.out.trans (hb11.mono HB7.out.size))
          clear hL11 hA11 hb11 s0 s1 HM HL10 HO10 HSP10
          have hmk := run_mkc (P := Try.prog) 30 4 _ #[.bool false] rfl _ _ Try.underlying30 info4 n0 n0 (Nat.le_refl _) (by omega) (by omega)
          go_upto_region 14 with fail
          generalize hW12 : World.alloc _ _ = v12
          have HG12 : Hid (Bo v12 v11.heap.size n0 (fun _ => false)) := Lib.hid (by rw [← hW12]; exact Bo.made (Own.new _ _ _))
          have HB12 : Hid (Below v11.heap.size v11 v12) := Lib.hid (by rw [← hW12]; exact (Below.refl _ _).alloc (Nat.le_refl _) _)
          clear hW12 hmk
          go_wp2_with fail
          go_loopw [11] (fun i wr => ∃ k : Nat, i = .int .i64 k ∧ k ≤ n0 ∧ Hid (Bo wr v11.heap.size n0 (fun i => decide (i < k) && l' (.file i))) ∧ Hid (Below v11.heap.size v11 wr)) (fun i _ => n0 - (intOf i).toNat)
          case atStart => exact ⟨0, rfl, by omega, Lib.hid (HG12.out.congr fun i _ => rfl), HB12⟩
          case round =>
            clear HG12 HB12
            obtain ⟨k, rfl, hk, HG, HB⟩ := hrel
            obtain ⟨wo, rfl⟩ : ∃ wo : World, wo = wr := ⟨_, rfl⟩
            by_cases hlt : k < n0
            · have HLv := Lib.hid (live14 (HL11.out.below HB.out) k hlt hn1)
              have q0 : (0 : Int) ≤ (k : Int) := by omega
              have q1 : (k : Int) < (n0 : Int) := by omega
              obtain ⟨lv, hlv⟩ : ∃ lv, lv = l' (.file k) := ⟨_, rfl⟩
              rw [← hlv] at HLv
              have HLV := Lib.hid hlv
              clear hlv
              go_wp2_with fail
              refine HLv.out.mono ?_
              rintro e w2 ⟨rfl, hb2⟩
              have HG2 := Lib.hid (HG.out.below hb2)
              have g0 : w2.cell? ⟨v11.heap.size, k, none⟩ = some (.bool _) := HG2.out.cell hlt
              have g1 : w2.frozen? ⟨v11.heap.size, k, none⟩ = false := HG2.out.frozen k
              have HBw2 := Lib.hid (HB.out.trans (hb2.mono HB.out.size))
              clear hb2 HLv
              go_wp2_with fail
              go_roundw
              case rel =>
                exact ⟨k + 1, by go_num, by omega, Lib.hid ((HG2.out.set k lv).congr fun i hi => by
                  by_cases e : i = k
                  · subst e
                    simp only [if_true]
                    rw [decide_eq_true (Nat.lt_succ_self i), Bool.true_and]
                    exact HLV.out
                  · simp only [if_neg e]
                    rw [show decide (i < k + 1) = decide (i < k) from by
                      rcases Nat.lt_or_ge i k with h | h
                      · rw [decide_eq_true h, decide_eq_true (by omega)]
                      · rw [decide_eq_false (by omega), decide_eq_false (by omega)]]), Lib.hid (HBw2.out.setCell (p := ⟨v11.heap.size, k, none⟩) (Nat.le_refl _) _)⟩
              case measure => simp [intOf]; omega
            · obtain rfl : n0 = k := by omega
              have z0 : decide ((n0 : Int) < n0) = false := decide_eq_false (by omega)
              have HL12 := Lib.hid (HL11.out.below HB.out)
              obtain ⟨cr2, or2, hcr2⟩ := HL12.out.rep
              rw [rbx_at] at or2
              have H15 := Lib.hid (same15 wo HFIT.out cr2 or2 hcr2 (HG.out.congr fun i hi => by rw [decide_eq_true hi, Bool.true_and]) (HSP11.out.below HB.out) HL12.out (fun i _ => HEQ.out _) (fun i _ j _ => HEQ.out _))
              clear or2 hcr2
              go_wp2_with fail
              refine H15.out.mono ?_
              rintro e w3 ⟨rfl, hb3⟩
              have HB3 := Lib.hid (HB11.out.trans ((HB.out.trans (hb3.mono HB.out.size)).mono HB11.out.size))
              clear hb3 H15
              go_wp2_with fail
              go_ret
              exact ⟨rfl, HB3.out⟩

set_option maxRecDepth 10000000 in
theorem lifted (os : Os) (started : os.Started) (H : Type) (enc : TypeId × Value → H) :
    ReturnsInHanded {} Try.checked os 3 .any (Rows.fnMarkPartLiveIsDependencyClosureSpec.pre6 enc Try.prog Try.f3 Rows.fnMarkPartLiveIsDependencyClosureRow.domain false) (Rows.fnMarkPartLiveIsDependencyClosureSpec.post enc Try.prog Try.f3 false true false false) := by
  refine returnsInHanded_of_change (C := Try.checked) own started (by kernel_rfl) Try.func3
    (ChangeSpec.witness6 (enc := enc) (C := Try.checked) false ⟨#[], #[.slice none 0 0, .agg #[.int .u32 0, .int .u32 0]], []⟩ 8 (by kernel_rfl) (by kernel_rfl) (by kernel_rfl) (by kernel_rfl)) ?_
  intro W base args ds gs before hval0 hW hcnd _
  have hval : ∀ (j : Nat) t v, Try.f3.params[j]? = some t → args[j]? = some v → Value.okWide Try.prog W .any base t v := hval0
  have hW' := hW
  obtain ⟨p, q, hA0, hV, rfl, hfz, hnd⟩ := hW
  have hA : DataW.TrodAll enc Try.prog W 0 (fun _ => true) true Try.f3.params.toList args.toList ds p := hA0
  rw [Try.params3] at hA hval
  obtain ⟨v0, vs0, d0, ds0, p0, q0, hargs0, rfl, rfl, h0, r0⟩ := trodAll_cons hA
  obtain ⟨v1, vs1, d1, ds1, p1, q1, hargs1, rfl, rfl, h1, r1⟩ := trodAll_cons r0
  obtain ⟨rfl, rfl, rfl⟩ := trodAll_nil r1
  obtain rfl : args = #[v0, v1] := by cases args; simp_all
  obtain ⟨A0, n0, c0, F0, rfl, hn0, hc0, hz0, hB0⟩ := Fs.open_files Ty.tys Try.underlying22 (hval 0 22 v0 rfl rfl) h0
  obtain ⟨a1, b1, rfl, w1, x1⟩ := Ty.open_dep (hval 1 25 v1 rfl rfl) h1
  clear hA0 hval0
  refine (walk A0 n0 c0 F0 a1 b1 W hB0 hc0 hn0 hz0 w1 x1).mono fun e W' ⟨he, hg⟩ => ?_
  subst he
  exact ⟨_, rfl, law_post laid readEach rfl rfl Try.underlying4 ⟨rfl, rfl, rfl⟩ hW' hg⟩

theorem over : Rows.fnMarkPartLiveIsDependencyClosureRow.holds Try.pinned (OpenSpec.ofChange Rows.fnMarkPartLiveIsDependencyClosureSpec) :=
  OpenClaim.holds_of_wide 3 Try.f3 rfl rfl rfl rfl rfl rfl rfl ⟨rfl, rfl, rfl, rfl, rfl⟩ rfl rfl rfl rfl rfl (by kernel_rfl) Try.func3 Jf.jf
    (of_decide_eq_true (by kernel_rfl)) (by unfold Func.isWrapper; first | (rw [if_pos (by decide +kernel)]; kernel_rfl) | (rw [if_neg (by decide +kernel)]; exact ⟨rfl, rfl⟩))
    (fun os started H enc _ => lifted os started H enc)

/-- The statement. -/
theorem proved : Rows.FnMarkPartLiveIsDependencyClosureSaid :=
  over
#print axioms proved
end Go.Proofs.Ytmjfdhgfpgeboac.fnMarkPartLiveIsDependencyClosure
