/-
  Proved: what String, DecodedText, the table of the law and its tokenizing give for each of the 25 fixed texts. Conditions: those that each theorem
  names as its hypotheses, and no others.
-/
import Derived.Test.YtcljenkgbbbfpaaDoorNt
import Derived.Test.YtcljenkgbbbfpaaDoorKd
import Derived.Test.YtcljenkgbbbfpaaDoorRows
namespace Go.Proofs.YtcljenkgbbbfpaaDoor.Nu
open Go.RowKit Go.PlainAid Str Mem De Lu Dw Cu Rws Nx Nt
set_option linter.unusedVariables false
set_option linter.unusedSimpArgs false
set_option maxRecDepth 100000 in
set_option maxHeartbeats 8000000 in
theorem tz26 (s : ByteArray) (c kd : Int) (w : World) (hsz : s.size ≤ 4) (hs0 : 1 ≤ s.size) (hcp : cpOf s 0 = c) (hwd : wdOf s 0 = 1) (hc0 : 0 ≤ c) (hc1 : c ≤ 127) (hk0 : 1 ≤ kd) (hk1 : kd ≤ 255)
    (hN : (∀ (g : Nat) (nl : Int) (w : World), Own w g 64 (lxC s nl 1 c 0 0 0) → 0 ≤ nl → nl ≤ 2 → Lib.Utf8Tabs 1 2 w → 3 ≤ g → 3 ≤ w.heap.size → Calls Tryd.prog 51 #[.pointer (some ⟨g, 0, none⟩)] w (Nxt g s 0 kd w)))
    (hT : Lib.Utf8Tabs 1 2 w) (hw : 3 ≤ w.heap.size) :
    Calls Tryd.prog 26 #[.string s, .bool false] w (Tkz s kd w) := by
  have HN := Lib.hid hN
  have HT := Lib.hid hT
  have HCP := Lib.hid hcp
  have HWD := Lib.hid hwd
  clear hN hT hcp hwd
  go_enter Tryd.func26, Tryd.ntmps26
  go_wp2_with fail
  generalize hW : World.alloc _ _ = W
  have hbW : Below w.heap.size w W := by rw [← hW]; go_grown
  have hR : Own W w.heap.size 78 #[.slice none 0 0, .slice none 0 0, .slice none 0 0, .string ⟨#[]⟩, .int .i32 0, .int .i32 0, .int .i32 0] := by rw [← hW]; exact ((Own.new w 78 #[.slice none 0 0, .slice none 0 0, .slice none 0 0, .string ⟨#[]⟩, .int .i32 0, .int .i32 0, .int .i32 0]).alloc _).alloc _
  clear hW
  have HbW := Lib.hid hbW
  have HR := Lib.hid hR
  refine (tok46 s c kd W hsz hs0 HCP.out HWD.out hc0 hc1 hk0 hk1 HN.out (tabs_of HT.out hw hbW) (Nat.le_trans hw hbW.size)).mono ?_
  rintro e w5 ⟨h, cap, lc, t, cs, rfl, hA, q0, q1, q2, q3, q4, hb5⟩
  have HR5 := Lib.hid (hR.below hb5 hR.lt)
  have HB5 := Lib.hid (hbW.trans (hb5.mono hbW.size))
  have HQ := Lib.hid (And.intro q0 (And.intro q1 (And.intro q2 (And.intro q3 q4))))
  have HA := Lib.hid hA
  clear hb5 hR hbW HbW HR HN HT HCP HWD q0 q1 q2 q3 q4 hA
  have r0 : w5.cell? ⟨w.heap.size, 0, none⟩ = some (.slice none 0 0) := (HR5.out.cell 0).trans rfl
  have r1 : w5.cell? ⟨w.heap.size, 1, none⟩ = some (.slice none 0 0) := (HR5.out.cell 1).trans rfl
  have r2 : w5.cell? ⟨w.heap.size, 2, none⟩ = some (.slice none 0 0) := (HR5.out.cell 2).trans rfl
  have r3 : w5.cell? ⟨w.heap.size, 3, none⟩ = some (.string ⟨#[]⟩) := (HR5.out.cell 3).trans rfl
  have r4 : w5.cell? ⟨w.heap.size, 4, none⟩ = some (.int .i32 0) := (HR5.out.cell 4).trans rfl
  have r5 : w5.cell? ⟨w.heap.size, 5, none⟩ = some (.int .i32 0) := (HR5.out.cell 5).trans rfl
  have r6 : w5.cell? ⟨w.heap.size, 6, none⟩ = some (.int .i32 0) := (HR5.out.cell 6).trans rfl
  have rf : ∀ j, w5.frozen? ⟨w.heap.size, j, none⟩ = false := HR5.out.frozen
  have HA6 : Hid (h ≠ w.heap.size) := Lib.hid (fun e => by have h1 := HA.out; rw [e] at h1; unfold Own at h1; have h2 := HR5.out; unfold Own at h2; rw [h2] at h1; injection h1 with h1; injection h1 with h3 h4; rw [← h3] at HQ; have := HQ.out.1; simp at this)
  go_wp2_with fail
  have hO6 := ((((((HR5.out.set 0 (.slice (some ⟨h, 0, none⟩) 1 cap)).set 1 (.slice none 0 0)).set 2 (.slice none 0 0)).set 3 (.string ⟨#[]⟩)).set 4 (.int .i32 0)).set 5 (.int .i32 0)).set 6 (.int .i32 lc)
  have hA6 := ((((((HA.out.far (p := ⟨w.heap.size, 0, none⟩) HA6.out (.slice (some ⟨h, 0, none⟩) 1 cap)).far (p := ⟨w.heap.size, 1, none⟩) HA6.out (.slice none 0 0)).far (p := ⟨w.heap.size, 2, none⟩) HA6.out (.slice none 0 0)).far (p := ⟨w.heap.size, 3, none⟩) HA6.out (.string ⟨#[]⟩)).far (p := ⟨w.heap.size, 4, none⟩) HA6.out (.int .i32 0)).far (p := ⟨w.heap.size, 5, none⟩) HA6.out (.int .i32 0)).far (p := ⟨w.heap.size, 6, none⟩) HA6.out (.int .i32 lc)
  have hgw : w.heap.size ≤ w.heap.size := Nat.le_refl _
  have hB6 := ((((((HB5.out.setCell (p := ⟨w.heap.size, 0, none⟩) hgw (.slice (some ⟨h, 0, none⟩) 1 cap)).setCell (p := ⟨w.heap.size, 1, none⟩) hgw (.slice none 0 0)).setCell (p := ⟨w.heap.size, 2, none⟩) hgw (.slice none 0 0)).setCell (p := ⟨w.heap.size, 3, none⟩) hgw (.string ⟨#[]⟩)).setCell (p := ⟨w.heap.size, 4, none⟩) hgw (.int .i32 0)).setCell (p := ⟨w.heap.size, 5, none⟩) hgw (.int .i32 0)).setCell (p := ⟨w.heap.size, 6, none⟩) hgw (.int .i32 lc)
  simp only [List.setIfInBounds_toArray, List.set_cons_zero, List.set_cons_succ] at hO6
  generalize World.setCell _ _ _ = V at hO6 hA6 hB6 ⊢
  have t0 : V.cell? ⟨w.heap.size, 0, none⟩ = some (.slice (some ⟨h, 0, none⟩) 1 cap) := (hO6.cell 0).trans rfl
  have t1 : V.cell? ⟨w.heap.size, 1, none⟩ = some (.slice none 0 0) := (hO6.cell 1).trans rfl
  have t2 : V.cell? ⟨w.heap.size, 2, none⟩ = some (.slice none 0 0) := (hO6.cell 2).trans rfl
  have t3 : V.cell? ⟨w.heap.size, 3, none⟩ = some (.string ⟨#[]⟩) := (hO6.cell 3).trans rfl
  have t4 : V.cell? ⟨w.heap.size, 4, none⟩ = some (.int .i32 0) := (hO6.cell 4).trans rfl
  have t5 : V.cell? ⟨w.heap.size, 5, none⟩ = some (.int .i32 0) := (hO6.cell 5).trans rfl
  have t6 : V.cell? ⟨w.heap.size, 6, none⟩ = some (.int .i32 lc) := (hO6.cell 6).trans rfl
  refine bodyPost_ret (v := .agg #[.slice (some ⟨h, 0, none⟩) 1 cap, .slice none 0 0, .slice none 0 0, .string ⟨#[]⟩, .int .i32 0, .int .i32 0, .int .i32 lc]) (by simp [results, Tryd.results26, go_sem, t0, t1, t2, t3, t4, t5, t6]) rfl ⟨h, cap, lc, t, cs, rfl, hA6, HQ.out.1, HQ.out.2.1, HQ.out.2.2.1, HQ.out.2.2.2.1, HQ.out.2.2.2.2, hB6⟩
def nameList : List (List UInt8) := match (Rows.laid_github_com_evanw_esbuild_internal_css_lexer_tokenToString : DataW Unit) with
  | .slice xs _ => xs.map fun | .lit (.string l) => l | _ => []
  | _ => []
/-- The variable's slice: each kind's name. -/
def Names (w : World) : Prop := ∃ (b off cap : Nat) (N : Nat → ByteArray), w.cell? ⟨0, 0, none⟩ = some (.slice (some ⟨b, off, none⟩) 40 cap) ∧ b < w.heap.size ∧ 0 < w.heap.size ∧ (∀ j, j < 40 → w.cell? ⟨b, off + j, none⟩ = some (.string (N j))) ∧ ∀ j, j < 40 → nameList.getD j [] = (N j).data.toList
theorem Names.below {w w' : World} (h : Names w) (hb : Below w.heap.size w w') : Names w' := by
  obtain ⟨b, off, cap, N, h0, hlt, h00, hc, hn⟩ := h
  exact ⟨b, off, cap, N, (hb.cell (p := ⟨0, 0, none⟩) h00).trans h0, Nat.lt_of_lt_of_le hlt hb.size, Nat.lt_of_lt_of_le h00 hb.size, fun j hj => (hb.cell (p := ⟨b, off + j, none⟩) hlt).trans (hc j hj), hn⟩
set_option maxRecDepth 100000 in
set_option maxHeartbeats 4000000 in
theorem str27 (kd : Int) (q : ByteArray) (w : World) (h : Names w) (h0 : 0 ≤ kd) (h1 : kd < 40) (hq : nameList.getD kd.toNat [] = q.data.toList) :
    Calls Tryd.prog 27 #[.int .u8 kd] w fun e w' => e = .returned (.string q) ∧ w = w' := by
  obtain ⟨b, off, cap, N, hg, hlt, h00, hc, hn⟩ := h
  obtain ⟨k, rfl⟩ := Int.eq_ofNat_of_zero_le h0
  have hk : k < 40 := by omega
  have e : N k = q := by
    have e1 := (hn k hk).symm.trans hq
    exact ByteArray.ext (Array.toList_inj.1 e1)
  have c := hc k hk
  rw [e] at c
  clear hc hn hq e
  have z0 : (0 : Int) ≤ (k : Int) := by omega
  have z1 : (k : Int) < ((40 : Nat) : Int) := by omega
  go_enter Tryd.func27, Tryd.ntmps27
  go_wp2_with fail
  go_ret
  exact ⟨rfl, rfl⟩
set_option maxRecDepth 100000 in
set_option maxHeartbeats 16000000 in
theorem dflt (C : ByteArray) (k : Int) (hC : C.size ≤ 100000000) (q1 : (k == 1) = false) (q26 : (k == 26) = false) (q27 : (k == 27) = false) (q28 : (k == 28) = false) (q29 : (k == 29) = false) (q36 : (k == 36) = false) (q37 : (k == 37) = false)
    (w : World) : Calls Tryd.prog 24 #[.agg #[.int .i32 0, .int .i32 (C.size : Int), .int .u16 0, .int .u8 k, .int .u8 0], .string C] w fun e w' => e = .returned (.string C) ∧ Below w.heap.size w w' := by
  have z1 : (0 : Int) ≤ (C.size : Int) := by omega
  have hx : C.extract 0 C.size = C := by simp
  have HX := Lib.hid hx
  clear hx
  go_enter Tryd.func24, Tryd.ntmps24
  go_wp2_with fail
  have hown := Own.new w 36 #[Value.int IntKind.i32 0, Value.int IntKind.i32 (C.size : Int), Value.int IntKind.u16 0, Value.int IntKind.u8 k, Value.int IntKind.u8 0]
  have hbw : Below w.heap.size w (w.alloc (Obj.cells #[Value.int IntKind.i32 0, Value.int IntKind.i32 (C.size : Int), Value.int IntKind.u16 0, Value.int IntKind.u8 k, Value.int IntKind.u8 0] 36)) := by go_grown
  have hgl := hown.lt
  have c0 := hown.cell 0
  have c1 := hown.cell 1
  have c3 := hown.cell 3
  simp only [List.getElem?_toArray, List.getElem?_cons_zero, List.getElem?_cons_succ] at c0 c1 c3
  generalize w.alloc _ = W0 at *
  clear hown
  go_region_with (first | (go_at_call 44; refine (end44 0 (C.size : Int) (by omega) (by omega) (by omega) (by omega) _).mono ?_; rintro e w1 ⟨rfl, hb1⟩; rw [Int.zero_add]; have d0 := (hb1.cell (p := ⟨w.heap.size, 0, none⟩) hgl).trans c0; have d1 := (hb1.cell (p := ⟨w.heap.size, 1, none⟩) hgl).trans c1; have d3 := (hb1.cell (p := ⟨w.heap.size, 3, none⟩) hgl).trans c3))
  all_goals
    have HB : Hid (Below w.heap.size w w1) := Lib.hid ((below_drew hbw).trans (hb1.mono (below_drew hbw).size))
    clear hb1 d0 d1 c0 c1 c3
    try rw [HX.out]
    go_wp2_with fail
    go_ret
    exact ⟨rfl, HB.out⟩
/-- What is laid down of a fixed text. -/
structure Fixed (s : ByteArray) (c kd : Int) : Prop where
  sz : s.size ≤ 4
  s0 : 1 ≤ s.size
  cp : cpOf s 0 = c
  wd : wdOf s 0 = 1
  c0 : 0 ≤ c
  c1 : c ≤ 127
  k0 : 1 ≤ kd
  k1 : kd < 40
  q1 : (kd == 1) = false
  q26 : (kd == 26) = false
  q27 : (kd == 27) = false
  q28 : (kd == 28) = false
  q29 : (kd == 29) = false
  q36 : (kd == 36) = false
  q37 : (kd == 37) = false
  nm : nameList.getD kd.toNat [] = ((⟨#[34]⟩ : ByteArray) ++ s ++ ⟨#[34]⟩).data.toList
  nx : (∀ (g : Nat) (nl : Int) (w : World), Own w g 64 (lxC s nl 1 c 0 0 0) → 0 ≤ nl → nl ≤ 2 → Lib.Utf8Tabs 1 2 w → 3 ≤ g → 3 ≤ w.heap.size → Calls Tryd.prog 51 #[.pointer (some ⟨g, 0, none⟩)] w (Nxt g s 0 kd w))
def Fx (w : World) (e : Ending) (w' : World) : Prop := ∃ s c kd, e = .returned (.string s) ∧ Fixed s c kd ∧ w = w'
theorem fx0 : Fixed ⟨#[45, 45, 62]⟩ 45 4 where
  sz := by decide
  s0 := by decide
  cp := (cp_in (s := ⟨#[45, 45, 62]⟩) (q := 0) (by decide)).1.trans (rd_asc (s := ⟨#[45, 45, 62]⟩) (i := 0) (by decide) (by decide)).1
  wd := (cp_in (s := ⟨#[45, 45, 62]⟩) (q := 0) (by decide)).2.trans (rd_asc (s := ⟨#[45, 45, 62]⟩) (i := 0) (by decide) (by decide)).2
  c0 := by decide
  c1 := by decide
  k0 := by decide
  k1 := by decide
  q1 := rfl
  q26 := rfl
  q27 := rfl
  q28 := rfl
  q29 := rfl
  q36 := rfl
  q37 := rfl
  nm := by kernel_rfl
  nx := fun g nl w h a0 a1 hT hg hw => nxCDC g _ nl w h a0 a1 rfl rfl rfl (by decide) hT hg hw
theorem fx1 : Fixed ⟨#[60, 33, 45, 45]⟩ 60 5 where
  sz := by decide
  s0 := by decide
  cp := (cp_in (s := ⟨#[60, 33, 45, 45]⟩) (q := 0) (by decide)).1.trans (rd_asc (s := ⟨#[60, 33, 45, 45]⟩) (i := 0) (by decide) (by decide)).1
  wd := (cp_in (s := ⟨#[60, 33, 45, 45]⟩) (q := 0) (by decide)).2.trans (rd_asc (s := ⟨#[60, 33, 45, 45]⟩) (i := 0) (by decide) (by decide)).2
  c0 := by decide
  c1 := by decide
  k0 := by decide
  k1 := by decide
  q1 := rfl
  q26 := rfl
  q27 := rfl
  q28 := rfl
  q29 := rfl
  q36 := rfl
  q37 := rfl
  nm := by kernel_rfl
  nx := fun g nl w h a0 a1 hT hg hw => nxCDO g _ nl w h a0 a1 rfl rfl rfl rfl (by decide) hT hg hw
theorem fx2 : Fixed ⟨#[125]⟩ 125 6 where
  sz := by decide
  s0 := by decide
  cp := (cp_in (s := ⟨#[125]⟩) (q := 0) (by decide)).1.trans (rd_asc (s := ⟨#[125]⟩) (i := 0) (by decide) (by decide)).1
  wd := (cp_in (s := ⟨#[125]⟩) (q := 0) (by decide)).2.trans (rd_asc (s := ⟨#[125]⟩) (i := 0) (by decide) (by decide)).2
  c0 := by decide
  c1 := by decide
  k0 := by decide
  k1 := by decide
  q1 := rfl
  q26 := rfl
  q27 := rfl
  q28 := rfl
  q29 := rfl
  q36 := rfl
  q37 := rfl
  nm := by kernel_rfl
  nx := fun g nl w h a0 a1 hT hg hw => nx125 g _ nl w h a0 a1 rfl hT hg hw
theorem fx3 : Fixed ⟨#[93]⟩ 93 7 where
  sz := by decide
  s0 := by decide
  cp := (cp_in (s := ⟨#[93]⟩) (q := 0) (by decide)).1.trans (rd_asc (s := ⟨#[93]⟩) (i := 0) (by decide) (by decide)).1
  wd := (cp_in (s := ⟨#[93]⟩) (q := 0) (by decide)).2.trans (rd_asc (s := ⟨#[93]⟩) (i := 0) (by decide) (by decide)).2
  c0 := by decide
  c1 := by decide
  k0 := by decide
  k1 := by decide
  q1 := rfl
  q26 := rfl
  q27 := rfl
  q28 := rfl
  q29 := rfl
  q36 := rfl
  q37 := rfl
  nm := by kernel_rfl
  nx := fun g nl w h a0 a1 hT hg hw => nx93 g _ nl w h a0 a1 rfl hT hg hw
theorem fx4 : Fixed ⟨#[41]⟩ 41 8 where
  sz := by decide
  s0 := by decide
  cp := (cp_in (s := ⟨#[41]⟩) (q := 0) (by decide)).1.trans (rd_asc (s := ⟨#[41]⟩) (i := 0) (by decide) (by decide)).1
  wd := (cp_in (s := ⟨#[41]⟩) (q := 0) (by decide)).2.trans (rd_asc (s := ⟨#[41]⟩) (i := 0) (by decide) (by decide)).2
  c0 := by decide
  c1 := by decide
  k0 := by decide
  k1 := by decide
  q1 := rfl
  q26 := rfl
  q27 := rfl
  q28 := rfl
  q29 := rfl
  q36 := rfl
  q37 := rfl
  nm := by kernel_rfl
  nx := fun g nl w h a0 a1 hT hg hw => nx41 g _ nl w h a0 a1 rfl hT hg hw
theorem fx5 : Fixed ⟨#[58]⟩ 58 9 where
  sz := by decide
  s0 := by decide
  cp := (cp_in (s := ⟨#[58]⟩) (q := 0) (by decide)).1.trans (rd_asc (s := ⟨#[58]⟩) (i := 0) (by decide) (by decide)).1
  wd := (cp_in (s := ⟨#[58]⟩) (q := 0) (by decide)).2.trans (rd_asc (s := ⟨#[58]⟩) (i := 0) (by decide) (by decide)).2
  c0 := by decide
  c1 := by decide
  k0 := by decide
  k1 := by decide
  q1 := rfl
  q26 := rfl
  q27 := rfl
  q28 := rfl
  q29 := rfl
  q36 := rfl
  q37 := rfl
  nm := by kernel_rfl
  nx := fun g nl w h a0 a1 hT hg hw => nx58 g _ nl w h a0 a1 rfl hT hg hw
theorem fx6 : Fixed ⟨#[44]⟩ 44 10 where
  sz := by decide
  s0 := by decide
  cp := (cp_in (s := ⟨#[44]⟩) (q := 0) (by decide)).1.trans (rd_asc (s := ⟨#[44]⟩) (i := 0) (by decide) (by decide)).1
  wd := (cp_in (s := ⟨#[44]⟩) (q := 0) (by decide)).2.trans (rd_asc (s := ⟨#[44]⟩) (i := 0) (by decide) (by decide)).2
  c0 := by decide
  c1 := by decide
  k0 := by decide
  k1 := by decide
  q1 := rfl
  q26 := rfl
  q27 := rfl
  q28 := rfl
  q29 := rfl
  q36 := rfl
  q37 := rfl
  nm := by kernel_rfl
  nx := fun g nl w h a0 a1 hT hg hw => nx44 g _ nl w h a0 a1 rfl hT hg hw
theorem fx7 : Fixed ⟨#[38]⟩ 38 12 where
  sz := by decide
  s0 := by decide
  cp := (cp_in (s := ⟨#[38]⟩) (q := 0) (by decide)).1.trans (rd_asc (s := ⟨#[38]⟩) (i := 0) (by decide) (by decide)).1
  wd := (cp_in (s := ⟨#[38]⟩) (q := 0) (by decide)).2.trans (rd_asc (s := ⟨#[38]⟩) (i := 0) (by decide) (by decide)).2
  c0 := by decide
  c1 := by decide
  k0 := by decide
  k1 := by decide
  q1 := rfl
  q26 := rfl
  q27 := rfl
  q28 := rfl
  q29 := rfl
  q36 := rfl
  q37 := rfl
  nm := by kernel_rfl
  nx := fun g nl w h a0 a1 hT hg hw => nx38 g _ nl w h a0 a1 rfl hT hg hw
theorem fx8 : Fixed ⟨#[42]⟩ 42 13 where
  sz := by decide
  s0 := by decide
  cp := (cp_in (s := ⟨#[42]⟩) (q := 0) (by decide)).1.trans (rd_asc (s := ⟨#[42]⟩) (i := 0) (by decide) (by decide)).1
  wd := (cp_in (s := ⟨#[42]⟩) (q := 0) (by decide)).2.trans (rd_asc (s := ⟨#[42]⟩) (i := 0) (by decide) (by decide)).2
  c0 := by decide
  c1 := by decide
  k0 := by decide
  k1 := by decide
  q1 := rfl
  q26 := rfl
  q27 := rfl
  q28 := rfl
  q29 := rfl
  q36 := rfl
  q37 := rfl
  nm := by kernel_rfl
  nx := fun g nl w h a0 a1 hT hg hw => nx42 g _ nl w h a0 a1 rfl hT hg hw
theorem fx9 : Fixed ⟨#[124]⟩ 124 14 where
  sz := by decide
  s0 := by decide
  cp := (cp_in (s := ⟨#[124]⟩) (q := 0) (by decide)).1.trans (rd_asc (s := ⟨#[124]⟩) (i := 0) (by decide) (by decide)).1
  wd := (cp_in (s := ⟨#[124]⟩) (q := 0) (by decide)).2.trans (rd_asc (s := ⟨#[124]⟩) (i := 0) (by decide) (by decide)).2
  c0 := by decide
  c1 := by decide
  k0 := by decide
  k1 := by decide
  q1 := rfl
  q26 := rfl
  q27 := rfl
  q28 := rfl
  q29 := rfl
  q36 := rfl
  q37 := rfl
  nm := by kernel_rfl
  nx := fun g nl w h a0 a1 hT hg hw => nx124 g _ nl w h a0 a1 rfl hT hg hw
theorem fx10 : Fixed ⟨#[94]⟩ 94 15 where
  sz := by decide
  s0 := by decide
  cp := (cp_in (s := ⟨#[94]⟩) (q := 0) (by decide)).1.trans (rd_asc (s := ⟨#[94]⟩) (i := 0) (by decide) (by decide)).1
  wd := (cp_in (s := ⟨#[94]⟩) (q := 0) (by decide)).2.trans (rd_asc (s := ⟨#[94]⟩) (i := 0) (by decide) (by decide)).2
  c0 := by decide
  c1 := by decide
  k0 := by decide
  k1 := by decide
  q1 := rfl
  q26 := rfl
  q27 := rfl
  q28 := rfl
  q29 := rfl
  q36 := rfl
  q37 := rfl
  nm := by kernel_rfl
  nx := fun g nl w h a0 a1 hT hg hw => nx94 g _ nl w h a0 a1 rfl hT hg hw
theorem fx11 : Fixed ⟨#[36]⟩ 36 16 where
  sz := by decide
  s0 := by decide
  cp := (cp_in (s := ⟨#[36]⟩) (q := 0) (by decide)).1.trans (rd_asc (s := ⟨#[36]⟩) (i := 0) (by decide) (by decide)).1
  wd := (cp_in (s := ⟨#[36]⟩) (q := 0) (by decide)).2.trans (rd_asc (s := ⟨#[36]⟩) (i := 0) (by decide) (by decide)).2
  c0 := by decide
  c1 := by decide
  k0 := by decide
  k1 := by decide
  q1 := rfl
  q26 := rfl
  q27 := rfl
  q28 := rfl
  q29 := rfl
  q36 := rfl
  q37 := rfl
  nm := by kernel_rfl
  nx := fun g nl w h a0 a1 hT hg hw => nx36 g _ nl w h a0 a1 rfl hT hg hw
theorem fx12 : Fixed ⟨#[46]⟩ 46 17 where
  sz := by decide
  s0 := by decide
  cp := (cp_in (s := ⟨#[46]⟩) (q := 0) (by decide)).1.trans (rd_asc (s := ⟨#[46]⟩) (i := 0) (by decide) (by decide)).1
  wd := (cp_in (s := ⟨#[46]⟩) (q := 0) (by decide)).2.trans (rd_asc (s := ⟨#[46]⟩) (i := 0) (by decide) (by decide)).2
  c0 := by decide
  c1 := by decide
  k0 := by decide
  k1 := by decide
  q1 := rfl
  q26 := rfl
  q27 := rfl
  q28 := rfl
  q29 := rfl
  q36 := rfl
  q37 := rfl
  nm := by kernel_rfl
  nx := fun g nl w h a0 a1 hT hg hw => nx46 g _ nl w h a0 a1 rfl hT hg hw
theorem fx13 : Fixed ⟨#[61]⟩ 61 18 where
  sz := by decide
  s0 := by decide
  cp := (cp_in (s := ⟨#[61]⟩) (q := 0) (by decide)).1.trans (rd_asc (s := ⟨#[61]⟩) (i := 0) (by decide) (by decide)).1
  wd := (cp_in (s := ⟨#[61]⟩) (q := 0) (by decide)).2.trans (rd_asc (s := ⟨#[61]⟩) (i := 0) (by decide) (by decide)).2
  c0 := by decide
  c1 := by decide
  k0 := by decide
  k1 := by decide
  q1 := rfl
  q26 := rfl
  q27 := rfl
  q28 := rfl
  q29 := rfl
  q36 := rfl
  q37 := rfl
  nm := by kernel_rfl
  nx := fun g nl w h a0 a1 hT hg hw => nx61 g _ nl w h a0 a1 rfl hT hg hw
theorem fx14 : Fixed ⟨#[33]⟩ 33 19 where
  sz := by decide
  s0 := by decide
  cp := (cp_in (s := ⟨#[33]⟩) (q := 0) (by decide)).1.trans (rd_asc (s := ⟨#[33]⟩) (i := 0) (by decide) (by decide)).1
  wd := (cp_in (s := ⟨#[33]⟩) (q := 0) (by decide)).2.trans (rd_asc (s := ⟨#[33]⟩) (i := 0) (by decide) (by decide)).2
  c0 := by decide
  c1 := by decide
  k0 := by decide
  k1 := by decide
  q1 := rfl
  q26 := rfl
  q27 := rfl
  q28 := rfl
  q29 := rfl
  q36 := rfl
  q37 := rfl
  nm := by kernel_rfl
  nx := fun g nl w h a0 a1 hT hg hw => nx33 g _ nl w h a0 a1 rfl hT hg hw
theorem fx15 : Fixed ⟨#[62]⟩ 62 20 where
  sz := by decide
  s0 := by decide
  cp := (cp_in (s := ⟨#[62]⟩) (q := 0) (by decide)).1.trans (rd_asc (s := ⟨#[62]⟩) (i := 0) (by decide) (by decide)).1
  wd := (cp_in (s := ⟨#[62]⟩) (q := 0) (by decide)).2.trans (rd_asc (s := ⟨#[62]⟩) (i := 0) (by decide) (by decide)).2
  c0 := by decide
  c1 := by decide
  k0 := by decide
  k1 := by decide
  q1 := rfl
  q26 := rfl
  q27 := rfl
  q28 := rfl
  q29 := rfl
  q36 := rfl
  q37 := rfl
  nm := by kernel_rfl
  nx := fun g nl w h a0 a1 hT hg hw => nx62 g _ nl w h a0 a1 rfl hT hg hw
theorem fx16 : Fixed ⟨#[60]⟩ 60 21 where
  sz := by decide
  s0 := by decide
  cp := (cp_in (s := ⟨#[60]⟩) (q := 0) (by decide)).1.trans (rd_asc (s := ⟨#[60]⟩) (i := 0) (by decide) (by decide)).1
  wd := (cp_in (s := ⟨#[60]⟩) (q := 0) (by decide)).2.trans (rd_asc (s := ⟨#[60]⟩) (i := 0) (by decide) (by decide)).2
  c0 := by decide
  c1 := by decide
  k0 := by decide
  k1 := by decide
  q1 := rfl
  q26 := rfl
  q27 := rfl
  q28 := rfl
  q29 := rfl
  q36 := rfl
  q37 := rfl
  nm := by kernel_rfl
  nx := fun g nl w h a0 a1 hT hg hw => nx60 g _ nl w h a0 a1 rfl hT hg hw
theorem fx17 : Fixed ⟨#[45]⟩ 45 22 where
  sz := by decide
  s0 := by decide
  cp := (cp_in (s := ⟨#[45]⟩) (q := 0) (by decide)).1.trans (rd_asc (s := ⟨#[45]⟩) (i := 0) (by decide) (by decide)).1
  wd := (cp_in (s := ⟨#[45]⟩) (q := 0) (by decide)).2.trans (rd_asc (s := ⟨#[45]⟩) (i := 0) (by decide) (by decide)).2
  c0 := by decide
  c1 := by decide
  k0 := by decide
  k1 := by decide
  q1 := rfl
  q26 := rfl
  q27 := rfl
  q28 := rfl
  q29 := rfl
  q36 := rfl
  q37 := rfl
  nm := by kernel_rfl
  nx := fun g nl w h a0 a1 hT hg hw => nx45 g _ nl w h a0 a1 rfl hT hg hw
theorem fx18 : Fixed ⟨#[43]⟩ 43 23 where
  sz := by decide
  s0 := by decide
  cp := (cp_in (s := ⟨#[43]⟩) (q := 0) (by decide)).1.trans (rd_asc (s := ⟨#[43]⟩) (i := 0) (by decide) (by decide)).1
  wd := (cp_in (s := ⟨#[43]⟩) (q := 0) (by decide)).2.trans (rd_asc (s := ⟨#[43]⟩) (i := 0) (by decide) (by decide)).2
  c0 := by decide
  c1 := by decide
  k0 := by decide
  k1 := by decide
  q1 := rfl
  q26 := rfl
  q27 := rfl
  q28 := rfl
  q29 := rfl
  q36 := rfl
  q37 := rfl
  nm := by kernel_rfl
  nx := fun g nl w h a0 a1 hT hg hw => nx43 g _ nl w h a0 a1 rfl hT hg hw
theorem fx19 : Fixed ⟨#[47]⟩ 47 24 where
  sz := by decide
  s0 := by decide
  cp := (cp_in (s := ⟨#[47]⟩) (q := 0) (by decide)).1.trans (rd_asc (s := ⟨#[47]⟩) (i := 0) (by decide) (by decide)).1
  wd := (cp_in (s := ⟨#[47]⟩) (q := 0) (by decide)).2.trans (rd_asc (s := ⟨#[47]⟩) (i := 0) (by decide) (by decide)).2
  c0 := by decide
  c1 := by decide
  k0 := by decide
  k1 := by decide
  q1 := rfl
  q26 := rfl
  q27 := rfl
  q28 := rfl
  q29 := rfl
  q36 := rfl
  q37 := rfl
  nm := by kernel_rfl
  nx := fun g nl w h a0 a1 hT hg hw => nx47 g _ nl w h a0 a1 rfl hT hg hw
theorem fx20 : Fixed ⟨#[126]⟩ 126 25 where
  sz := by decide
  s0 := by decide
  cp := (cp_in (s := ⟨#[126]⟩) (q := 0) (by decide)).1.trans (rd_asc (s := ⟨#[126]⟩) (i := 0) (by decide) (by decide)).1
  wd := (cp_in (s := ⟨#[126]⟩) (q := 0) (by decide)).2.trans (rd_asc (s := ⟨#[126]⟩) (i := 0) (by decide) (by decide)).2
  c0 := by decide
  c1 := by decide
  k0 := by decide
  k1 := by decide
  q1 := rfl
  q26 := rfl
  q27 := rfl
  q28 := rfl
  q29 := rfl
  q36 := rfl
  q37 := rfl
  nm := by kernel_rfl
  nx := fun g nl w h a0 a1 hT hg hw => nx126 g _ nl w h a0 a1 rfl hT hg hw
theorem fx21 : Fixed ⟨#[123]⟩ 123 31 where
  sz := by decide
  s0 := by decide
  cp := (cp_in (s := ⟨#[123]⟩) (q := 0) (by decide)).1.trans (rd_asc (s := ⟨#[123]⟩) (i := 0) (by decide) (by decide)).1
  wd := (cp_in (s := ⟨#[123]⟩) (q := 0) (by decide)).2.trans (rd_asc (s := ⟨#[123]⟩) (i := 0) (by decide) (by decide)).2
  c0 := by decide
  c1 := by decide
  k0 := by decide
  k1 := by decide
  q1 := rfl
  q26 := rfl
  q27 := rfl
  q28 := rfl
  q29 := rfl
  q36 := rfl
  q37 := rfl
  nm := by kernel_rfl
  nx := fun g nl w h a0 a1 hT hg hw => nx123 g _ nl w h a0 a1 rfl hT hg hw
theorem fx22 : Fixed ⟨#[91]⟩ 91 32 where
  sz := by decide
  s0 := by decide
  cp := (cp_in (s := ⟨#[91]⟩) (q := 0) (by decide)).1.trans (rd_asc (s := ⟨#[91]⟩) (i := 0) (by decide) (by decide)).1
  wd := (cp_in (s := ⟨#[91]⟩) (q := 0) (by decide)).2.trans (rd_asc (s := ⟨#[91]⟩) (i := 0) (by decide) (by decide)).2
  c0 := by decide
  c1 := by decide
  k0 := by decide
  k1 := by decide
  q1 := rfl
  q26 := rfl
  q27 := rfl
  q28 := rfl
  q29 := rfl
  q36 := rfl
  q37 := rfl
  nm := by kernel_rfl
  nx := fun g nl w h a0 a1 hT hg hw => nx91 g _ nl w h a0 a1 rfl hT hg hw
theorem fx23 : Fixed ⟨#[40]⟩ 40 33 where
  sz := by decide
  s0 := by decide
  cp := (cp_in (s := ⟨#[40]⟩) (q := 0) (by decide)).1.trans (rd_asc (s := ⟨#[40]⟩) (i := 0) (by decide) (by decide)).1
  wd := (cp_in (s := ⟨#[40]⟩) (q := 0) (by decide)).2.trans (rd_asc (s := ⟨#[40]⟩) (i := 0) (by decide) (by decide)).2
  c0 := by decide
  c1 := by decide
  k0 := by decide
  k1 := by decide
  q1 := rfl
  q26 := rfl
  q27 := rfl
  q28 := rfl
  q29 := rfl
  q36 := rfl
  q37 := rfl
  nm := by kernel_rfl
  nx := fun g nl w h a0 a1 hT hg hw => nx40 g _ nl w h a0 a1 rfl hT hg hw
theorem fx24 : Fixed ⟨#[59]⟩ 59 35 where
  sz := by decide
  s0 := by decide
  cp := (cp_in (s := ⟨#[59]⟩) (q := 0) (by decide)).1.trans (rd_asc (s := ⟨#[59]⟩) (i := 0) (by decide) (by decide)).1
  wd := (cp_in (s := ⟨#[59]⟩) (q := 0) (by decide)).2.trans (rd_asc (s := ⟨#[59]⟩) (i := 0) (by decide) (by decide)).2
  c0 := by decide
  c1 := by decide
  k0 := by decide
  k1 := by decide
  q1 := rfl
  q26 := rfl
  q27 := rfl
  q28 := rfl
  q29 := rfl
  q36 := rfl
  q37 := rfl
  nm := by kernel_rfl
  nx := fun g nl w h a0 a1 hT hg hw => nx59 g _ nl w h a0 a1 rfl hT hg hw
set_option maxRecDepth 100000 in
set_option maxHeartbeats 16000000 in
theorem fixed25 (i : Int) (h0 : 0 ≤ i) (h1 : i ≤ 24) (w : World) : Calls Tryd.prog 25 #[.int .i64 i] w (Fx w) := by
  have hi : i = 0 ∨ i = 1 ∨ i = 2 ∨ i = 3 ∨ i = 4 ∨ i = 5 ∨ i = 6 ∨ i = 7 ∨ i = 8 ∨ i = 9 ∨ i = 10 ∨ i = 11 ∨ i = 12 ∨ i = 13 ∨ i = 14 ∨ i = 15 ∨ i = 16 ∨ i = 17 ∨ i = 18 ∨ i = 19 ∨ i = 20 ∨ i = 21 ∨ i = 22 ∨ i = 23 ∨ i = 24 := by omega
  clear h0 h1
  rcases hi with rfl | rfl | rfl | rfl | rfl | rfl | rfl | rfl | rfl | rfl | rfl | rfl | rfl | rfl | rfl | rfl | rfl | rfl | rfl | rfl | rfl | rfl | rfl | rfl | rfl
  · go_enter Tryd.func25, Tryd.ntmps25
    go_wp2
    go_ret
    exact ⟨_, _, _, rfl, fx0, rfl⟩
  · go_enter Tryd.func25, Tryd.ntmps25
    go_wp2
    go_ret
    exact ⟨_, _, _, rfl, fx1, rfl⟩
  · go_enter Tryd.func25, Tryd.ntmps25
    go_wp2
    go_ret
    exact ⟨_, _, _, rfl, fx2, rfl⟩
  · go_enter Tryd.func25, Tryd.ntmps25
    go_wp2
    go_ret
    exact ⟨_, _, _, rfl, fx3, rfl⟩
  · go_enter Tryd.func25, Tryd.ntmps25
    go_wp2
    go_ret
    exact ⟨_, _, _, rfl, fx4, rfl⟩
  · go_enter Tryd.func25, Tryd.ntmps25
    go_wp2
    go_ret
    exact ⟨_, _, _, rfl, fx5, rfl⟩
  · go_enter Tryd.func25, Tryd.ntmps25
    go_wp2
    go_ret
    exact ⟨_, _, _, rfl, fx6, rfl⟩
  · go_enter Tryd.func25, Tryd.ntmps25
    go_wp2
    go_ret
    exact ⟨_, _, _, rfl, fx7, rfl⟩
  · go_enter Tryd.func25, Tryd.ntmps25
    go_wp2
    go_ret
    exact ⟨_, _, _, rfl, fx8, rfl⟩
  · go_enter Tryd.func25, Tryd.ntmps25
    go_wp2
    go_ret
    exact ⟨_, _, _, rfl, fx9, rfl⟩
  · go_enter Tryd.func25, Tryd.ntmps25
    go_wp2
    go_ret
    exact ⟨_, _, _, rfl, fx10, rfl⟩
  · go_enter Tryd.func25, Tryd.ntmps25
    go_wp2
    go_ret
    exact ⟨_, _, _, rfl, fx11, rfl⟩
  · go_enter Tryd.func25, Tryd.ntmps25
    go_wp2
    go_ret
    exact ⟨_, _, _, rfl, fx12, rfl⟩
  · go_enter Tryd.func25, Tryd.ntmps25
    go_wp2
    go_ret
    exact ⟨_, _, _, rfl, fx13, rfl⟩
  · go_enter Tryd.func25, Tryd.ntmps25
    go_wp2
    go_ret
    exact ⟨_, _, _, rfl, fx14, rfl⟩
  · go_enter Tryd.func25, Tryd.ntmps25
    go_wp2
    go_ret
    exact ⟨_, _, _, rfl, fx15, rfl⟩
  · go_enter Tryd.func25, Tryd.ntmps25
    go_wp2
    go_ret
    exact ⟨_, _, _, rfl, fx16, rfl⟩
  · go_enter Tryd.func25, Tryd.ntmps25
    go_wp2
    go_ret
    exact ⟨_, _, _, rfl, fx17, rfl⟩
  · go_enter Tryd.func25, Tryd.ntmps25
    go_wp2
    go_ret
    exact ⟨_, _, _, rfl, fx18, rfl⟩
  · go_enter Tryd.func25, Tryd.ntmps25
    go_wp2
    go_ret
    exact ⟨_, _, _, rfl, fx19, rfl⟩
  · go_enter Tryd.func25, Tryd.ntmps25
    go_wp2
    go_ret
    exact ⟨_, _, _, rfl, fx20, rfl⟩
  · go_enter Tryd.func25, Tryd.ntmps25
    go_wp2
    go_ret
    exact ⟨_, _, _, rfl, fx21, rfl⟩
  · go_enter Tryd.func25, Tryd.ntmps25
    go_wp2
    go_ret
    exact ⟨_, _, _, rfl, fx22, rfl⟩
  · go_enter Tryd.func25, Tryd.ntmps25
    go_wp2
    go_ret
    exact ⟨_, _, _, rfl, fx23, rfl⟩
  · go_enter Tryd.func25, Tryd.ntmps25
    go_wp2
    go_ret
    exact ⟨_, _, _, rfl, fx24, rfl⟩
end Go.Proofs.YtcljenkgbbbfpaaDoor.Nu
