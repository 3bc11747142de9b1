/-
  Proved: the size guard of the law answers, and true only when the lists are small. Conditions: those that each theorem names as its hypotheses, and
  no others.
-/
import Derived.Test.YtmjfdhgfpgeboadBm
namespace Go.Proofs.Ytmjfdhgfpgeboad.Zz
open Go.RowKit Go.PlainAid Mem Ho Rws Orw Lcs Msr Pg Idp Ct Lp Cl Bm
set_option linter.unusedVariables false
set_option linter.unusedSimpArgs false
def nth : List Value → Nat → Value
  | [], _ => undef
  | v :: _, 0 => v
  | _ :: r, k + 1 => nth r k
theorem lay {a : Act} {F : (Nat → Value) → Act} {R : (Nat → Value) → Prop} (h : R (fun k => nth a.tmps.toList k)) (he : a = F (fun k => nth a.tmps.toList k)) : ∃ U, R U ∧ a = F U := ⟨_, h, he⟩
noncomputable def fr (p0 p1 s4 s5 s6 s7 s8 s9 : Value) (U : Nat → Value) : Act := ⟨#[p0, p1, undef, undef, s4, s5, s6, s7, s8, s9, U 10, U 11, U 12, U 13, U 14, U 15, U 16, U 17, U 18, U 19, U 20, U 21, U 22, U 23, U 24, U 25, U 26, U 27, U 28, U 29, U 30, U 31, U 32, U 33, U 34, U 35, U 36, U 37, U 38, U 39, U 40, U 41, U 42, U 43, U 44, U 45, U 46, U 47, U 48, U 49, U 50, U 51, U 52, U 53, U 54, U 55, U 56, U 57, U 58, U 59, U 60, U 61, U 62, U 63, U 64, U 65, U 66, U 67, U 68, U 69, U 70, U 71, U 72, U 73, U 74, U 75, U 76, U 77, U 78, U 79, U 80, U 81, U 82, U 83, U 84, U 85, U 86, U 87, U 88, U 89, U 90, U 91, U 92, U 93, U 94, U 95, U 96, U 97, U 98, U 99, U 100, U 101, U 102, U 103, U 104, U 105, U 106, U 107, U 108, U 109, U 110, U 111, U 112, U 113, U 114, U 115, U 116, U 117, U 118, U 119, U 120, U 121, U 122, U 123, U 124, U 125, U 126, U 127, U 128, U 129, U 130, U 131, U 132, U 133, U 134, U 135, U 136, U 137, U 138, U 139, U 140, U 141, U 142, U 143, U 144, U 145, U 146, U 147, U 148, U 149, U 150, U 151, U 152, U 153, U 154, U 155, U 156, U 157, U 158, U 159, U 160, U 161, U 162, U 163, U 164, U 165, U 166, U 167, U 168, U 169, U 170, U 171, U 172, U 173, U 174, U 175, U 176, U 177, U 178, U 179, U 180, U 181, U 182, U 183, U 184, U 185, U 186, U 187, U 188, U 189, U 190, U 191, U 192, U 193, U 194, U 195, U 196, U 197, U 198, U 199, U 200, U 201, U 202, U 203, U 204, U 205, U 206, U 207, U 208, U 209, U 210, U 211, U 212, U 213, U 214, U 215, U 216, U 217, U 218, U 219, U 220, U 221, U 222, U 223, U 224, U 225, U 226, U 227, U 228, U 229, U 230, U 231, U 232, U 233, U 234, U 235, U 236, U 237, U 238, U 239, U 240, U 241, U 242, U 243, U 244, U 245, U 246, U 247, U 248, U 249, U 250, U 251, U 252, U 253, U 254, U 255, U 256, U 257, U 258, U 259, U 260, U 261, U 262, U 263, U 264, U 265, U 266, U 267, U 268, U 269, U 270, U 271, U 272, U 273, U 274, U 275, U 276, U 277, U 278, U 279, U 280, U 281, U 282, U 283, U 284, U 285, U 286, U 287, U 288, U 289, U 290, U 291, U 292, U 293, U 294, U 295, U 296, U 297, U 298, U 299, U 300, U 301, U 302, U 303, U 304, U 305, U 306, U 307, U 308, U 309, U 310, U 311, U 312, U 313, U 314, U 315, U 316, U 317, U 318, U 319, U 320, U 321, U 322, U 323, U 324, U 325, U 326, U 327, U 328, U 329, U 330, U 331, U 332, U 333, U 334, U 335, U 336, U 337, U 338, U 339, U 340, U 341, U 342, U 343, U 344, U 345, U 346, U 347, U 348, U 349, U 350, U 351, U 352, U 353, U 354, U 355, U 356, U 357, U 358, U 359, U 360, U 361, U 362, U 363, U 364, U 365, U 366, U 367, U 368, U 369, U 370, U 371, U 372, U 373, U 374, U 375, U 376, U 377, U 378, U 379, U 380, U 381, U 382, U 383, U 384, U 385, U 386, U 387, U 388, U 389, U 390, U 391, U 392, U 393, U 394, U 395, U 396, U 397, U 398, U 399, U 400, U 401, U 402, U 403, U 404, U 405, U 406, U 407, U 408, U 409, U 410, U 411, U 412, U 413, U 414, U 415, U 416, U 417, U 418, U 419, U 420, U 421, U 422, U 423, U 424, U 425, U 426, U 427, U 428, U 429, U 430, U 431, U 432, U 433, U 434, U 435, U 436, U 437, U 438, U 439, U 440, U 441, U 442, U 443, U 444, U 445, U 446, U 447, U 448, U 449, U 450, U 451, U 452, U 453, U 454, U 455, U 456, U 457, U 458, U 459, U 460, U 461, U 462, U 463, U 464, U 465, U 466, U 467, U 468, U 469, U 470, U 471, U 472, U 473, U 474, U 475, U 476, U 477, U 478, U 479, U 480, U 481, U 482, U 483, U 484, U 485, U 486, U 487, U 488, U 489, U 490, U 491, U 492, U 493, U 494, U 495, U 496, U 497, U 498, U 499, U 500, U 501, U 502, U 503, U 504, U 505, U 506, U 507, U 508, U 509, U 510, U 511, U 512, U 513, U 514, U 515, U 516, U 517, U 518, U 519, U 520, U 521, U 522, U 523, U 524, U 525, U 526, U 527, U 528, U 529, U 530, U 531, U 532, U 533, U 534, U 535, U 536, U 537, U 538, U 539, U 540, U 541, U 542, U 543, U 544, U 545, U 546, U 547, U 548, U 549, U 550, U 551, U 552, U 553, U 554, U 555, U 556, U 557, U 558, U 559, U 560, U 561, U 562, U 563, U 564, U 565, U 566, U 567, U 568, U 569, U 570, U 571, U 572, U 573, U 574, U 575, U 576, U 577, U 578, U 579, U 580, U 581, U 582, U 583, U 584, U 585, U 586, U 587, U 588, U 589, U 590, U 591, U 592, U 593, U 594, U 595, U 596, U 597, U 598, U 599, U 600, U 601, U 602, U 603, U 604, U 605, U 606, U 607, U 608, U 609, U 610, U 611, U 612, U 613], []⟩
def Ok4 (M1 M2 : Nat → Ms) (n1 n2 : Nat) (w : World) (e : Ending) (w' : World) : Prop := w = w' ∧ ∃ b, e = .returned (.bool b) ∧ (b = true → n1 + n2 ≤ 1048576 ∧ (∀ i, i < n1 → (M1 i).nn ≤ 1048576) ∧ (∀ i, i < n2 → (M2 i).nn ≤ 1048576))
theorem Ok4.no {M1 M2 : Nat → Ms} {n1 n2 : Nat} {w : World} : Ok4 M1 M2 n1 n2 w (.returned (.bool false)) w := ⟨rfl, false, rfl, fun h => by cases h⟩
set_option maxRecDepth 1000000 in
set_option maxHeartbeats 40000000 in
theorem zz4 (A1 : Option Addr) (n1 c1 : Nat) (M1 : Nat → Ms) (A2 : Option Addr) (n2 c2 : Nat) (M2 : Nat → Ms) (w : World) (h1 : Src w A1 n1 M1) (h2 : Src w A2 n2 M2) (hc1 : n1 ≤ maxLen) (hc2 : n2 ≤ maxLen) : Calls Try.prog 4 #[.slice A1 n1 c1, .slice A2 n2 c2] w (Ok4 M1 M2 n1 n2 w) := by
  have H1 := Lib.hid h1
  have H2 := Lib.hid h2
  clear h1 h2
  unfold maxLen at hc1 hc2
  go_enter Try.func4, Try.ntmps4
  go_upto_region 2 with fail
  rcases Bool.eq_false_or_eq_true (decide ((1048576 : Int) < n1)) with t0 | t0
  · go_wp2_with fail
    go_ret
    exact Ok4.no
  have b1 : n1 ≤ 1048576 := by have := of_decide_eq_false t0; omega
  go_wp2_with fail
  refine wp_loop (fun a' w' => ∃ U : Nat → Value, (∃ x k : Nat, U 5 = .int .i64 (x : Int) ∧ U 6 = .int .i64 (k : Int) ∧ k ≤ n1 ∧ n1 ≤ x ∧ x ≤ 1048576 ∧ w' = w ∧ Hid (∀ i, i < k → (M1 i).nn ≤ 1048576)) ∧ a' = fr (.slice A1 n1 c1) (.slice A2 n2 c2) (.bool false) (U 5) (U 6) (U 7) (U 8) (U 9) U) (fun a' _ => n1 - (intOf (a'.tmps.getD 6 undef)).toNat) ?_ ?_
  · apply lay
    · exact ⟨_, 0, rfl, rfl, by omega, by omega, by omega, rfl, Lib.hid (fun i hi => absurd hi (by omega))⟩
    · rfl
  · rintro _ wr ⟨U, ⟨x1, k, hU5, hUi, hk, lo1, hi1, hwr, HK⟩, rfl⟩
    have hwr2 := hwr.symm
    subst hwr2
    clear hwr
    simp only [fr, hU5, hUi]
    clear hU5 hUi
    by_cases hlt : k < n1
    · obtain ⟨a, hA⟩ : ∃ a, A1 = some a := by
        obtain ⟨b, off, e, _⟩ := H1.out.1 (by omega)
        exact ⟨_, e⟩
      subst hA
      obtain ⟨b, off, rfl, hbl, hcs⟩ := src_cells H1.out (by omega)
      have hc := hcs k hlt
      have hwf := H1.out.2 k hlt
      clear hcs
      obtain ⟨m, hm⟩ : ∃ m, m = M1 k := ⟨_, rfl⟩
      rw [← hm] at hc hwf
      obtain ⟨id, pl, tx, ⟨pr, fl, ns, ln, co, le, lt, sg⟩, nA, nn, nc, nt⟩ := m
      have r0 : w.cell? ⟨b, off + k * 12, none⟩ = some (.string id) := (hc 0 (by decide)).trans rfl
      have r1 : w.cell? ⟨b, off + k * 12 + 1, none⟩ = some (.string pl) := (hc 1 (by decide)).trans rfl
      have r2 : w.cell? ⟨b, off + k * 12 + 2, none⟩ = some (.string tx) := (hc 2 (by decide)).trans rfl
      have r3 : w.cell? ⟨b, off + k * 12 + 3, none⟩ = some (.bool pr) := (hc 3 (by decide)).trans rfl
      have r4 : w.cell? ⟨b, off + k * 12 + 4, none⟩ = some (.string fl) := (hc 4 (by decide)).trans rfl
      have r5 : w.cell? ⟨b, off + k * 12 + 5, none⟩ = some (.string ns) := (hc 5 (by decide)).trans rfl
      have r6 : w.cell? ⟨b, off + k * 12 + 6, none⟩ = some (.int .i64 ln) := (hc 6 (by decide)).trans rfl
      have r7 : w.cell? ⟨b, off + k * 12 + 7, none⟩ = some (.int .i64 co) := (hc 7 (by decide)).trans rfl
      have r8 : w.cell? ⟨b, off + k * 12 + 8, none⟩ = some (.int .i64 le) := (hc 8 (by decide)).trans rfl
      have r9 : w.cell? ⟨b, off + k * 12 + 9, none⟩ = some (.string lt) := (hc 9 (by decide)).trans rfl
      have r10 : w.cell? ⟨b, off + k * 12 + 10, none⟩ = some (.string sg) := (hc 10 (by decide)).trans rfl
      have r11 : w.cell? ⟨b, off + k * 12 + 11, none⟩ = some (.slice nA nn nc) := (hc 11 (by decide)).trans rfl
      have HM := Lib.hid hm
      have HV := Lib.hid hwf
      have q0 : (0 : Int) ≤ (k : Int) := by omega
      have q1 : (k : Int) < (n1 : Int) := by omega
      clear hc hm hwf
      go_upto_region 10 with fail
      rcases Bool.eq_false_or_eq_true (decide ((1048576 : Int) < (id.size : Nat))) with t2 | t2
      · go_wp2_with fail
        go_ret
        exact Ok4.no
      have s2 : id.size ≤ 1048576 := by have := of_decide_eq_false t2; omega
      go_upto_region 13 with fail
      clear t2
      obtain ⟨y2, hy2⟩ : ∃ y2 : Nat, (y2 : Int) = (x1 : Int) + ((id.size : Nat) : Int) := ⟨x1 + id.size, by omega⟩
      rw [← hy2]
      have lo2 : n1 ≤ y2 := by omega
      clear hy2
      rcases Bool.eq_false_or_eq_true (decide ((1048576 : Int) < (y2 : Int))) with t2 | t2
      · go_wp2_with fail
        go_ret
        exact Ok4.no
      obtain ⟨x2, hx2⟩ : ∃ x2, x2 = y2 := ⟨_, rfl⟩
      rw [← hx2] at t2 lo2 ⊢
      clear hx2
      have hi2 : x2 ≤ 1048576 := by have := of_decide_eq_false t2; omega
      clear lo1 hi1
      go_upto_region 15 with fail
      rcases Bool.eq_false_or_eq_true (decide ((1048576 : Int) < (pl.size : Nat))) with t3 | t3
      · go_wp2_with fail
        go_ret
        exact Ok4.no
      have s3 : pl.size ≤ 1048576 := by have := of_decide_eq_false t3; omega
      go_upto_region 18 with fail
      clear t3
      obtain ⟨y3, hy3⟩ : ∃ y3 : Nat, (y3 : Int) = (x2 : Int) + ((pl.size : Nat) : Int) := ⟨x2 + pl.size, by omega⟩
      rw [← hy3]
      have lo3 : n1 ≤ y3 := by omega
      clear hy3
      rcases Bool.eq_false_or_eq_true (decide ((1048576 : Int) < (y3 : Int))) with t3 | t3
      · go_wp2_with fail
        go_ret
        exact Ok4.no
      obtain ⟨x3, hx3⟩ : ∃ x3, x3 = y3 := ⟨_, rfl⟩
      rw [← hx3] at t3 lo3 ⊢
      clear hx3
      have hi3 : x3 ≤ 1048576 := by have := of_decide_eq_false t3; omega
      clear lo2 hi2
      go_upto_region 20 with fail
      rcases Bool.eq_false_or_eq_true (decide ((1048576 : Int) < (tx.size : Nat))) with t4 | t4
      · go_wp2_with fail
        go_ret
        exact Ok4.no
      have s4 : tx.size ≤ 1048576 := by have := of_decide_eq_false t4; omega
      go_upto_region 23 with fail
      clear t4
      obtain ⟨y4, hy4⟩ : ∃ y4 : Nat, (y4 : Int) = (x3 : Int) + ((tx.size : Nat) : Int) := ⟨x3 + tx.size, by omega⟩
      rw [← hy4]
      have lo4 : n1 ≤ y4 := by omega
      clear hy4
      rcases Bool.eq_false_or_eq_true (decide ((1048576 : Int) < (y4 : Int))) with t4 | t4
      · go_wp2_with fail
        go_ret
        exact Ok4.no
      obtain ⟨x4, hx4⟩ : ∃ x4, x4 = y4 := ⟨_, rfl⟩
      rw [← hx4] at t4 lo4 ⊢
      clear hx4
      have hi4 : x4 ≤ 1048576 := by have := of_decide_eq_false t4; omega
      clear lo3 hi3
      go_upto_region 25 with fail
      rcases Bool.eq_false_or_eq_true (decide ((1048576 : Int) < (fl.size : Nat))) with t5 | t5
      · go_wp2_with fail
        go_ret
        exact Ok4.no
      have s5 : fl.size ≤ 1048576 := by have := of_decide_eq_false t5; omega
      go_upto_region 28 with fail
      clear t5
      obtain ⟨y5, hy5⟩ : ∃ y5 : Nat, (y5 : Int) = (x4 : Int) + ((fl.size : Nat) : Int) := ⟨x4 + fl.size, by omega⟩
      rw [← hy5]
      have lo5 : n1 ≤ y5 := by omega
      clear hy5
      rcases Bool.eq_false_or_eq_true (decide ((1048576 : Int) < (y5 : Int))) with t5 | t5
      · go_wp2_with fail
        go_ret
        exact Ok4.no
      obtain ⟨x5, hx5⟩ : ∃ x5, x5 = y5 := ⟨_, rfl⟩
      rw [← hx5] at t5 lo5 ⊢
      clear hx5
      have hi5 : x5 ≤ 1048576 := by have := of_decide_eq_false t5; omega
      clear lo4 hi4
      go_upto_region 30 with fail
      rcases Bool.eq_false_or_eq_true (decide ((1048576 : Int) < (ns.size : Nat))) with t6 | t6
      · go_wp2_with fail
        go_ret
        exact Ok4.no
      have s6 : ns.size ≤ 1048576 := by have := of_decide_eq_false t6; omega
      go_upto_region 33 with fail
      clear t6
      obtain ⟨y6, hy6⟩ : ∃ y6 : Nat, (y6 : Int) = (x5 : Int) + ((ns.size : Nat) : Int) := ⟨x5 + ns.size, by omega⟩
      rw [← hy6]
      have lo6 : n1 ≤ y6 := by omega
      clear hy6
      rcases Bool.eq_false_or_eq_true (decide ((1048576 : Int) < (y6 : Int))) with t6 | t6
      · go_wp2_with fail
        go_ret
        exact Ok4.no
      obtain ⟨x6, hx6⟩ : ∃ x6, x6 = y6 := ⟨_, rfl⟩
      rw [← hx6] at t6 lo6 ⊢
      clear hx6
      have hi6 : x6 ≤ 1048576 := by have := of_decide_eq_false t6; omega
      clear lo5 hi5
      go_upto_region 35 with fail
      rcases Bool.eq_false_or_eq_true (decide ((1048576 : Int) < (lt.size : Nat))) with t7 | t7
      · go_wp2_with fail
        go_ret
        exact Ok4.no
      have s7 : lt.size ≤ 1048576 := by have := of_decide_eq_false t7; omega
      go_upto_region 38 with fail
      clear t7
      obtain ⟨y7, hy7⟩ : ∃ y7 : Nat, (y7 : Int) = (x6 : Int) + ((lt.size : Nat) : Int) := ⟨x6 + lt.size, by omega⟩
      rw [← hy7]
      have lo7 : n1 ≤ y7 := by omega
      clear hy7
      rcases Bool.eq_false_or_eq_true (decide ((1048576 : Int) < (y7 : Int))) with t7 | t7
      · go_wp2_with fail
        go_ret
        exact Ok4.no
      obtain ⟨x7, hx7⟩ : ∃ x7, x7 = y7 := ⟨_, rfl⟩
      rw [← hx7] at t7 lo7 ⊢
      clear hx7
      have hi7 : x7 ≤ 1048576 := by have := of_decide_eq_false t7; omega
      clear lo6 hi6
      go_upto_region 40 with fail
      rcases Bool.eq_false_or_eq_true (decide ((1048576 : Int) < (sg.size : Nat))) with t8 | t8
      · go_wp2_with fail
        go_ret
        exact Ok4.no
      have s8 : sg.size ≤ 1048576 := by have := of_decide_eq_false t8; omega
      go_upto_region 43 with fail
      clear t8
      obtain ⟨y8, hy8⟩ : ∃ y8 : Nat, (y8 : Int) = (x7 : Int) + ((sg.size : Nat) : Int) := ⟨x7 + sg.size, by omega⟩
      rw [← hy8]
      have lo8 : n1 ≤ y8 := by omega
      clear hy8
      rcases Bool.eq_false_or_eq_true (decide ((1048576 : Int) < (y8 : Int))) with t8 | t8
      · go_wp2_with fail
        go_ret
        exact Ok4.no
      obtain ⟨x8, hx8⟩ : ∃ x8, x8 = y8 := ⟨_, rfl⟩
      rw [← hx8] at t8 lo8 ⊢
      clear hx8
      have hi8 : x8 ≤ 1048576 := by have := of_decide_eq_false t8; omega
      clear lo7 hi7
      go_upto_region 45 with fail
      rcases Bool.eq_false_or_eq_true (decide ((1048576 : Int) < (nn : Nat))) with t9 | t9
      · go_wp2_with fail
        go_ret
        exact Ok4.no
      have s9 : nn ≤ 1048576 := by have := of_decide_eq_false t9; omega
      go_upto_region 48 with fail
      clear t9
      obtain ⟨y9, hy9⟩ : ∃ y9 : Nat, (y9 : Int) = (x8 : Int) + ((nn : Nat) : Int) := ⟨x8 + nn, by omega⟩
      rw [← hy9]
      have lo9 : n1 ≤ y9 := by omega
      clear hy9
      rcases Bool.eq_false_or_eq_true (decide ((1048576 : Int) < (y9 : Int))) with t9 | t9
      · go_wp2_with fail
        go_ret
        exact Ok4.no
      obtain ⟨x9, hx9⟩ : ∃ x9, x9 = y9 := ⟨_, rfl⟩
      rw [← hx9] at t9 lo9 ⊢
      clear hx9
      have hi9 : x9 ≤ 1048576 := by have := of_decide_eq_false t9; omega
      clear lo8 hi8
      have hnn : nn ≤ 1048576 := s9
      go_wp2_with fail
      clear r0 r1 r2 r3 r4 r5 r6 r7 r8 r9 r10
      refine wp_loop (fun a' w' => ∃ V : Nat → Value, (∃ x j : Nat, V 5 = .int .i64 (x : Int) ∧ V 6 = .int .i64 (k : Int) ∧ V 7 = .int .i64 (j : Int) ∧ j ≤ nn ∧ n1 ≤ x ∧ x ≤ 1048576 ∧ w' = w) ∧ a' = fr (.slice (some ⟨b, off, none⟩) n1 c1) (.slice A2 n2 c2) (.bool false) (V 5) (V 6) (V 7) (V 8) (V 9) V) (fun a' _ => nn - (intOf (a'.tmps.getD 7 undef)).toNat) ?_ ?_
      · apply lay
        · exact ⟨_, 0, rfl, rfl, rfl, by omega, by omega, by omega, rfl⟩
        · rfl
      · rintro _ wr ⟨V, ⟨x10, j, hV5, hVi, hVj, hj, lo10, hi10, hwr⟩, rfl⟩
        have hwr2 := hwr.symm
        subst hwr2
        clear hwr lo9 hi9 t9
        simp only [fr, hV5, hVi, hVj]
        clear hV5 hVi hVj
        by_cases hjl : j < nn
        · obtain ⟨na, hna⟩ : ∃ na, nA = some na := by
            obtain ⟨b, off, e, _⟩ := HV.out.rows (show 0 < nn by omega)
            exact ⟨_, e⟩
          obtain ⟨nb, noff, hna2, hnbl, hns⟩ := note_cells HV.out hna (show 0 < nn by omega)
          have hnc := hns j hjl
          simp only [] at hnc
          obtain ⟨nj, hnj⟩ : ∃ nj, nj = nt j := ⟨_, rfl⟩
          rw [← hnj] at hnc
          obtain ⟨ntx, npr, nfl, nns, nln, nco, nle, nlt, nsg⟩ := nj
          subst hna2
          subst hna
          have m0 : w.cell? ⟨nb, noff + j * 9, none⟩ = some (.string ntx) := (hnc 0 (by decide)).trans rfl
          have m1 : w.cell? ⟨nb, noff + j * 9 + 1, none⟩ = some (.bool npr) := (hnc 1 (by decide)).trans rfl
          have m2 : w.cell? ⟨nb, noff + j * 9 + 2, none⟩ = some (.string nfl) := (hnc 2 (by decide)).trans rfl
          have m3 : w.cell? ⟨nb, noff + j * 9 + 3, none⟩ = some (.string nns) := (hnc 3 (by decide)).trans rfl
          have m4 : w.cell? ⟨nb, noff + j * 9 + 4, none⟩ = some (.int .i64 nln) := (hnc 4 (by decide)).trans rfl
          have m5 : w.cell? ⟨nb, noff + j * 9 + 5, none⟩ = some (.int .i64 nco) := (hnc 5 (by decide)).trans rfl
          have m6 : w.cell? ⟨nb, noff + j * 9 + 6, none⟩ = some (.int .i64 nle) := (hnc 6 (by decide)).trans rfl
          have m7 : w.cell? ⟨nb, noff + j * 9 + 7, none⟩ = some (.string nlt) := (hnc 7 (by decide)).trans rfl
          have m8 : w.cell? ⟨nb, noff + j * 9 + 8, none⟩ = some (.string nsg) := (hnc 8 (by decide)).trans rfl
          have p0 : (0 : Int) ≤ (j : Int) := by omega
          have p1 : (j : Int) < (nn : Int) := by omega
          clear hns hnc hnj
          go_upto_region 53 with fail
          rcases Bool.eq_false_or_eq_true (decide ((1048576 : Int) < (ntx.size : Nat))) with t11 | t11
          · go_wp2_with fail
            go_ret
            exact Ok4.no
          have s11 : ntx.size ≤ 1048576 := by have := of_decide_eq_false t11; omega
          go_upto_region 56 with fail
          clear t11
          obtain ⟨y11, hy11⟩ : ∃ y11 : Nat, (y11 : Int) = (x10 : Int) + ((ntx.size : Nat) : Int) := ⟨x10 + ntx.size, by omega⟩
          rw [← hy11]
          have lo11 : n1 ≤ y11 := by omega
          clear hy11
          rcases Bool.eq_false_or_eq_true (decide ((1048576 : Int) < (y11 : Int))) with t11 | t11
          · go_wp2_with fail
            go_ret
            exact Ok4.no
          obtain ⟨x11, hx11⟩ : ∃ x11, x11 = y11 := ⟨_, rfl⟩
          rw [← hx11] at t11 lo11 ⊢
          clear hx11
          have hi11 : x11 ≤ 1048576 := by have := of_decide_eq_false t11; omega
          clear lo10 hi10
          go_upto_region 58 with fail
          rcases Bool.eq_false_or_eq_true (decide ((1048576 : Int) < (nfl.size : Nat))) with t12 | t12
          · go_wp2_with fail
            go_ret
            exact Ok4.no
          have s12 : nfl.size ≤ 1048576 := by have := of_decide_eq_false t12; omega
          go_upto_region 61 with fail
          clear t12
          obtain ⟨y12, hy12⟩ : ∃ y12 : Nat, (y12 : Int) = (x11 : Int) + ((nfl.size : Nat) : Int) := ⟨x11 + nfl.size, by omega⟩
          rw [← hy12]
          have lo12 : n1 ≤ y12 := by omega
          clear hy12
          rcases Bool.eq_false_or_eq_true (decide ((1048576 : Int) < (y12 : Int))) with t12 | t12
          · go_wp2_with fail
            go_ret
            exact Ok4.no
          obtain ⟨x12, hx12⟩ : ∃ x12, x12 = y12 := ⟨_, rfl⟩
          rw [← hx12] at t12 lo12 ⊢
          clear hx12
          have hi12 : x12 ≤ 1048576 := by have := of_decide_eq_false t12; omega
          clear lo11 hi11
          go_upto_region 63 with fail
          rcases Bool.eq_false_or_eq_true (decide ((1048576 : Int) < (nns.size : Nat))) with t13 | t13
          · go_wp2_with fail
            go_ret
            exact Ok4.no
          have s13 : nns.size ≤ 1048576 := by have := of_decide_eq_false t13; omega
          go_upto_region 66 with fail
          clear t13
          obtain ⟨y13, hy13⟩ : ∃ y13 : Nat, (y13 : Int) = (x12 : Int) + ((nns.size : Nat) : Int) := ⟨x12 + nns.size, by omega⟩
          rw [← hy13]
          have lo13 : n1 ≤ y13 := by omega
          clear hy13
          rcases Bool.eq_false_or_eq_true (decide ((1048576 : Int) < (y13 : Int))) with t13 | t13
          · go_wp2_with fail
            go_ret
            exact Ok4.no
          obtain ⟨x13, hx13⟩ : ∃ x13, x13 = y13 := ⟨_, rfl⟩
          rw [← hx13] at t13 lo13 ⊢
          clear hx13
          have hi13 : x13 ≤ 1048576 := by have := of_decide_eq_false t13; omega
          clear lo12 hi12
          go_upto_region 68 with fail
          rcases Bool.eq_false_or_eq_true (decide ((1048576 : Int) < (nlt.size : Nat))) with t14 | t14
          · go_wp2_with fail
            go_ret
            exact Ok4.no
          have s14 : nlt.size ≤ 1048576 := by have := of_decide_eq_false t14; omega
          go_upto_region 71 with fail
          clear t14
          obtain ⟨y14, hy14⟩ : ∃ y14 : Nat, (y14 : Int) = (x13 : Int) + ((nlt.size : Nat) : Int) := ⟨x13 + nlt.size, by omega⟩
          rw [← hy14]
          have lo14 : n1 ≤ y14 := by omega
          clear hy14
          rcases Bool.eq_false_or_eq_true (decide ((1048576 : Int) < (y14 : Int))) with t14 | t14
          · go_wp2_with fail
            go_ret
            exact Ok4.no
          obtain ⟨x14, hx14⟩ : ∃ x14, x14 = y14 := ⟨_, rfl⟩
          rw [← hx14] at t14 lo14 ⊢
          clear hx14
          have hi14 : x14 ≤ 1048576 := by have := of_decide_eq_false t14; omega
          clear lo13 hi13
          go_upto_region 73 with fail
          rcases Bool.eq_false_or_eq_true (decide ((1048576 : Int) < (nsg.size : Nat))) with t15 | t15
          · go_wp2_with fail
            go_ret
            exact Ok4.no
          have s15 : nsg.size ≤ 1048576 := by have := of_decide_eq_false t15; omega
          go_upto_region 76 with fail
          clear t15
          obtain ⟨y15, hy15⟩ : ∃ y15 : Nat, (y15 : Int) = (x14 : Int) + ((nsg.size : Nat) : Int) := ⟨x14 + nsg.size, by omega⟩
          rw [← hy15]
          have lo15 : n1 ≤ y15 := by omega
          clear hy15
          rcases Bool.eq_false_or_eq_true (decide ((1048576 : Int) < (y15 : Int))) with t15 | t15
          · go_wp2_with fail
            go_ret
            exact Ok4.no
          obtain ⟨x15, hx15⟩ : ∃ x15, x15 = y15 := ⟨_, rfl⟩
          rw [← hx15] at t15 lo15 ⊢
          clear hx15
          have hi15 : x15 ≤ 1048576 := by have := of_decide_eq_false t15; omega
          clear lo14 hi14
          go_wp2_with fail
          refine ⟨?_, ?_⟩
          · apply lay
            · exact ⟨_, j + 1, rfl, rfl, (by show Value.int .i64 _ = _; go_num), by omega, lo15, hi15, (by first | rfl | trivial)⟩
            · rfl
          · simp [intOf]
            omega
        · obtain rfl : nn = j := by omega
          have y0 : decide ((nn : Int) < nn) = false := decide_eq_false (by omega)
          go_wp2_with fail
          refine ⟨?_, ?_⟩
          · apply lay
            · refine ⟨_, k + 1, rfl, (by show Value.int .i64 _ = _; go_num), by omega, lo10, hi10, (by first | rfl | trivial), Lib.hid fun i hi => ?_⟩
              rcases Nat.lt_or_ge i k with h | h
              · exact HK.out i h
              · obtain rfl : i = k := by omega
                rw [← HM.out]
                exact hnn
            · rfl
          · simp [intOf]
            omega
    · obtain rfl : n1 = k := by omega
      have z0 : decide ((n1 : Int) < n1) = false := decide_eq_false (by omega)
      go_upto_region 78 with fail
      clear z0
      rcases Bool.eq_false_or_eq_true (decide ((1048576 : Int) < n2)) with t999 | t999
      · go_wp2_with fail
        go_ret
        exact Ok4.no
      have b2 : n2 ≤ 1048576 := by have := of_decide_eq_false t999; omega
      go_upto_region 81 with fail
      obtain ⟨y999, hy999⟩ : ∃ y999 : Nat, (y999 : Int) = (x1 : Int) + ((n2 : Nat) : Int) := ⟨x1 + n2, by omega⟩
      rw [← hy999]
      have lo999 : n1 + n2 ≤ y999 := by omega
      clear hy999
      rcases Bool.eq_false_or_eq_true (decide ((1048576 : Int) < (y999 : Int))) with t998 | t998
      · go_wp2_with fail
        go_ret
        exact Ok4.no
      have hi999 : y999 ≤ 1048576 := by have := of_decide_eq_false t998; omega
      have HK1 := HK
      clear t999 t998 lo1 hi1 HK
      go_wp2_with fail
      refine wp_loop (fun a' w' => ∃ U : Nat → Value, (∃ x k : Nat, U 5 = .int .i64 (x : Int) ∧ U 8 = .int .i64 (k : Int) ∧ k ≤ n2 ∧ n1 + n2 ≤ x ∧ x ≤ 1048576 ∧ w' = w ∧ Hid (∀ i, i < k → (M2 i).nn ≤ 1048576)) ∧ a' = fr (.slice A1 n1 c1) (.slice A2 n2 c2) (.bool false) (U 5) (U 6) (U 7) (U 8) (U 9) U) (fun a' _ => n2 - (intOf (a'.tmps.getD 8 undef)).toNat) ?_ ?_
      · apply lay
        · exact ⟨_, 0, rfl, rfl, by omega, by omega, by omega, rfl, Lib.hid (fun i hi => absurd hi (by omega))⟩
        · rfl
      · rintro _ wr ⟨U, ⟨x16, k, hU5, hUi, hk, lo16, hi16, hwr, HK⟩, rfl⟩
        have hwr2 := hwr.symm
        subst hwr2
        clear hwr
        simp only [fr, hU5, hUi]
        clear hU5 hUi
        by_cases hlt : k < n2
        · obtain ⟨a, hA⟩ : ∃ a, A2 = some a := by
            obtain ⟨b, off, e, _⟩ := H2.out.1 (by omega)
            exact ⟨_, e⟩
          subst hA
          obtain ⟨b, off, rfl, hbl, hcs⟩ := src_cells H2.out (by omega)
          have hc := hcs k hlt
          have hwf := H2.out.2 k hlt
          clear hcs
          obtain ⟨m, hm⟩ : ∃ m, m = M2 k := ⟨_, rfl⟩
          rw [← hm] at hc hwf
          obtain ⟨id, pl, tx, ⟨pr, fl, ns, ln, co, le, lt, sg⟩, nA, nn, nc, nt⟩ := m
          have r0 : w.cell? ⟨b, off + k * 12, none⟩ = some (.string id) := (hc 0 (by decide)).trans rfl
          have r1 : w.cell? ⟨b, off + k * 12 + 1, none⟩ = some (.string pl) := (hc 1 (by decide)).trans rfl
          have r2 : w.cell? ⟨b, off + k * 12 + 2, none⟩ = some (.string tx) := (hc 2 (by decide)).trans rfl
          have r3 : w.cell? ⟨b, off + k * 12 + 3, none⟩ = some (.bool pr) := (hc 3 (by decide)).trans rfl
          have r4 : w.cell? ⟨b, off + k * 12 + 4, none⟩ = some (.string fl) := (hc 4 (by decide)).trans rfl
          have r5 : w.cell? ⟨b, off + k * 12 + 5, none⟩ = some (.string ns) := (hc 5 (by decide)).trans rfl
          have r6 : w.cell? ⟨b, off + k * 12 + 6, none⟩ = some (.int .i64 ln) := (hc 6 (by decide)).trans rfl
          have r7 : w.cell? ⟨b, off + k * 12 + 7, none⟩ = some (.int .i64 co) := (hc 7 (by decide)).trans rfl
          have r8 : w.cell? ⟨b, off + k * 12 + 8, none⟩ = some (.int .i64 le) := (hc 8 (by decide)).trans rfl
          have r9 : w.cell? ⟨b, off + k * 12 + 9, none⟩ = some (.string lt) := (hc 9 (by decide)).trans rfl
          have r10 : w.cell? ⟨b, off + k * 12 + 10, none⟩ = some (.string sg) := (hc 10 (by decide)).trans rfl
          have r11 : w.cell? ⟨b, off + k * 12 + 11, none⟩ = some (.slice nA nn nc) := (hc 11 (by decide)).trans rfl
          have HM := Lib.hid hm
          have HV := Lib.hid hwf
          have q0 : (0 : Int) ≤ (k : Int) := by omega
          have q1 : (k : Int) < (n2 : Int) := by omega
          clear hc hm hwf
          go_upto_region 86 with fail
          rcases Bool.eq_false_or_eq_true (decide ((1048576 : Int) < (id.size : Nat))) with t17 | t17
          · go_wp2_with fail
            go_ret
            exact Ok4.no
          have s17 : id.size ≤ 1048576 := by have := of_decide_eq_false t17; omega
          go_upto_region 89 with fail
          clear t17
          obtain ⟨y17, hy17⟩ : ∃ y17 : Nat, (y17 : Int) = (x16 : Int) + ((id.size : Nat) : Int) := ⟨x16 + id.size, by omega⟩
          rw [← hy17]
          have lo17 : n1 + n2 ≤ y17 := by omega
          clear hy17
          rcases Bool.eq_false_or_eq_true (decide ((1048576 : Int) < (y17 : Int))) with t17 | t17
          · go_wp2_with fail
            go_ret
            exact Ok4.no
          obtain ⟨x17, hx17⟩ : ∃ x17, x17 = y17 := ⟨_, rfl⟩
          rw [← hx17] at t17 lo17 ⊢
          clear hx17
          have hi17 : x17 ≤ 1048576 := by have := of_decide_eq_false t17; omega
          clear lo16 hi16
          go_upto_region 91 with fail
          rcases Bool.eq_false_or_eq_true (decide ((1048576 : Int) < (pl.size : Nat))) with t18 | t18
          · go_wp2_with fail
            go_ret
            exact Ok4.no
          have s18 : pl.size ≤ 1048576 := by have := of_decide_eq_false t18; omega
          go_upto_region 94 with fail
          clear t18
          obtain ⟨y18, hy18⟩ : ∃ y18 : Nat, (y18 : Int) = (x17 : Int) + ((pl.size : Nat) : Int) := ⟨x17 + pl.size, by omega⟩
          rw [← hy18]
          have lo18 : n1 + n2 ≤ y18 := by omega
          clear hy18
          rcases Bool.eq_false_or_eq_true (decide ((1048576 : Int) < (y18 : Int))) with t18 | t18
          · go_wp2_with fail
            go_ret
            exact Ok4.no
          obtain ⟨x18, hx18⟩ : ∃ x18, x18 = y18 := ⟨_, rfl⟩
          rw [← hx18] at t18 lo18 ⊢
          clear hx18
          have hi18 : x18 ≤ 1048576 := by have := of_decide_eq_false t18; omega
          clear lo17 hi17
          go_upto_region 96 with fail
          rcases Bool.eq_false_or_eq_true (decide ((1048576 : Int) < (tx.size : Nat))) with t19 | t19
          · go_wp2_with fail
            go_ret
            exact Ok4.no
          have s19 : tx.size ≤ 1048576 := by have := of_decide_eq_false t19; omega
          go_upto_region 99 with fail
          clear t19
          obtain ⟨y19, hy19⟩ : ∃ y19 : Nat, (y19 : Int) = (x18 : Int) + ((tx.size : Nat) : Int) := ⟨x18 + tx.size, by omega⟩
          rw [← hy19]
          have lo19 : n1 + n2 ≤ y19 := by omega
          clear hy19
          rcases Bool.eq_false_or_eq_true (decide ((1048576 : Int) < (y19 : Int))) with t19 | t19
          · go_wp2_with fail
            go_ret
            exact Ok4.no
          obtain ⟨x19, hx19⟩ : ∃ x19, x19 = y19 := ⟨_, rfl⟩
          rw [← hx19] at t19 lo19 ⊢
          clear hx19
          have hi19 : x19 ≤ 1048576 := by have := of_decide_eq_false t19; omega
          clear lo18 hi18
          go_upto_region 101 with fail
          rcases Bool.eq_false_or_eq_true (decide ((1048576 : Int) < (fl.size : Nat))) with t20 | t20
          · go_wp2_with fail
            go_ret
            exact Ok4.no
          have s20 : fl.size ≤ 1048576 := by have := of_decide_eq_false t20; omega
          go_upto_region 104 with fail
          clear t20
          obtain ⟨y20, hy20⟩ : ∃ y20 : Nat, (y20 : Int) = (x19 : Int) + ((fl.size : Nat) : Int) := ⟨x19 + fl.size, by omega⟩
          rw [← hy20]
          have lo20 : n1 + n2 ≤ y20 := by omega
          clear hy20
          rcases Bool.eq_false_or_eq_true (decide ((1048576 : Int) < (y20 : Int))) with t20 | t20
          · go_wp2_with fail
            go_ret
            exact Ok4.no
          obtain ⟨x20, hx20⟩ : ∃ x20, x20 = y20 := ⟨_, rfl⟩
          rw [← hx20] at t20 lo20 ⊢
          clear hx20
          have hi20 : x20 ≤ 1048576 := by have := of_decide_eq_false t20; omega
          clear lo19 hi19
          go_upto_region 106 with fail
          rcases Bool.eq_false_or_eq_true (decide ((1048576 : Int) < (ns.size : Nat))) with t21 | t21
          · go_wp2_with fail
            go_ret
            exact Ok4.no
          have s21 : ns.size ≤ 1048576 := by have := of_decide_eq_false t21; omega
          go_upto_region 109 with fail
          clear t21
          obtain ⟨y21, hy21⟩ : ∃ y21 : Nat, (y21 : Int) = (x20 : Int) + ((ns.size : Nat) : Int) := ⟨x20 + ns.size, by omega⟩
          rw [← hy21]
          have lo21 : n1 + n2 ≤ y21 := by omega
          clear hy21
          rcases Bool.eq_false_or_eq_true (decide ((1048576 : Int) < (y21 : Int))) with t21 | t21
          · go_wp2_with fail
            go_ret
            exact Ok4.no
          obtain ⟨x21, hx21⟩ : ∃ x21, x21 = y21 := ⟨_, rfl⟩
          rw [← hx21] at t21 lo21 ⊢
          clear hx21
          have hi21 : x21 ≤ 1048576 := by have := of_decide_eq_false t21; omega
          clear lo20 hi20
          go_upto_region 111 with fail
          rcases Bool.eq_false_or_eq_true (decide ((1048576 : Int) < (lt.size : Nat))) with t22 | t22
          · go_wp2_with fail
            go_ret
            exact Ok4.no
          have s22 : lt.size ≤ 1048576 := by have := of_decide_eq_false t22; omega
          go_upto_region 114 with fail
          clear t22
          obtain ⟨y22, hy22⟩ : ∃ y22 : Nat, (y22 : Int) = (x21 : Int) + ((lt.size : Nat) : Int) := ⟨x21 + lt.size, by omega⟩
          rw [← hy22]
          have lo22 : n1 + n2 ≤ y22 := by omega
          clear hy22
          rcases Bool.eq_false_or_eq_true (decide ((1048576 : Int) < (y22 : Int))) with t22 | t22
          · go_wp2_with fail
            go_ret
            exact Ok4.no
          obtain ⟨x22, hx22⟩ : ∃ x22, x22 = y22 := ⟨_, rfl⟩
          rw [← hx22] at t22 lo22 ⊢
          clear hx22
          have hi22 : x22 ≤ 1048576 := by have := of_decide_eq_false t22; omega
          clear lo21 hi21
          go_upto_region 116 with fail
          rcases Bool.eq_false_or_eq_true (decide ((1048576 : Int) < (sg.size : Nat))) with t23 | t23
          · go_wp2_with fail
            go_ret
            exact Ok4.no
          have s23 : sg.size ≤ 1048576 := by have := of_decide_eq_false t23; omega
          go_upto_region 119 with fail
          clear t23
          obtain ⟨y23, hy23⟩ : ∃ y23 : Nat, (y23 : Int) = (x22 : Int) + ((sg.size : Nat) : Int) := ⟨x22 + sg.size, by omega⟩
          rw [← hy23]
          have lo23 : n1 + n2 ≤ y23 := by omega
          clear hy23
          rcases Bool.eq_false_or_eq_true (decide ((1048576 : Int) < (y23 : Int))) with t23 | t23
          · go_wp2_with fail
            go_ret
            exact Ok4.no
          obtain ⟨x23, hx23⟩ : ∃ x23, x23 = y23 := ⟨_, rfl⟩
          rw [← hx23] at t23 lo23 ⊢
          clear hx23
          have hi23 : x23 ≤ 1048576 := by have := of_decide_eq_false t23; omega
          clear lo22 hi22
          go_upto_region 121 with fail
          rcases Bool.eq_false_or_eq_true (decide ((1048576 : Int) < (nn : Nat))) with t24 | t24
          · go_wp2_with fail
            go_ret
            exact Ok4.no
          have s24 : nn ≤ 1048576 := by have := of_decide_eq_false t24; omega
          go_upto_region 124 with fail
          clear t24
          obtain ⟨y24, hy24⟩ : ∃ y24 : Nat, (y24 : Int) = (x23 : Int) + ((nn : Nat) : Int) := ⟨x23 + nn, by omega⟩
          rw [← hy24]
          have lo24 : n1 + n2 ≤ y24 := by omega
          clear hy24
          rcases Bool.eq_false_or_eq_true (decide ((1048576 : Int) < (y24 : Int))) with t24 | t24
          · go_wp2_with fail
            go_ret
            exact Ok4.no
          obtain ⟨x24, hx24⟩ : ∃ x24, x24 = y24 := ⟨_, rfl⟩
          rw [← hx24] at t24 lo24 ⊢
          clear hx24
          have hi24 : x24 ≤ 1048576 := by have := of_decide_eq_false t24; omega
          clear lo23 hi23
          have hnn : nn ≤ 1048576 := s24
          go_wp2_with fail
          clear r0 r1 r2 r3 r4 r5 r6 r7 r8 r9 r10
          refine wp_loop (fun a' w' => ∃ V : Nat → Value, (∃ x j : Nat, V 5 = .int .i64 (x : Int) ∧ V 8 = .int .i64 (k : Int) ∧ V 9 = .int .i64 (j : Int) ∧ j ≤ nn ∧ n1 + n2 ≤ x ∧ x ≤ 1048576 ∧ w' = w) ∧ a' = fr (.slice A1 n1 c1) (.slice (some ⟨b, off, none⟩) n2 c2) (.bool false) (V 5) (V 6) (V 7) (V 8) (V 9) V) (fun a' _ => nn - (intOf (a'.tmps.getD 9 undef)).toNat) ?_ ?_
          · apply lay
            · exact ⟨_, 0, rfl, rfl, rfl, by omega, by omega, by omega, rfl⟩
            · rfl
          · rintro _ wr ⟨V, ⟨x25, j, hV5, hVi, hVj, hj, lo25, hi25, hwr⟩, rfl⟩
            have hwr2 := hwr.symm
            subst hwr2
            clear hwr lo24 hi24 t24
            simp only [fr, hV5, hVi, hVj]
            clear hV5 hVi hVj
            by_cases hjl : j < nn
            · obtain ⟨na, hna⟩ : ∃ na, nA = some na := by
                obtain ⟨b, off, e, _⟩ := HV.out.rows (show 0 < nn by omega)
                exact ⟨_, e⟩
              obtain ⟨nb, noff, hna2, hnbl, hns⟩ := note_cells HV.out hna (show 0 < nn by omega)
              have hnc := hns j hjl
              simp only [] at hnc
              obtain ⟨nj, hnj⟩ : ∃ nj, nj = nt j := ⟨_, rfl⟩
              rw [← hnj] at hnc
              obtain ⟨ntx, npr, nfl, nns, nln, nco, nle, nlt, nsg⟩ := nj
              subst hna2
              subst hna
              have m0 : w.cell? ⟨nb, noff + j * 9, none⟩ = some (.string ntx) := (hnc 0 (by decide)).trans rfl
              have m1 : w.cell? ⟨nb, noff + j * 9 + 1, none⟩ = some (.bool npr) := (hnc 1 (by decide)).trans rfl
              have m2 : w.cell? ⟨nb, noff + j * 9 + 2, none⟩ = some (.string nfl) := (hnc 2 (by decide)).trans rfl
              have m3 : w.cell? ⟨nb, noff + j * 9 + 3, none⟩ = some (.string nns) := (hnc 3 (by decide)).trans rfl
              have m4 : w.cell? ⟨nb, noff + j * 9 + 4, none⟩ = some (.int .i64 nln) := (hnc 4 (by decide)).trans rfl
              have m5 : w.cell? ⟨nb, noff + j * 9 + 5, none⟩ = some (.int .i64 nco) := (hnc 5 (by decide)).trans rfl
              have m6 : w.cell? ⟨nb, noff + j * 9 + 6, none⟩ = some (.int .i64 nle) := (hnc 6 (by decide)).trans rfl
              have m7 : w.cell? ⟨nb, noff + j * 9 + 7, none⟩ = some (.string nlt) := (hnc 7 (by decide)).trans rfl
              have m8 : w.cell? ⟨nb, noff + j * 9 + 8, none⟩ = some (.string nsg) := (hnc 8 (by decide)).trans rfl
              have p0 : (0 : Int) ≤ (j : Int) := by omega
              have p1 : (j : Int) < (nn : Int) := by omega
              clear hns hnc hnj
              go_upto_region 129 with fail
              rcases Bool.eq_false_or_eq_true (decide ((1048576 : Int) < (ntx.size : Nat))) with t26 | t26
              · go_wp2_with fail
                go_ret
                exact Ok4.no
              have s26 : ntx.size ≤ 1048576 := by have := of_decide_eq_false t26; omega
              go_upto_region 132 with fail
              clear t26
              obtain ⟨y26, hy26⟩ : ∃ y26 : Nat, (y26 : Int) = (x25 : Int) + ((ntx.size : Nat) : Int) := ⟨x25 + ntx.size, by omega⟩
              rw [← hy26]
              have lo26 : n1 + n2 ≤ y26 := by omega
              clear hy26
              rcases Bool.eq_false_or_eq_true (decide ((1048576 : Int) < (y26 : Int))) with t26 | t26
              · go_wp2_with fail
                go_ret
                exact Ok4.no
              obtain ⟨x26, hx26⟩ : ∃ x26, x26 = y26 := ⟨_, rfl⟩
              rw [← hx26] at t26 lo26 ⊢
              clear hx26
              have hi26 : x26 ≤ 1048576 := by have := of_decide_eq_false t26; omega
              clear lo25 hi25
              go_upto_region 134 with fail
              rcases Bool.eq_false_or_eq_true (decide ((1048576 : Int) < (nfl.size : Nat))) with t27 | t27
              · go_wp2_with fail
                go_ret
                exact Ok4.no
              have s27 : nfl.size ≤ 1048576 := by have := of_decide_eq_false t27; omega
              go_upto_region 137 with fail
              clear t27
              obtain ⟨y27, hy27⟩ : ∃ y27 : Nat, (y27 : Int) = (x26 : Int) + ((nfl.size : Nat) : Int) := ⟨x26 + nfl.size, by omega⟩
              rw [← hy27]
              have lo27 : n1 + n2 ≤ y27 := by omega
              clear hy27
              rcases Bool.eq_false_or_eq_true (decide ((1048576 : Int) < (y27 : Int))) with t27 | t27
              · go_wp2_with fail
                go_ret
                exact Ok4.no
              obtain ⟨x27, hx27⟩ : ∃ x27, x27 = y27 := ⟨_, rfl⟩
              rw [← hx27] at t27 lo27 ⊢
              clear hx27
              have hi27 : x27 ≤ 1048576 := by have := of_decide_eq_false t27; omega
              clear lo26 hi26
              go_upto_region 139 with fail
              rcases Bool.eq_false_or_eq_true (decide ((1048576 : Int) < (nns.size : Nat))) with t28 | t28
              · go_wp2_with fail
                go_ret
                exact Ok4.no
              have s28 : nns.size ≤ 1048576 := by have := of_decide_eq_false t28; omega
              go_upto_region 142 with fail
              clear t28
              obtain ⟨y28, hy28⟩ : ∃ y28 : Nat, (y28 : Int) = (x27 : Int) + ((nns.size : Nat) : Int) := ⟨x27 + nns.size, by omega⟩
              rw [← hy28]
              have lo28 : n1 + n2 ≤ y28 := by omega
              clear hy28
              rcases Bool.eq_false_or_eq_true (decide ((1048576 : Int) < (y28 : Int))) with t28 | t28
              · go_wp2_with fail
                go_ret
                exact Ok4.no
              obtain ⟨x28, hx28⟩ : ∃ x28, x28 = y28 := ⟨_, rfl⟩
              rw [← hx28] at t28 lo28 ⊢
              clear hx28
              have hi28 : x28 ≤ 1048576 := by have := of_decide_eq_false t28; omega
              clear lo27 hi27
              go_upto_region 144 with fail
              rcases Bool.eq_false_or_eq_true (decide ((1048576 : Int) < (nlt.size : Nat))) with t29 | t29
              · go_wp2_with fail
                go_ret
                exact Ok4.no
              have s29 : nlt.size ≤ 1048576 := by have := of_decide_eq_false t29; omega
              go_upto_region 147 with fail
              clear t29
              obtain ⟨y29, hy29⟩ : ∃ y29 : Nat, (y29 : Int) = (x28 : Int) + ((nlt.size : Nat) : Int) := ⟨x28 + nlt.size, by omega⟩
              rw [← hy29]
              have lo29 : n1 + n2 ≤ y29 := by omega
              clear hy29
              rcases Bool.eq_false_or_eq_true (decide ((1048576 : Int) < (y29 : Int))) with t29 | t29
              · go_wp2_with fail
                go_ret
                exact Ok4.no
              obtain ⟨x29, hx29⟩ : ∃ x29, x29 = y29 := ⟨_, rfl⟩
              rw [← hx29] at t29 lo29 ⊢
              clear hx29
              have hi29 : x29 ≤ 1048576 := by have := of_decide_eq_false t29; omega
              clear lo28 hi28
              go_upto_region 149 with fail
              rcases Bool.eq_false_or_eq_true (decide ((1048576 : Int) < (nsg.size : Nat))) with t30 | t30
              · go_wp2_with fail
                go_ret
                exact Ok4.no
              have s30 : nsg.size ≤ 1048576 := by have := of_decide_eq_false t30; omega
              go_upto_region 152 with fail
              clear t30
              obtain ⟨y30, hy30⟩ : ∃ y30 : Nat, (y30 : Int) = (x29 : Int) + ((nsg.size : Nat) : Int) := ⟨x29 + nsg.size, by omega⟩
              rw [← hy30]
              have lo30 : n1 + n2 ≤ y30 := by omega
              clear hy30
              rcases Bool.eq_false_or_eq_true (decide ((1048576 : Int) < (y30 : Int))) with t30 | t30
              · go_wp2_with fail
                go_ret
                exact Ok4.no
              obtain ⟨x30, hx30⟩ : ∃ x30, x30 = y30 := ⟨_, rfl⟩
              rw [← hx30] at t30 lo30 ⊢
              clear hx30
              have hi30 : x30 ≤ 1048576 := by have := of_decide_eq_false t30; omega
              clear lo29 hi29
              go_wp2_with fail
              refine ⟨?_, ?_⟩
              · apply lay
                · exact ⟨_, j + 1, rfl, rfl, (by show Value.int .i64 _ = _; go_num), by omega, lo30, hi30, (by first | rfl | trivial)⟩
                · rfl
              · simp [intOf]
                omega
            · obtain rfl : nn = j := by omega
              have y0 : decide ((nn : Int) < nn) = false := decide_eq_false (by omega)
              go_wp2_with fail
              refine ⟨?_, ?_⟩
              · apply lay
                · refine ⟨_, k + 1, rfl, (by show Value.int .i64 _ = _; go_num), by omega, lo25, hi25, (by first | rfl | trivial), Lib.hid fun i hi => ?_⟩
                  rcases Nat.lt_or_ge i k with h | h
                  · exact HK.out i h
                  · obtain rfl : i = k := by omega
                    rw [← HM.out]
                    exact hnn
                · rfl
              · simp [intOf]
                omega
        · obtain rfl : n2 = k := by omega
          have z0 : decide ((n2 : Int) < n2) = false := decide_eq_false (by omega)
          go_wp2_with fail
          go_ret
          exact ⟨rfl, true, rfl, fun _ => ⟨by omega, HK1.out, HK.out⟩⟩
end Go.Proofs.Ytmjfdhgfpgeboad.Zz
