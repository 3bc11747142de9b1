/-
  Contracts for the law on reverse resolution at an array of condition objects: a leaf, an object; the list look-up; the last comparison. Conditions: sizes alone.
-/
import Derived.Test.YtjfegbkbhbhcoaaEx
import Derived.Maps.OwnSet
import Derived.OwnWalk
namespace Go.Proofs.Ytjfegbkbhbhcoaa.Ya
open Go.RowKit Go.PlainAid Str Mem Rws Ex Go.Maps
set_option linter.unusedVariables false
def yes3 (key : ByteArray) (a b : Int) : Value := .tuple #[.bool true, .string key, .agg #[.int .i32 a, .int .i32 b]]
abbrev leafV (s : ByteArray) (a b : Int) : Value := .agg #[.string s, .slice none 0 0, .slice none 0 0, .slice none 0 0, .int .i32 a, .int .i32 b, .int .u8 1]
/-- What a leaf answers. -/
def Ans (ok : Bool) (key : ByteArray) (a b : Int) (w : World) (e : Ending) (w' : World) : Prop := e = .returned (if ok = true then yes3 key a b else no3) ∧ Below w.heap.size w w'
set_option maxRecDepth 100000 in
set_option maxHeartbeats 4000000 in
theorem leaf24 (q key s : ByteArray) (a b : Int) (mp : Value) (w : World) :
    Calls Try.prog 24 #[rq, .string q, .string key, leafV s a b, .int .u8 0, mp] w (Ans (q.toList == s.toList) key a b w) := by
  cases t : (q.toList == s.toList)
  · go_enter Try.func24, Try.ntmps24
    go_wp2_with fail
    go_returns
    exact ⟨rfl, by go_grown⟩
  · go_enter Try.func24, Try.ntmps24
    go_wp2_with fail
    go_region
    go_wp2_with fail
    go_returns
    exact ⟨rfl, by go_grown⟩
def inS (S : Nat → ByteArray) (n : Nat) (q : ByteArray) : Bool := (List.range n).any fun j => (S j).toList == q.toList
theorem inS_yes {S : Nat → ByteArray} {n k : Nat} {q : ByteArray} (hk : k < n) (h : ((S k).toList == q.toList) = true) : inS S n q = true := List.any_eq_true.2 ⟨k, List.mem_range.2 hk, h⟩
theorem inS_no {S : Nat → ByteArray} {n : Nat} {q : ByteArray} (h : ∀ j, j < n → ((S j).toList == q.toList) = false) : inS S n q = false := by
  unfold inS
  rw [List.any_eq_false]
  intro j hj
  rw [h j (List.mem_range.1 hj)]
  simp
set_option maxRecDepth 100000 in
set_option maxHeartbeats 4000000 in
theorem in19 (A : Option Addr) (n c : Nat) (S : Nat → ByteArray) (q : ByteArray) (w : World) (hA : Rd w w.heap.size 1 A n (fun j => .string (S j))) (hn : n ≤ 1048576) :
    Calls Try.prog 19 #[.slice A n c, .string q] w fun e w' => e = .returned (.bool (inS S n q)) ∧ w = w' := by
  have HA := Lib.hid hA
  clear hA
  go_enter Try.func19, Try.ntmps19
  go_wp2_with fail
  go_loop [5] (fun i => ∃ k : Nat, k ≤ n ∧ i = .int .i64 k ∧ Hid (∀ j, j < k → ((S j).toList == q.toList) = false)) (fun i => n - (intOf i).toNat)
  case atStart => exact ⟨0, by omega, rfl, Lib.hid fun j hj => by omega⟩
  case round =>
    obtain ⟨k, hk, rfl, HD⟩ := hrel
    by_cases hlt : k < n
    · obtain ⟨b, off, rfl, hb, hc⟩ := HA.out (by omega)
      have hck := hc k (by omega)
      clear hc
      cases t : ((S k).toList == q.toList)
      · have HD2 : Hid (∀ j, j < k + 1 → ((S j).toList == q.toList) = false) := Lib.hid fun j hj => by
          by_cases e : j = k
          · rw [e]; exact t
          · exact HD.out j (by omega)
        go_wp2_with fail
        go_round
        case rel => exact ⟨k + 1, by omega, by go_num, HD2⟩
        case measure => simp [intOf]; omega
      · have HY := Lib.hid (inS_yes hlt t)
        go_wp2_with fail
        go_ret
        exact ⟨by rw [HY.out]; rfl, rfl⟩
    · have HN := Lib.hid (inS_no (S := S) (n := n) (q := q) (fun j hj => HD.out j (by omega)))
      go_wp2_with fail
      go_ret
      exact ⟨by rw [HN.out]; rfl, rfl⟩
set_option maxRecDepth 100000 in
set_option maxHeartbeats 4000000 in
theorem agrees20 (ok : Bool) (sub : ByteArray) (ts tl : Int) (wok : Bool) (ws : ByteArray) (wt wl : Int) (w : World) (h : if wok = true then ok = true ∧ sub = ws ∧ ts = wt ∧ tl = wl else ok = false ∧ sub = ⟨#[]⟩ ∧ ts = 0 ∧ tl = 0) :
    Calls Try.prog 20 #[.bool ok, .string sub, .int .i32 ts, .int .i32 tl, .bool wok, .string ws, .int .i32 wt, .int .i32 wl] w fun e w' => e = .returned (.bool true) ∧ w = w' := by
  cases wok
  · obtain ⟨rfl, rfl, rfl, rfl⟩ := h
    go_enter Try.func20, Try.ntmps20
    go_wp2_with fail
    go_ret
    exact ⟨rfl, rfl⟩
  · obtain ⟨rfl, rfl, rfl, rfl⟩ := h
    have t0 : (sub.toList == sub.toList) = true := by simp
    go_enter Try.func20, Try.ntmps20
    go_wp2_with fail
    go_ret
    exact ⟨rfl, rfl⟩
theorem new_keep {w : World} {b o : Nat} {v : Value} (h : w.cell? ⟨b, o, none⟩ = some v) (x : Obj) : (w.alloc x).cell? ⟨b, o, none⟩ = some v := by
  rw [World.cell?_alloc_lt _ _ _ (World.block_lt_of_cell? w _ h)]; exact h
def entL (K V : ByteArray) (T : Int) : List Value := [.string K, .string V, .slice none 0 0, .slice none 0 0, .slice none 0 0, .int .i32 T, .int .i32 1, .int .u8 1, .int .i32 0, .int .i32 0]
/-- m entries of an object, from offset o of block g on. -/
def Ent (w : World) (g o m : Nat) (K V : Nat → ByteArray) (T : Nat → Int) : Prop := ∀ j, j < m → ∀ r, r < 10 → w.cell? ⟨g, o + (j * 10 + r), none⟩ = some ((entL (K j) (V j) (T j)).getD r undef)
theorem Ent.keep {w w' : World} {g o m : Nat} {K V : Nat → ByteArray} {T : Nat → Int} (h : Ent w g o m K V T) (hk : ∀ o, w'.cell? ⟨g, o, none⟩ = w.cell? ⟨g, o, none⟩) : Ent w' g o m K V T := fun j hj r hr => (hk _).trans (h j hj r hr)
theorem Ent.below {w w' : World} {g o m : Nat} {K V : Nat → ByteArray} {T : Nat → Int} (h : Ent w g o m K V T) (hb : Below w.heap.size w w') : Ent w' g o m K V T := fun j hj r hr =>
  (hb.cell (p := ⟨g, o + (j * 10 + r), none⟩) (World.block_lt_of_cell? w _ (h j hj r hr))).trans (h j hj r hr)
/-- The conditions: what a look-up says. -/
def Cnd (mp : Value) (cnd : ByteArray → Bool) (w : World) : Prop := ∀ W, Below w.heap.size w W → ∀ k : ByteArray, k.size ≤ maxLen → (Instr.lookup 44 mp (.string k) false).run Try.prog W = .ok (.bool (cnd k)) W
theorem Cnd.below {mp : Value} {cnd : ByteArray → Bool} {w w' : World} (h : Cnd mp cnd w) (hb : Below w.heap.size w w') : Cnd mp cnd w' := fun W h2 k hk => h W (hb.trans (h2.mono hb.size)) k hk
/-- Is the key 'default' or among the conditions? -/
def ck (cnd : ByteArray → Bool) (K : ByteArray) : Bool := (K.toList == [100, 101, 102, 97, 117, 108, 116]) || cnd K
def hit (cnd : ByteArray → Bool) (q : ByteArray) (K V : Nat → ByteArray) (j : Nat) : Bool := ck cnd (K j) && (q.toList == (V j).toList)
/-- What an object answers. -/
def OAns (cnd : ByteArray → Bool) (q key : ByteArray) (m : Nat) (K V : Nat → ByteArray) (T : Nat → Int) (w : World) (e : Ending) (w' : World) : Prop :=
  ((∃ j, j < m ∧ hit cnd q K V j = true ∧ (∀ i, i < j → hit cnd q K V i = false) ∧ e = .returned (yes3 key (T j) 1)) ∨ ((∀ j, j < m → hit cnd q K V j = false) ∧ e = .returned no3)) ∧ Below w.heap.size w w'
theorem ten {w : World} {g o m j : Nat} {K V : Nat → ByteArray} {T : Nat → Int} (h : Ent w g o m K V T) (hj : j < m) : w.cell? ⟨g, o + j * 10, none⟩ = some (.string (K j)) ∧ w.cell? ⟨g, o + j * 10 + 1, none⟩ = some (.string (V j)) ∧ w.cell? ⟨g, o + j * 10 + 2, none⟩ = some (.slice none 0 0) ∧ w.cell? ⟨g, o + j * 10 + 3, none⟩ = some (.slice none 0 0) ∧ w.cell? ⟨g, o + j * 10 + 4, none⟩ = some (.slice none 0 0) ∧ w.cell? ⟨g, o + j * 10 + 5, none⟩ = some (.int .i32 (T j)) ∧ w.cell? ⟨g, o + j * 10 + 6, none⟩ = some (.int .i32 1) ∧ w.cell? ⟨g, o + j * 10 + 7, none⟩ = some (.int .u8 1) ∧ w.cell? ⟨g, o + j * 10 + 8, none⟩ = some (.int .i32 0) ∧ w.cell? ⟨g, o + j * 10 + 9, none⟩ = some (.int .i32 0) :=
  ⟨h j hj 0 (by omega), h j hj 1 (by omega), h j hj 2 (by omega), h j hj 3 (by omega), h j hj 4 (by omega), h j hj 5 (by omega), h j hj 6 (by omega), h j hj 7 (by omega), h j hj 8 (by omega), h j hj 9 (by omega)⟩
abbrev objV (g o m d : Nat) : Value := .agg #[.string ⟨#[]⟩, .slice none 0 0, .slice (some ⟨g, o, none⟩) m d, .slice none 0 0, .int .i32 0, .int .i32 0, .int .u8 3]
set_option maxRecDepth 100000 in
set_option maxHeartbeats 8000000 in
theorem obj24 (q key : ByteArray) (g o m d : Nat) (K V : Nat → ByteArray) (T : Nat → Int) (mp : Value) (cnd : ByteArray → Bool) (w : World) (hE : Ent w g o m K V T) (hm : m ≤ 4096) (hC : Cnd mp cnd w) (hK : ∀ j, j < m → (K j).size ≤ maxLen) :
    Calls Try.prog 24 #[rq, .string q, .string key, objV g o m d, .int .u8 0, mp] w (OAns cnd q key m K V T w) := by
  have HE := Lib.hid hE
  have HC := Lib.hid hC
  have HK := Lib.hid hK
  clear hE hC hK
  go_enter Try.func24, Try.ntmps24
  go_wp2_with fail
  have hN := Own.new ((w.alloc (.cells #[.pointer none, .pointer none, .pointer none, .int .u8 0] 58)).alloc (.cells #[.string ⟨#[]⟩, .slice none 0 0, .slice (some ⟨g, o, none⟩) m d, .slice none 0 0, .int .i32 0, .int .i32 0, .int .u8 3] 36)) 33 #[.int .i32 0, .int .i32 0]
  have hR := ((Own.new w 58 #[.pointer none, .pointer none, .pointer none, .int .u8 0]).alloc (.cells #[.string ⟨#[]⟩, .slice none 0 0, .slice (some ⟨g, o, none⟩) m d, .slice none 0 0, .int .i32 0, .int .i32 0, .int .u8 3] 36)).alloc (.cells #[.int .i32 0, .int .i32 0] 33)
  have hB : Below w.heap.size w (((w.alloc (.cells #[.pointer none, .pointer none, .pointer none, .int .u8 0] 58)).alloc (.cells #[.string ⟨#[]⟩, .slice none 0 0, .slice (some ⟨g, o, none⟩) m d, .slice none 0 0, .int .i32 0, .int .i32 0, .int .u8 3] 36)).alloc (.cells #[.int .i32 0, .int .i32 0] 33)) := by go_grown
  simp only [World.size_alloc] at hN hR
  generalize ((w.alloc (.cells #[.pointer none, .pointer none, .pointer none, .int .u8 0] 58)).alloc (.cells #[.string ⟨#[]⟩, .slice none 0 0, .slice (some ⟨g, o, none⟩) m d, .slice none 0 0, .int .i32 0, .int .i32 0, .int .u8 3] 36)).alloc (.cells #[.int .i32 0, .int .i32 0] 33) = w0 at *
  have HN := Lib.hid hN
  have HR := Lib.hid hR
  have HB := Lib.hid hB
  clear hN hR hB
  go_loopw [117] (fun i wr => ∃ k : Nat, k ≤ m ∧ i = .int .i64 k ∧ Hid (Below w0.heap.size w0 wr) ∧ Hid (∀ j, j < k → hit cnd q K V j = false)) (fun i _ => m - (intOf i).toNat)
  case atStart => exact ⟨0, by omega, rfl, Lib.hid (Below.refl _ _), Lib.hid fun j hj => by omega⟩
  case round =>
    obtain ⟨k, hk, rfl, HW, HD⟩ := hrel
    obtain ⟨wo, rfl⟩ : ∃ wo : World, wo = wr := ⟨_, rfl⟩
    have hwb := HB.out.trans (HW.out.mono HB.out.size)
    have HWB := Lib.hid hwb
    clear hwb
    by_cases hlt : k < m
    · obtain ⟨l0, l1, l2, l3, l4, l5, l6, l7, l8, l9⟩ := ten (HE.out.below HWB.out) hlt
      have hR1 := HR.out.below HW.out HR.out.lt
      have r0 := new_keep (hR1.cell 0)
      have r1 := new_keep (hR1.cell 1)
      have r2 := new_keep (hR1.cell 2)
      have r3 := new_keep (hR1.cell 3)
      have hlk : ∀ x, (Instr.lookup 44 mp (.string (K k)) false).run Try.prog (wo.alloc x) = .ok (.bool (cnd (K k))) (wo.alloc x) := fun x => HC.out _ (HWB.out.trans ((by go_grown : Below wo.heap.size wo (wo.alloc x)).mono HWB.out.size)) _ (HK.out k hlt)
      clear hR1
      have hi0 : (0 : Int) ≤ (k : Int) := by omega
      have hi1 : (k : Int) < (m : Int) := by omega
      cases t1 : ((K k).toList == [100, 101, 102, 97, 117, 108, 116])
      · cases t2 : cnd (K k)
        · rw [t2] at hlk
          have HD2 : Hid (∀ j, j < k + 1 → hit cnd q K V j = false) := Lib.hid fun j hj => by
            by_cases e : j = k
            · rw [e]; unfold hit ck; rw [t1, t2]; rfl
            · exact HD.out j (by omega)
          go_wp2_with fail
          go_roundw
          case rel => exact ⟨k + 1, by omega, by go_num, Lib.hid (HW.out.alloc HW.out.size _), HD2⟩
          case measure => simp [intOf]; omega
        · rw [t2] at hlk
          have HCK : Hid (ck cnd (K k) = true) := Lib.hid (by unfold ck; rw [t1, t2]; rfl)
          clear t2
          cases t3 : (q.toList == (V k).toList)
          · have HD2 : Hid (∀ j, j < k + 1 → hit cnd q K V j = false) := Lib.hid fun j hj => by
              by_cases e : j = k
              · rw [e]; unfold hit; rw [t3, Bool.and_false]
              · exact HD.out j (by omega)
            go_wp2_with fail
            refine (leaf24 q key (V k) (T k) 1 mp _).mono ?_
            rintro e w2 ⟨rfl, hb2⟩
            rw [t3, if_neg (by decide)]
            have HW2 : Hid (Below w0.heap.size w0 w2) := Lib.hid ((HW.out.alloc HW.out.size _).trans (hb2.mono (by have := HW.out.size; simp; omega)))
            clear hb2 l0 l1 l2 l3 l4 l5 l6 l7 l8 l9 r0 r1 r2 r3 hlk
            go_wp2_with fail
            go_roundw
            case rel => exact ⟨k + 1, by omega, by go_num, Lib.hid (HW2.out.alloc HW2.out.size _), HD2⟩
            case measure => simp [intOf]; omega
          · have HH : Hid (hit cnd q K V k = true) := Lib.hid (by unfold hit; rw [HCK.out, t3]; rfl)
            go_wp2_with fail
            refine (leaf24 q key (V k) (T k) 1 mp _).mono ?_
            rintro e w2 ⟨rfl, hb2⟩
            rw [t3, if_pos rfl]
            unfold yes3
            have HW2 : Hid (Below w0.heap.size w0 w2) := Lib.hid ((HW.out.alloc HW.out.size _).trans (hb2.mono (by have := HW.out.size; simp; omega)))
            have hN1 := HN.out.below HW2.out HN.out.lt
            have q0 := new_keep (hN1.cell 0)
            have q1 := new_keep (hN1.cell 1)
            have f0 : ∀ x, (w2.alloc x).frozen? ⟨w.heap.size + 1 + 1, 0, none⟩ = false := fun x => (hN1.alloc x).frozen 0
            have f1 : ∀ x, (w2.alloc x).frozen? ⟨w.heap.size + 1 + 1, 1, none⟩ = false := fun x => (hN1.alloc x).frozen 1
            have hne : w2.heap.size ≠ w.heap.size + 1 + 1 := by have := hN1.lt; omega
            clear hb2 l0 l1 l2 l3 l4 l5 l6 l7 l8 l9 r0 r1 r2 r3 hlk hN1
            go_wp2_with fail
            go_region
            go_wp2_with fail
            refine bodyPost_ret (by simp [results, Try.results24, go_sem, q0, q1, yes3]) rfl ⟨.inl ⟨k, hlt, HH.out, HD.out, rfl⟩, ?_⟩
            have hbz := HB.out.trans (HW2.out.mono HB.out.size)
            exact below_drew (((hbz.alloc hbz.size _).setCell (by show w.heap.size ≤ w.heap.size + 1 + 1; omega) _).setCell (by show w.heap.size ≤ w.heap.size + 1 + 1; omega) _)
      · have HCK : Hid (ck cnd (K k) = true) := Lib.hid (by unfold ck; rw [t1]; rfl)
        cases t3 : (q.toList == (V k).toList)
        · have HD2 : Hid (∀ j, j < k + 1 → hit cnd q K V j = false) := Lib.hid fun j hj => by
            by_cases e : j = k
            · rw [e]; unfold hit; rw [t3, Bool.and_false]
            · exact HD.out j (by omega)
          go_wp2_with fail
          refine (leaf24 q key (V k) (T k) 1 mp _).mono ?_
          rintro e w2 ⟨rfl, hb2⟩
          rw [t3, if_neg (by decide)]
          have HW2 : Hid (Below w0.heap.size w0 w2) := Lib.hid ((HW.out.alloc HW.out.size _).trans (hb2.mono (by have := HW.out.size; simp; omega)))
          clear hb2 l0 l1 l2 l3 l4 l5 l6 l7 l8 l9 r0 r1 r2 r3 hlk
          go_wp2_with fail
          go_roundw
          case rel => exact ⟨k + 1, by omega, by go_num, Lib.hid (HW2.out.alloc HW2.out.size _), HD2⟩
          case measure => simp [intOf]; omega
        · have HH : Hid (hit cnd q K V k = true) := Lib.hid (by unfold hit; rw [HCK.out, t3]; rfl)
          go_wp2_with fail
          refine (leaf24 q key (V k) (T k) 1 mp _).mono ?_
          rintro e w2 ⟨rfl, hb2⟩
          rw [t3, if_pos rfl]
          unfold yes3
          have HW2 : Hid (Below w0.heap.size w0 w2) := Lib.hid ((HW.out.alloc HW.out.size _).trans (hb2.mono (by have := HW.out.size; simp; omega)))
          have hN1 := HN.out.below HW2.out HN.out.lt
          have q0 := new_keep (hN1.cell 0)
          have q1 := new_keep (hN1.cell 1)
          have f0 : ∀ x, (w2.alloc x).frozen? ⟨w.heap.size + 1 + 1, 0, none⟩ = false := fun x => (hN1.alloc x).frozen 0
          have f1 : ∀ x, (w2.alloc x).frozen? ⟨w.heap.size + 1 + 1, 1, none⟩ = false := fun x => (hN1.alloc x).frozen 1
          have hne : w2.heap.size ≠ w.heap.size + 1 + 1 := by have := hN1.lt; omega
          clear hb2 l0 l1 l2 l3 l4 l5 l6 l7 l8 l9 r0 r1 r2 r3 hlk hN1
          go_wp2_with fail
          go_region
          go_wp2_with fail
          refine bodyPost_ret (by simp [results, Try.results24, go_sem, q0, q1, yes3]) rfl ⟨.inl ⟨k, hlt, HH.out, HD.out, rfl⟩, ?_⟩
          have hbz := HB.out.trans (HW2.out.mono HB.out.size)
          exact below_drew (((hbz.alloc hbz.size _).setCell (by show w.heap.size ≤ w.heap.size + 1 + 1; omega) _).setCell (by show w.heap.size ≤ w.heap.size + 1 + 1; omega) _)
    · obtain rfl : k = m := by omega
      have hN1 := HN.out.below HW.out HN.out.lt
      have q0 := hN1.cell 0
      have q1 := hN1.cell 1
      have f0 := hN1.frozen 0
      have f1 := hN1.frozen 1
      clear hN1
      go_wp2_with fail
      refine bodyPost_ret (by simp [results, Try.results24, go_sem, q0, q1]) rfl ⟨.inr ⟨HD.out, rfl⟩, ?_⟩
      exact (HWB.out.setCell (by show w.heap.size ≤ w.heap.size + 1 + 1; omega) _).setCell (by show w.heap.size ≤ w.heap.size + 1 + 1; omega) _
end Go.Proofs.Ytjfegbkbhbhcoaa.Ya
