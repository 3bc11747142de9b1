/-
  Contracts for the law on range headers: parseRangeHeader, the law's own model. Conditions: sizes and ranges alone.
-/
import Derived.Test.YtnegfigjmjgknabRh
import Derived.Test.YtnegfigjmjgknabSl
import Derived.WalkKit
import Derived.WalkSpells
import Derived.Handy
import Derived.Lib.Hide
namespace Go.Proofs.Ytnegfigjmjgknab.Rg
open Go.RowKit Go.PlainAid Str Mem It Rp Rh Sl
set_option linter.unusedVariables false
def pB : ByteArray := ⟨#[98, 121, 116, 101, 115, 61]⟩
def zz (b e : Int) (ok : Bool) : Prop := b = 0 ∧ e = 0 ∧ ok = false
/-- The answer on the text behind the opening word. -/
def Rest (rs : ByteArray) (M b e : Int) (ok : Bool) : Prop :=
  ((∀ j, j < rs.size → bt rs j ≠ 45) ∧ zz b e ok) ∨
  ∃ d, d < rs.size ∧ bt rs d = 45 ∧ (∀ j, j < d → bt rs j ≠ 45) ∧
    ((Rn (rs.extract 0 d) M ∧ Rn (rs.extract (d + 1) rs.size) M ∧ b = valF 0 (tl (rs.extract 0 d)) ∧ e = valF 0 (tl (rs.extract (d + 1) rs.size)) + 1 ∧ ok = true) ∨ (¬ (Rn (rs.extract 0 d) M ∧ Rn (rs.extract (d + 1) rs.size) M) ∧ zz b e ok))
def Hdr (r : ByteArray) (M b e : Int) (ok : Bool) : Prop := (preB r pB = false ∧ zz b e ok) ∨ (preB r pB = true ∧ Rest (r.extract 6 r.size) M b e ok)
theorem zz.same {b e b' e' : Int} {ok ok' : Bool} (h : zz b e ok) (h' : zz b' e' ok') : b = b' ∧ e = e' ∧ ok = ok' := by
  obtain ⟨rfl, rfl, rfl⟩ := h
  obtain ⟨rfl, rfl, rfl⟩ := h'
  exact ⟨rfl, rfl, rfl⟩
theorem Rest.same {rs : ByteArray} {M b e b' e' : Int} {ok ok' : Bool} (h : Rest rs M b e ok) (h' : Rest rs M b' e' ok') : b = b' ∧ e = e' ∧ ok = ok' := by
  rcases h with ⟨hn, hz⟩ | ⟨d, hd, hc, hf, h⟩
  · rcases h' with ⟨_, hz'⟩ | ⟨d', hd', hc', _⟩
    · exact hz.same hz'
    · exact absurd hc' (hn d' hd')
  · rcases h' with ⟨hn', _⟩ | ⟨d', hd', hc', hf', h'⟩
    · exact absurd hc (hn' d hd)
    · have : d = d' := by
        rcases Nat.lt_trichotomy d d' with h1 | h1 | h1
        · exact absurd hc (hf' d h1)
        · exact h1
        · exact absurd hc' (hf d' h1)
      subst this
      rcases h with ⟨h1, h2, rfl, rfl, rfl⟩ | ⟨h1, hz⟩
      · rcases h' with ⟨_, _, rfl, rfl, rfl⟩ | ⟨h1', _⟩
        · exact ⟨rfl, rfl, rfl⟩
        · exact absurd ⟨h1, h2⟩ h1'
      · rcases h' with ⟨h1', h2', _⟩ | ⟨_, hz'⟩
        · exact absurd ⟨h1', h2'⟩ h1
        · exact hz.same hz'
theorem Hdr.same {r : ByteArray} {M b e b' e' : Int} {ok ok' : Bool} (h : Hdr r M b e ok) (h' : Hdr r M b' e' ok') : b = b' ∧ e = e' ∧ ok = ok' := by
  rcases h with ⟨h1, hz⟩ | ⟨h1, h2⟩
  · rcases h' with ⟨_, hz'⟩ | ⟨h1', _⟩
    · exact hz.same hz'
    · rw [h1] at h1'; cases h1'
  · rcases h' with ⟨h1', _⟩ | ⟨_, h2'⟩
    · rw [h1] at h1'; cases h1'
    · exact h2.same h2'
def HdrPost (r : ByteArray) (M : Int) (w : World) (e : Ending) (w' : World) : Prop :=
  ∃ (b x : Int) (ok : Bool), Hdr r M b x ok ∧ e = .returned (.tuple #[.int .i64 b, .int .i64 x, .bool ok]) ∧ Below w.heap.size w w'
theorem pre_size {r : ByteArray} (h : preB r pB = true) : 6 ≤ r.size := ((preB_iff r pB).1 h).1
set_option maxHeartbeats 4000000 in
theorem header27 (r : ByteArray) (hr : r.size ≤ 1048576) (n : Int) (hM0 : -9000000000000000000 ≤ n - 1 + 223372036854775808) (hM1 : n - 1 ≤ 922337203685477578) (w : World) :
    Calls Try.prog 27 #[.string r, .int .i64 n] w (HdrPost r (n - 1) w) := by
  go_enter Try.func27, Try.ntmps27
  go_wp2_with fail
  refine (hasPrefix_any r pB _ (by unfold maxLen; omega) (by decide)).mono ?_
  rintro e w1 ⟨rfl, rfl⟩
  by_cases hp : preB r pB = true
  · have h6 := pre_size hp
    have HP := Lib.hid hp
    rw [hp]
    clear hp
    go_wp2_with fail
    have hrs : (r.extract 6 r.size).size ≤ 1048576 := by rw [size_extract]; omega
    have HC : Hid (∀ b e ok, Rest (r.extract 6 r.size) (n - 1) b e ok → Hdr r (n - 1) b e ok) := Lib.hid fun b e ok h => .inr ⟨HP.out, h⟩
    generalize r.extract 6 r.size = rs at *
    refine (indexByte_any rs 45 _).mono ?_
    rintro e w1 ⟨rfl, rfl⟩
    rw [show (45 : Int).toNat.toUInt8 = (45 : Nat).toUInt8 from rfl]
    rcases first_ways rs 45 (by omega) with ⟨hf, hno⟩ | ⟨d, hd, hf, hc, hfst, _⟩
    · rw [hf]
      have HNO := Lib.hid ((hasB_no rs 45).1 hno)
      clear hf hno
      go_wp2_with fail
      go_ret3
      exact ⟨0, 0, false, HC.out _ _ _ (.inl ⟨HNO.out, rfl, rfl, rfl⟩), rfl, Below.refl _ _⟩
    · rw [hf]
      have HF := Lib.hid hfst
      have HCD := Lib.hid hc
      clear hf hfst hc
      have td : ((d : Int) != -1) = true := by first | (simp; done) | (simp; omega)
      go_wp2_with fail
      clear td
      refine (parse25 (rs.extract 0 d) (by rw [size_extract]; omega) (n - 1) hM0 hM1 _).mono ?_
      rintro e w1 ⟨b1, hcase⟩
      have hz1 := b1.size
      rcases hcase with ⟨hR, rfl⟩ | ⟨hR, rfl⟩
      · have HR := Lib.hid hR
        clear hR
        go_wp2_with fail
        refine (parse25 (rs.extract (d + 1) rs.size) (by rw [size_extract]; omega) (n - 1) hM0 hM1 _).mono ?_
        rintro e w2 ⟨b2, hcase⟩
        have hB := b1.trans (b2.mono hz1)
        clear b1 b2
        rcases hcase with ⟨hR', rfl⟩ | ⟨hR', rfl⟩
        · have HR' := Lib.hid hR'
          have hv := hR'.2.2
          have hv0 := valF_mono 0 (by omega) _ hR'.2.1
          clear hR'
          go_wp2_with fail
          go_ret3
          exact ⟨_, _, true, HC.out _ _ _ (.inr ⟨d, hd, HCD.out, HF.out, .inl ⟨HR.out, HR'.out, rfl, rfl, rfl⟩⟩), rfl, hB⟩
        · have HR' := Lib.hid hR'
          clear hR'
          go_wp2_with fail
          go_ret3
          exact ⟨0, 0, false, HC.out _ _ _ (.inr ⟨d, hd, HCD.out, HF.out, .inr ⟨fun h => HR'.out h.2, rfl, rfl, rfl⟩⟩), rfl, hB⟩
      · have HR := Lib.hid hR
        clear hR
        go_wp2_with fail
        go_ret3
        exact ⟨0, 0, false, HC.out _ _ _ (.inr ⟨d, hd, HCD.out, HF.out, .inr ⟨fun h => HR.out h.1, rfl, rfl, rfl⟩⟩), rfl, b1⟩
  · have hp' : preB r pB = false := by simpa using hp
    have HP := Lib.hid hp'
    rw [hp']
    clear hp hp'
    go_wp2_with fail
    go_ret3
    exact ⟨0, 0, false, .inl ⟨HP.out, rfl, rfl, rfl⟩, rfl, Below.refl _ _⟩
theorem header16 (r : ByteArray) (hr : r.size ≤ 1048576) (n : Int) (hM0 : -9000000000000000000 ≤ n - 1 + 223372036854775808) (hM1 : n - 1 ≤ 922337203685477578) (w : World) :
    Calls Try.prog 16 #[.string r, .int .i64 n] w (HdrPost r (n - 1) w) := by
  go_enter Try.func16, Try.ntmps16
  go_wp2_with fail
  refine (header27 r hr n hM0 hM1 _).mono ?_
  rintro e w1 ⟨b, x, ok, hh, rfl, hb⟩
  have HH := Lib.hid hh
  clear hh
  go_wp2_with fail
  go_ret3
  exact ⟨_, _, _, HH.out, rfl, hb⟩
set_option maxHeartbeats 4000000 in
theorem model15 (r : ByteArray) (hr : r.size ≤ 1048576) (n : Int) (hM0 : -9000000000000000000 ≤ n - 1 + 223372036854775808) (hM1 : n - 1 ≤ 922337203685477578) (w : World) :
    Calls Try.prog 15 #[.string r, .int .i64 n] w (HdrPost r (n - 1) w) := by
  by_cases h6 : 6 ≤ r.size
  · have t6 : decide ((r.size : Int) < 6) = false := by simp; omega
    have hne : ((r.extract 0 6).toList == [98, 121, 116, 101, 115, 61]) = preB r pB := by
      rw [show ([98, 121, 116, 101, 115, 61] : List UInt8) = pB.toList from by rw [ByteArray.toList_eq]; rfl, toList_beq]
      unfold preB
      rw [show decide (pB.size ≤ r.size) = true from decide_eq_true h6]
      rfl
    by_cases hp : preB r pB = true
    · have HP := Lib.hid hp
      rw [hp] at hne
      have hrs : (r.extract 6 r.size).size ≤ 1048576 := by rw [size_extract]; omega
      have HC : Hid (∀ b e ok, Rest (r.extract 6 r.size) (n - 1) b e ok → Hdr r (n - 1) b e ok) := Lib.hid fun b e ok h => .inr ⟨HP.out, h⟩
      clear hp
      go_enter Try.func15, Try.ntmps15
      go_wp2_with fail
      clear hne t6
      generalize r.extract 6 r.size = rs at *
      have hgb := get_bt rs
      go_loop [8, 9] (fun x i => ∃ k : Nat, k ≤ rs.size ∧ x = .int .i64 (-1) ∧ i = .int .i64 k ∧ ∀ j, j < k → bt rs j ≠ 45) (fun _ i => rs.size - (intOf i).toNat)
      case atStart => exact ⟨0, by omega, rfl, rfl, by omega⟩
      case round =>
        obtain ⟨d, hd, rfl, rfl, hf⟩ := hrel
        have HF := Lib.hid hf
        clear hf
        by_cases hlt : d < rs.size
        · by_cases hc : bt rs d = 45
          · have t1 : (bt rs d == 45) = true := by simp [hc]
            have HCD := Lib.hid hc
            clear hc
            go_wp2_with fail
            clear t1 hgb
            refine (number26 (rs.extract 0 d) (by rw [size_extract]; omega) (n - 1) hM0 hM1 _).mono ?_
            rintro e w1 ⟨b1, hcase⟩
            have hz1 := b1.size
            rcases hcase with ⟨hR, rfl⟩ | ⟨hR, rfl⟩
            · have HR := Lib.hid hR
              clear hR
              go_wp2_with fail
              refine (number26 (rs.extract (d + 1) rs.size) (by rw [size_extract]; omega) (n - 1) hM0 hM1 _).mono ?_
              rintro e w2 ⟨b2, hcase⟩
              have hB := b1.trans (b2.mono hz1)
              clear b1 b2
              rcases hcase with ⟨hR', rfl⟩ | ⟨hR', rfl⟩
              · have HR' := Lib.hid hR'
                have hv := hR'.2.2
                have hv0 := valF_mono 0 (by omega) _ hR'.2.1
                clear hR'
                go_wp2_with fail
                go_ret3
                exact ⟨_, _, true, HC.out _ _ _ (.inr ⟨d, hlt, HCD.out, HF.out, .inl ⟨HR.out, HR'.out, rfl, rfl, rfl⟩⟩), rfl, hB⟩
              · have HR' := Lib.hid hR'
                clear hR'
                go_wp2_with fail
                go_ret3
                exact ⟨0, 0, false, HC.out _ _ _ (.inr ⟨d, hlt, HCD.out, HF.out, .inr ⟨fun h => HR'.out h.2, rfl, rfl, rfl⟩⟩), rfl, hB⟩
            · have HR := Lib.hid hR
              clear hR
              go_wp2_with fail
              refine (number26 (rs.extract (d + 1) rs.size) (by rw [size_extract]; omega) (n - 1) hM0 hM1 _).mono ?_
              rintro e w2 ⟨b2, hcase⟩
              have hB := b1.trans (b2.mono hz1)
              clear b1 b2
              rcases hcase with ⟨hR', rfl⟩ | ⟨hR', rfl⟩
              all_goals
                clear hR'
                go_wp2_with fail
                go_ret3
                exact ⟨0, 0, false, HC.out _ _ _ (.inr ⟨d, hlt, HCD.out, HF.out, .inr ⟨fun h => HR.out h.1, rfl, rfl, rfl⟩⟩), rfl, hB⟩
          · have t1 : (bt rs d == 45) = false := by simp [hc]
            have HCD := Lib.hid hc
            clear hc
            go_wp2_with fail
            go_round
            case rel => exact ⟨d + 1, by omega, rfl, by go_num, fun j hj => by
              rcases Nat.lt_or_ge j d with h | h
              · exact HF.out j h
              · obtain rfl : j = d := by omega
                exact HCD.out⟩
            case measure => simp [intOf]; omega
        · go_wp2_with fail
          go_ret3
          exact ⟨0, 0, false, HC.out _ _ _ (.inl ⟨fun j hj => HF.out j (by omega), rfl, rfl, rfl⟩), rfl, Below.refl _ _⟩
    · have hp' : preB r pB = false := by simpa using hp
      have HP := Lib.hid hp'
      rw [hp'] at hne
      clear hp hp'
      go_enter Try.func15, Try.ntmps15
      go_wp2_with fail
      go_ret3
      exact ⟨0, 0, false, .inl ⟨HP.out, rfl, rfl, rfl⟩, rfl, Below.refl _ _⟩
  · have t6 : decide ((r.size : Int) < 6) = true := by simp; omega
    have HP : Hid (preB r pB = false) := Lib.hid (by
      cases h : preB r pB with
      | false => rfl
      | true => exact absurd (pre_size h) h6)
    go_enter Try.func15, Try.ntmps15
    go_wp2_with fail
    go_ret3
    exact ⟨0, 0, false, .inl ⟨HP.out, rfl, rfl, rfl⟩, rfl, Below.refl _ _⟩
end Go.Proofs.Ytnegfigjmjgknab.Rg
