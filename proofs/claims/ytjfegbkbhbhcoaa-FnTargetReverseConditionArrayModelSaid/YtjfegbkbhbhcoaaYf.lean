/-
  The law on reverse resolution: the first hit is one; what the resolution answers agrees with what the law's own search finds. Conditions: none.
-/
import Derived.Test.YtjfegbkbhbhcoaaYe
namespace Go.Proofs.Ytjfegbkbhbhcoaa.Yf
open Go.RowKit Go.PlainAid Str Mem Rws Ex Go.Maps Ya Yb Yc Yd Ye Qts
set_option linter.unusedVariables false
/-- The first hit. -/
def Fst (H : Nat → Nat → Bool) (n : Nat) (L : Nat → Nat) (i j : Nat) : Prop := i < n ∧ j < L i ∧ H i j = true ∧ (∀ j', j' < j → H i j' = false) ∧ ∀ i', i' < i → ∀ j', j' < L i' → H i' j' = false
theorem Fst.uniq {H : Nat → Nat → Bool} {n : Nat} {L : Nat → Nat} {i j i' j' : Nat} (h : Fst H n L i j) (h' : Fst H n L i' j') : i = i' ∧ j = j' := by
  obtain ⟨a1, a2, a3, a4, a5⟩ := h
  obtain ⟨b1, b2, b3, b4, b5⟩ := h'
  have e : i = i' := by
    rcases Nat.lt_trichotomy i i' with h | h | h
    · have := b5 i h j a2; rw [a3] at this; cases this
    · exact h
    · have := a5 i' h j' b2; rw [b3] at this; cases this
  subst e
  refine ⟨rfl, ?_⟩
  rcases Nat.lt_trichotomy j j' with h | h | h
  · have := b4 j h; rw [a3] at this; cases this
  · exact h
  · have := a4 j' h; rw [b3] at this; cases this
def Res (H : Nat → Nat → Bool) (n : Nat) (L : Nat → Nat) (key : ByteArray) (ok : Bool) (sub : ByteArray) (ts tl : Int) : Prop :=
  (ok = true ∧ sub = key ∧ tl = 1 ∧ ∃ i j, Fst H n L i j ∧ ts = tk i j) ∨ (ok = false ∧ sub = ⟨#[]⟩ ∧ ts = 0 ∧ tl = 0 ∧ ∀ i, i < n → ∀ j, j < L i → H i j = false)
/-- What the law's own search has found before row k. -/
def Wnt (H : Nat → Nat → Bool) (n : Nat) (L : Nat → Nat) (f : Bool) (x : Int) (k : Nat) : Prop :=
  (f = true ∧ ∃ i j, Fst H n L i j ∧ x = tk i j) ∨ (f = false ∧ x = 0 ∧ ∀ i, i < k → ∀ j, j < L i → H i j = false)
theorem agree {H : Nat → Nat → Bool} {n : Nat} {L : Nat → Nat} {key : ByteArray} {ok : Bool} {sub : ByteArray} {ts tl : Int} {f : Bool} {x : Int} {k : Nat} (hR : Res H n L key ok sub ts tl) (hW : Wnt H n L f x k) (hk : f = false → n ≤ k) :
    if f = true then ok = true ∧ sub = key ∧ ts = x ∧ tl = 1 else ok = false ∧ sub = ⟨#[]⟩ ∧ ts = 0 ∧ tl = 0 := by
  rcases hR with ⟨rfl, rfl, rfl, i, j, h, rfl⟩ | ⟨rfl, rfl, rfl, rfl, h⟩
  · rcases hW with ⟨rfl, i', j', h', rfl⟩ | ⟨rfl, rfl, h'⟩
    · obtain ⟨rfl, rfl⟩ := h.uniq h'
      simp
    · have := h' i (by have := hk rfl; have := h.1; omega) j h.2.1
      rw [h.2.2.1] at this; cases this
  · rcases hW with ⟨rfl, i', j', h', rfl⟩ | ⟨rfl, rfl, h'⟩
    · have := h i' h'.1 j' h'.2.1
      rw [h'.2.2.1] at this; cases this
    · simp
theorem Wnt.zero (H : Nat → Nat → Bool) (n : Nat) (L : Nat → Nat) : Wnt H n L false 0 0 := .inr ⟨rfl, rfl, fun i hi => by omega⟩
theorem Wnt.row {H : Nat → Nat → Bool} {n : Nat} {L : Nat → Nat} {x : Int} {k : Nat} (h : Wnt H n L false x k) (hr : ∀ j, j < L k → H k j = false) : Wnt H n L false 0 (k + 1) := by
  rcases h with ⟨h, _⟩ | ⟨_, _, h⟩
  · cases h
  · exact .inr ⟨rfl, rfl, fun i hi j hj => by
      by_cases e : i = k
      · subst e; exact hr j hj
      · exact h i (by omega) j hj⟩
theorem Wnt.hit {H : Nat → Nat → Bool} {n : Nat} {L : Nat → Nat} {x : Int} {k l : Nat} (h : Wnt H n L false x k) (hk : k < n) (hl : l < L k) (hr : ∀ j, j < l → H k j = false) (hh : H k l = true) (k' : Nat) : Wnt H n L true (tk k l) k' := by
  rcases h with ⟨h, _⟩ | ⟨_, _, h⟩
  · cases h
  · exact .inl ⟨rfl, k, l, ⟨hk, hl, hh, hr, h⟩, rfl⟩
theorem res_of {cnd : ByteArray → Bool} {q key : ByteArray} {n : Nat} {L : Nat → Nat} {K V : Nat → Nat → ByteArray} {w w' : World} {e : Ending} (h : AAns cnd q key n L K V tk w e w') :
    ∃ (ok : Bool) (sub : ByteArray) (ts tl : Int), e = .returned (.tuple #[.bool ok, .string sub, .agg #[.int .i32 ts, .int .i32 tl]]) ∧ Res (fun i j => hit cnd q (K i) (V i) j) n L key ok sub ts tl ∧ Below w.heap.size w w' := by
  obtain ⟨⟨i, hi, j, hj, h1, h2, h3, rfl⟩ | ⟨h1, rfl⟩, hb⟩ := h
  · exact ⟨true, key, tk i j, 1, rfl, .inl ⟨rfl, rfl, rfl, i, j, ⟨hi, hj, h1, h2, h3⟩, rfl⟩, hb⟩
  · exact ⟨false, ⟨#[]⟩, 0, 0, rfl, .inr ⟨rfl, rfl, rfl, rfl, h1⟩, hb⟩
theorem tkw (k l : Nat) (hk : k < 4096) (hl : l < 4096) : IntKind.i64.wrap ((k : Int) * 4096) = (k : Int) * 4096 ∧ IntKind.i64.wrap ((k : Int) * 4096 + (l : Int)) = (k : Int) * 4096 + (l : Int) ∧ IntKind.i64.wrap ((k : Int) * 4096 + (l : Int) + 1) = (k : Int) * 4096 + (l : Int) + 1 ∧ IntKind.i32.wrap ((k : Int) * 4096 + (l : Int) + 1) = (k : Int) * 4096 + (l : Int) + 1 :=
  ⟨wrap64 _ (by omega) (by omega), wrap64 _ (by omega) (by omega), wrap64 _ (by omega) (by omega), wrap32 _ (by omega) (by omega)⟩
theorem beq_comm_str (s q : ByteArray) : (s.toList == q.toList) = (q.toList == s.toList) := by
  rw [toList_beq, toList_beq]
  simp [eq_comm]
theorem hit_eq (cnd : ByteArray → Bool) (q : ByteArray) (K V : Nat → ByteArray) (j : Nat) : hit cnd q K V j = ((((K j).toList == [100, 101, 102, 97, 117, 108, 116]) || cnd (K j)) && ((V j).toList == q.toList)) := by
  unfold hit ck
  rw [beq_comm_str q]
theorem Ens_full {w : World} {g m j : Nat} {K V : Nat → ByteArray} {T : Nat → Int} (h : Ens w g m j K V T) (e : j = m) : Ent w g 0 m K V T := by
  subst e; exact h.ent
theorem Its_full {w : World} {g n k : Nat} {L : Nat → Nat} {K V : Nat → Nat → ByteArray} {T : Nat → Nat → Int} (h : Its w g n k L K V T) (e : k = n) : ∃ h, Arr w g 0 n h L K V T := by
  subst e; exact h.arr
abbrev RowX := Nat → Option Addr × Nat × Nat × (Nat → ByteArray)
def Lx (X : RowX) (i : Nat) : Nat := (X i).2.1
def Kx (X : RowX) (i : Nat) : Nat → ByteArray := (X i).2.2.2
def Hx (S : Nat → ByteArray) (n : Nat) (q : ByteArray) (X Y : RowX) (i j : Nat) : Bool := hit (inS S n) q (Kx X i) (Kx Y i) j
theorem Lx_at {X : RowX} {i : Nat} {P : Option Addr} {N C : Nat} {S : Nat → ByteArray} (h : X i = (P, N, C, S)) : Lx X i = N := by unfold Lx; rw [h]
theorem Kx_at {X : RowX} {i : Nat} {P : Option Addr} {N C : Nat} {S : Nat → ByteArray} (h : X i = (P, N, C, S)) : Kx X i = S := by unfold Kx; rw [h]
theorem Hx_at {S : Nat → ByteArray} {n : Nat} {q : ByteArray} {X Y : RowX} {i j : Nat} {P P' : Option Addr} {N C N' C' : Nat} {U V : Nat → ByteArray} (h : X i = (P, N, C, U)) (h' : Y i = (P', N', C', V)) :
    Hx S n q X Y i j = ((((U j).toList == [100, 101, 102, 97, 117, 108, 116]) || inS S n (U j)) && ((V j).toList == q.toList)) := by
  unfold Hx
  rw [Kx_at h, Kx_at h', hit_eq]
end Go.Proofs.Ytjfegbkbhbhcoaa.Yf
