/-
  Proved: what it means that a block holds messages, public or internal, and that this is kept while other blocks change. Conditions: those that each
  theorem names as its hypotheses, and no others.
-/
import Derived.Test.YtmjfdhgfpgeboadMsr
import Derived.Test.YtmjfdhgfpgeboadHo
import Derived.Test.YtmjfdhgfpgeboadRow
import Derived.Test.YtmjfdhgfpgeboadPg
import Derived.Test.YtmjfdhgfpgeboadIdp
namespace Go.Proofs.Ytmjfdhgfpgeboad.Ct
open Go.RowKit Mem Ho Rws Orw Lcs Msr Pg Idp
set_option linter.unusedVariables false
/-- every block known whole is kept, but those of the messages -/
def Kp (w w' : World) : Prop := ∀ p t cs, Own w p t cs → t ≠ 43 → Own w' p t cs
theorem Kp.refl (w : World) : Kp w w := fun _ _ _ h _ => h
theorem Kp.trans {w w1 w2 : World} (h : Kp w w1) (k : Kp w1 w2) : Kp w w2 := fun p t cs o ht => k p t cs (h p t cs o ht) ht
theorem Kp.of {w w' : World} (h : Below w.heap.size w w') : Kp w w' := fun p t cs o _ => o.below h o.lt
/-- source messages as they lie -/
def Src (w : World) (A : Option Addr) (n : Nat) (M : Nat → Ms) : Prop := Rd w w.heap.size 12 A n (rowF 12 fun i => (M i).cells) ∧ ∀ i, i < n → (M i).wf w
theorem wf_below {w w' : World} {m : Ms} (h : m.wf w) (hb : Below w.heap.size w w') : m.wf w' := { h with rows := (h.rows.below hb).mono hb.size }
theorem Src.below {w w' : World} {A : Option Addr} {n : Nat} {M : Nat → Ms} (h : Src w A n M) (hb : Below w.heap.size w w') : Src w' A n M :=
  ⟨(h.1.below hb).mono hb.size, fun i hi => wf_below (h.2 i hi) hb⟩
def aloc (l : Lc) : Array Value := #[.string l.fl, .string l.ns, .int .i64 l.ln, .int .i64 l.co, .int .i64 l.le, .string l.lt, .string l.sg]
def nsOf (s : ByteArray) : ByteArray := if s.toList == [] then ⟨#[102, 105, 108, 101]⟩ else s
def mloc (l : Lc) : Array Value := #[.string l.fl, .string l.fl, .string (nsOf l.ns), .string l.lt, .string l.sg, .int .i64 l.ln, .int .i64 l.co, .int .i64 l.le]
/-- a pointer to a place, or nil where there is none -/
def Ptr (t : TypeId) (F : Lc → Array Value) (w : World) (l : Lc) (q : Option Addr) : Prop := (l.pr = false ∧ q = none) ∨ (l.pr = true ∧ ∃ g, q = some ⟨g, 0, none⟩ ∧ Own w g t (F l))
theorem Ptr.keep {t : TypeId} {F : Lc → Array Value} {w w' : World} {l : Lc} {q : Option Addr} (h : Ptr t F w l q) (k : ∀ p cs, Own w p t cs → Own w' p t cs) : Ptr t F w' l q :=
  h.imp id fun ⟨h1, g, e, o⟩ => ⟨h1, g, e, k _ _ o⟩
theorem Ptr.kp {t : TypeId} {F : Lc → Array Value} {w w' : World} {l : Lc} {q : Option Addr} (h : Ptr t F w l q) (k : Kp w w') (ht : t ≠ 43) : Ptr t F w' l q := h.keep fun p cs o => k p t cs o ht
/-- notes of the public kind -/
def ANotes (w : World) (A : Option Addr) (nn : Nat) (nt : Nat → Nt) : Prop :=
  0 < nn → ∃ g cs, ∃ Q : Nat → Option Addr, A = some ⟨g, 0, none⟩ ∧ Own w g 51 cs ∧ ∀ j, j < nn → cs[j * 2]? = some (.string (nt j).tx) ∧ cs[j * 2 + 1]? = some (.pointer (Q j)) ∧ Ptr 58 aloc w (nt j).lc (Q j)
theorem ANotes.kp {w w' : World} {A : Option Addr} {nn : Nat} {nt : Nat → Nt} (h : ANotes w A nn nt) (k : Kp w w') : ANotes w' A nn nt := fun hn => by
  obtain ⟨g, cs, Q, e, o, hq⟩ := h hn
  exact ⟨g, cs, Q, e, k _ _ _ o (by decide), fun j hj => ⟨(hq j hj).1, (hq j hj).2.1, (hq j hj).2.2.kp k (by decide)⟩⟩
/-- a message of the public kind: the cells from o on -/
def ARow (w : World) (cs : Array Value) (o : Nat) (m : Ms) : Prop :=
  ∃ nA nc, cs[o]? = some (.string m.id) ∧ cs[o + 1]? = some (.string m.pl) ∧ cs[o + 2]? = some (.string m.tx) ∧ cs[o + 3]? = some (.pointer none) ∧ cs[o + 4]? = some (.slice nA m.nn nc) ∧ cs[o + 5]? = some .nilIface ∧ ANotes w nA m.nn m.nt
def AMs (w : World) (g n : Nat) (M : Nat → Ms) : Prop := ∃ cs, Own w g 53 cs ∧ ∀ i, i < n → ARow w cs (i * 6) (M i)
theorem ARow.kp {w w' : World} {cs : Array Value} {o : Nat} {m : Ms} (h : ARow w cs o m) (k : Kp w w') : ARow w' cs o m := by
  obtain ⟨nA, nc, h0, h1, h2, h3, h4, h5, h6⟩ := h
  exact ⟨nA, nc, h0, h1, h2, h3, h4, h5, h6.kp k⟩
theorem AMs.kp {w w' : World} {g n : Nat} {M : Nat → Ms} (h : AMs w g n M) (k : Kp w w') : AMs w' g n M := by
  obtain ⟨cs, o, hr⟩ := h
  exact ⟨cs, k _ _ _ o (by decide), fun i hi => (hr i hi).kp k⟩
/-- notes of the inner kind -/
def nc4 (t : ByteArray) (q : Option Addr) : List Value := [.nilIface, .pointer q, .string t, .bool false]
structure INotes (w : World) (A : Option Addr) (nn' : Nat) (nn : Nat) (nt : Nat → Nt) : Prop where
  len : nn' = nn
  nil : A = none ↔ nn = 0
  at_ : 0 < nn → ∃ g cs, ∃ Q : Nat → Option Addr, A = some ⟨g, 0, none⟩ ∧ Own w g 41 cs ∧ ∀ j, j < nn → cs[j * 4]? = some .nilIface ∧ cs[j * 4 + 1]? = some (.pointer (Q j)) ∧ cs[j * 4 + 2]? = some (.string (nt j).tx) ∧ cs[j * 4 + 3]? = some (.bool false) ∧ Ptr 64 mloc w (nt j).lc (Q j)
theorem INotes.kp {w w' : World} {A : Option Addr} {n nn : Nat} {nt : Nat → Nt} (h : INotes w A n nn nt) (k : Kp w w') : INotes w' A n nn nt := ⟨h.len, h.nil, fun hn => by
  obtain ⟨g, cs, Q, e, o, hq⟩ := h.at_ hn
  exact ⟨g, cs, Q, e, k _ _ _ o (by decide), fun j hj => ⟨(hq j hj).1, (hq j hj).2.1, (hq j hj).2.2.1, (hq j hj).2.2.2.1, (hq j hj).2.2.2.2.kp k (by decide)⟩⟩⟩
/-- the row r is the message m, turned to the inner kind -/
structure Good (w : World) (kd : Int) (m : Ms) (r : MR) : Prop where
  pl : r.pl = m.pl
  tx : r.tx = m.tx
  kd : r.kd = kd
  id : IsMax (Ks m.id) r.id
  nt : INotes w r.nA r.nn m.nn m.nt
theorem Good.kp {w w' : World} {kd : Int} {m : Ms} {r : MR} (h : Good w kd m r) (k : Kp w w') : Good w' kd m r := ⟨h.pl, h.tx, h.kd, h.id, h.nt.kp k⟩
def flatR (R : Nat → MR) : Nat → List Value
  | 0 => []
  | k + 1 => flatR R k ++ (R k).cells
theorem flatR_length (R : Nat → MR) : ∀ k, (flatR R k).length = k * 8
  | 0 => rfl
  | k + 1 => by rw [flatR, List.length_append, flatR_length R k, Nat.add_mul]; rfl
theorem flatR_at (R : Nat → MR) : ∀ (k i : Nat), i < k → ∀ q, q < 8 → (flatR R k)[i * 8 + q]? = (R i).cells[q]?
  | 0, i, h, _, _ => absurd h (by omega)
  | k + 1, i, h, q, hq => by
    rw [flatR]
    rcases Nat.lt_or_ge i k with h1 | h1
    · rw [List.getElem?_append_left (by rw [flatR_length]; omega)]
      exact flatR_at R k i h1 q hq
    · obtain rfl : i = k := by omega
      rw [List.getElem?_append_right (by rw [flatR_length]; omega), flatR_length]
      congr 1
      omega
theorem flatR_congr {R R' : Nat → MR} : ∀ (k : Nat), (∀ i, i < k → R i = R' i) → flatR R k = flatR R' k
  | 0, _ => rfl
  | k + 1, h => by rw [flatR, flatR, flatR_congr k (fun i hi => h i (by omega)), h k (by omega)]
theorem noL_flat (R : Nat → MR) (k : Nat) : NoL (flatR R k) k := ⟨flatR_length R k, fun i hi => ⟨R i, fun q hq => flatR_at R k i hi q hq⟩⟩
/-- two lists of rows, one behind the other -/
def catR (n : Nat) (R S : Nat → MR) (i : Nat) : MR := if i < n then R i else S (i - n)
theorem flat_cat (n : Nat) (R S : Nat → MR) : ∀ m, flatR R n ++ flatR S m = flatR (catR n R S) (n + m)
  | 0 => by
    rw [flatR, List.append_nil]
    exact flatR_congr n fun i hi => by unfold catR; rw [if_pos hi]
  | m + 1 => by
    rw [flatR, ← List.append_assoc, flat_cat n R S m, ← Nat.add_assoc, flatR]
    congr 2
    unfold catR
    rw [if_neg (by omega), show n + m - n = m by omega]
end Go.Proofs.Ytmjfdhgfpgeboad.Ct
