/-
  An argument of type []TSFile (files of parts of dependencies) opened to records; as they lie in memory. No condition.
-/
import Derived.Test.YtmjfdhgfpgeboacLcs
import Derived.Test.YtmjfdhgfpgeboacDg
namespace Go.Proofs.Ytmjfdhgfpgeboac.Fs
open Go.RowKit Go.ChangeShapes Go.WideShapes Go.Deep Mem Orw Lcs Dg
set_option linter.unusedVariables false
variable {H : Type} {enc : TypeId × Value → H} {P : Program} {w : World}
/-- a part as it lies -/
structure Pt where
  kp : Bool
  dA : Option Addr
  nd : Nat
  dc : Nat
  dep : Nat → Nat × Nat
instance : Inhabited Pt := ⟨⟨false, none, 0, 0, fun _ => (0, 0)⟩⟩
def Pt.cells (m : Pt) : List Value := [.bool m.kp, .slice m.dA m.nd m.dc]
def dcells (d : Nat × Nat) : List Value := [.int .u32 (d.1 : Int), .int .u32 (d.2 : Int)]
structure Pt.wf (w : World) (m : Pt) : Prop where
  le : m.nd ≤ m.dc
  cap : m.dc ≤ maxLen
  nil : m.dA = none → m.nd = 0 ∧ m.dc = 0
  rows : Rd w w.heap.size 2 m.dA m.nd (rowF 2 fun k => dcells (m.dep k))
  u32 : ∀ k, k < m.nd → (m.dep k).1 < 4294967296 ∧ (m.dep k).2 < 4294967296
/-- a file as it lies -/
structure Fl where
  pA : Option Addr
  np : Nat
  pc : Nat
  pt : Nat → Pt
instance : Inhabited Fl := ⟨⟨none, 0, 0, fun _ => default⟩⟩
def Fl.cells (m : Fl) : List Value := [.slice m.pA m.np m.pc]
structure Fl.wf (w : World) (m : Fl) : Prop where
  le : m.np ≤ m.pc
  cap : m.pc ≤ maxLen
  nil : m.pA = none → m.np = 0 ∧ m.pc = 0
  rows : Rd w w.heap.size 2 m.pA m.np (rowF 2 fun j => (m.pt j).cells)
  parts : ∀ j, j < m.np → (m.pt j).wf w
theorem Pt.wf.below {w w' : World} {m : Pt} (h : m.wf w) (hb : Below w.heap.size w w') : m.wf w' := { h with rows := (h.rows.below hb).mono hb.size }
theorem Fl.wf.below {w w' : World} {m : Fl} (h : m.wf w) (hb : Below w.heap.size w w') : m.wf w' := { h with rows := (h.rows.below hb).mono hb.size, parts := fun j hj => (h.parts j hj).below hb }
/-- files as they lie -/
def Src (w : World) (A : Option Addr) (n : Nat) (F : Nat → Fl) : Prop := Rd w w.heap.size 1 A n (rowF 1 fun i => (F i).cells) ∧ ∀ i, i < n → (F i).wf w
theorem Src.below {w w' : World} {A : Option Addr} {n : Nat} {F : Nat → Fl} (h : Src w A n F) (hb : Below w.heap.size w w') : Src w' A n F :=
  ⟨(h.1.below hb).mono hb.size, fun i hi => (h.2 i hi).below hb⟩
theorem rowF_congr {K n : Nat} {X Y : Nat → List Value} {A : Option Addr} {B : Nat} (hK : 0 < K) (h : Rd w B K A n (rowF K X)) (e : ∀ i, i < n → X i = Y i) : Rd w B K A n (rowF K Y) := fun hn => by
  obtain ⟨b, off, ea, hb, hc⟩ := h hn
  refine ⟨b, off, ea, hb, fun j hj => ?_⟩
  rw [hc j hj]
  unfold rowF
  rw [e (j / K) (by rw [Nat.div_lt_iff_lt_mul hK]; exact hj)]
/-- The numbers of the types. -/
structure Tys (P : Program) where
  b : TypeId
  u : TypeId
  d : TypeId
  ds : TypeId
  p : TypeId
  ps : TypeId
  f : TypeId
  fd : Array Field
  fp : Array Field
  ff : Array Field
  hb : P.underlying b = some .bool
  hu : P.underlying u = some (.int .u32)
  hd : P.underlying d = some (.struct fd)
  hds : P.underlying ds = some (.slice d)
  hp : P.underlying p = some (.struct fp)
  hps : P.underlying ps = some (.slice p)
  hf : P.underlying f = some (.struct ff)
  cb : P.cellsOf b = 1
  cu : P.cellsOf u = 1
  cd : P.cellsOf d = 2
  cds : P.cellsOf ds = 1
  cp : P.cellsOf p = 2
  cps : P.cellsOf ps = 1
  cf : P.cellsOf f = 1
  kd : fd.toList.map (fun x => (x.type, x.offset)) = [(u, 0), (u, 1)]
  kp : fp.toList.map (fun x => (x.type, x.offset)) = [(b, 0), (ds, 1)]
  kf : ff.toList.map (fun x => (x.type, x.offset)) = [(ps, 0)]
theorem nat_u32 {n : Int} (h : (Lit.int .u32 n).wf = true) : ∃ a : Nat, n = (a : Int) ∧ a < 4294967296 := by
  simp [Lit.wf, IntKind.min, IntKind.max, IntKind.signed, IntKind.bits] at h
  exact ⟨n.toNat, by omega, by omega⟩
theorem dep_of (T : Tys P) {fu : Nat} {cs : List Value} {z : DataW H × List MemPlace} (h : DataW.trod enc P w 0 (fun _ => true) true fu T.d cs = some z) (hl : cs.length = 2) : ∃ d : Nat × Nat, cs = dcells d ∧ d.1 < 4294967296 ∧ d.2 < 4294967296 := by
  obtain ⟨n, hn⟩ := field_of T.hd T.kd h
  obtain ⟨_, h0⟩ := hn 0 _ _ rfl
  obtain ⟨_, h1⟩ := hn 1 _ _ rfl
  obtain ⟨v0, e0, w0⟩ := int_at T.hu T.cu h0
  obtain ⟨v1, e1, w1⟩ := int_at T.hu T.cu h1
  obtain ⟨a, rfl, ha⟩ := nat_u32 w0
  obtain ⟨b, rfl, hb⟩ := nat_u32 w1
  refine ⟨(a, b), ?_, ha, hb⟩
  match cs, hl with
  | [a0, a1], _ => simp_all [dcells]
theorem pt_of (T : Tys P) {fu : Nat} {cs : List Value} {z : DataW H × List MemPlace} (h : DataW.trod enc P w 0 (fun _ => true) true fu T.p cs = some z) (hl : cs.length = 2) : ∃ m : Pt, cs = m.cells ∧ m.wf w := by
  obtain ⟨n, hn⟩ := field_of T.hp T.kp h
  obtain ⟨_, h0⟩ := hn 0 _ _ rfl
  obtain ⟨_, h1⟩ := hn 1 _ _ rfl
  obtain ⟨v0, e0⟩ := bool_at T.hb T.cb h0
  rw [T.cds] at h1
  match cs, hl with
  | [a0, a1], _ =>
    simp only [List.drop_succ_cons, List.drop_zero, List.take_succ_cons, List.take_zero] at h1
    simp only [List.getElem?_cons_zero, Option.some.injEq] at e0
    obtain ⟨A, nn, nc, X, rfl, hle, hcap, hnil, hrd, hX⟩ := open_rowsK T.hds T.cd (by decide) (R := fun cs => ∃ d : Nat × Nat, cs = dcells d ∧ d.1 < 4294967296 ∧ d.2 < 4294967296) (fun fu cs z hz hl => dep_of T hz hl) h1
    obtain ⟨N, hN⟩ := choose_lt (α := Nat × Nat) (n := nn) (p := fun j d => X j = dcells d ∧ d.1 < 4294967296 ∧ d.2 < 4294967296) (fun j hj => (hX j hj).2)
    exact ⟨⟨v0, A, nn, nc, N⟩, by rw [e0]; rfl, ⟨hle, hcap, hnil, rowF_congr (by decide) hrd (fun j hj => (hN j hj).1), fun j hj => (hN j hj).2⟩⟩
theorem fl_of (T : Tys P) {fu : Nat} {cs : List Value} {z : DataW H × List MemPlace} (h : DataW.trod enc P w 0 (fun _ => true) true fu T.f cs = some z) (hl : cs.length = 1) : ∃ m : Fl, cs = m.cells ∧ m.wf w := by
  obtain ⟨n, hn⟩ := field_of T.hf T.kf h
  obtain ⟨_, h0⟩ := hn 0 _ _ rfl
  rw [T.cps] at h0
  match cs, hl with
  | [a0], _ =>
    simp only [List.drop_zero, List.take_succ_cons, List.take_zero] at h0
    obtain ⟨A, nn, nc, X, rfl, hle, hcap, hnil, hrd, hX⟩ := open_rowsK T.hps T.cp (by decide) (R := fun cs => ∃ m : Pt, cs = m.cells ∧ m.wf w) (fun fu cs z hz hl => pt_of T hz hl) h0
    obtain ⟨N, hN⟩ := choose_lt (α := Pt) (n := nn) (p := fun j m => X j = m.cells ∧ m.wf w) (fun j hj => (hX j hj).2)
    exact ⟨⟨A, nn, nc, N⟩, rfl, ⟨hle, hcap, hnil, rowF_congr (by decide) hrd (fun j hj => (hN j hj).1), fun j hj => (hN j hj).2⟩⟩
theorem open_files (T : Tys P) {t : TypeId} {v : Value} {d : DataW H} {ps : List MemPlace} {b0 : Nat} (ht : P.underlying t = some (.slice T.f)) (hval : Value.okWide P w .any b0 t v) (h : DataW.Trod enc P w 0 (fun _ => true) true t v d ps) :
    ∃ (A : Option Addr) (n c : Nat) (F : Nat → Fl), v = .slice A n c ∧ n ≤ c ∧ c ≤ maxLen ∧ (A = none → n = 0 ∧ c = 0) ∧ Src w A n F := by
  obtain ⟨A, n, c, rfl⟩ : ∃ A n c, v = .slice A n c := by
    cases v <;> simp [Value.okWide, ht, Cell.okWide, Cell.ok] at hval ⊢
  obtain ⟨fuel, hf⟩ := h
  obtain ⟨A', n', c', X, e, hle, hcap, hnil, hrd, hX⟩ := open_rowsK ht T.cf (by decide) (R := fun cs => ∃ m : Fl, cs = m.cells ∧ m.wf w) (fun fu cs z hz hl => fl_of T hz hl) hf
  obtain ⟨M, hM⟩ := choose_lt (α := Fl) (n := n') (p := fun j m => X j = m.cells ∧ m.wf w) (fun j hj => (hX j hj).2)
  exact ⟨A', n', c', M, e, hle, hcap, hnil, rowF_congr (by decide) hrd (fun j hj => (hM j hj).1), fun j hj => (hM j hj).2⟩
/-- the graph of files -/
def gr (n : Nat) (F : Nat → Fl) : G := ⟨n, fun i => (F i).np, fun i j => ((F i).pt j).nd, fun i j => ((F i).pt j).kp, fun i j k => ((F i).pt j).dep k⟩
end Go.Proofs.Ytmjfdhgfpgeboac.Fs
