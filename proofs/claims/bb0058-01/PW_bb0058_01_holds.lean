import PyProof.Rows.All
import Wide.All
import OpenK.AllK
import Wide.FinOn
import PySem.Challenge.RW_bb0058_01
set_option Elab.async false
set_option maxRecDepth 100000
set_option linter.unusedVariables false
set_option linter.unusedSectionVars false
set_option maxHeartbeats 8000000

/-! The law of add (bb0058-01), in three strides.
The walk (parts M1 .. M19, M21, M22): what each function of the text computes, in plain words (D, St, Ev and their kin are the layer; addI, dbl, gauss are the words).
The plain law (parts M20, N1 .. N10): the coordinate ring of y^2 = x^3 + c as pairs of power series with a degree; the products of the ideals of points (Crv.In); the line through two points moves a function from P, Q to their sum (Crv.fwd, Crv.bwd); by induction the total is infinite exactly if the function has the lower degree (Crv.main, Crv.core).
The end (J0 and the theorem): the head puts the first frame up, law_walk walks it. -/

section
open PySem PySem.W PyProof.Rows
open_top hd for PySem.Challenge.rw_bb0058_01
end

/-! ## part M1 -/
namespace Mine
open PySem PySem.W PyProof.Rows

/-! ## data that a value stands for -/
inductive D where
  | int (i : Int)
  | bool (b : Bool)
  | tup (ds : List D)
  | lst (ds : List D)
  | fq (p n : Int)
  | val (v : Value)

def IsFQ (h : Heap) (U : List Addr) (a : Addr) (p n : Int) : Prop :=
  ∃ (d k t1 t2 t3 t4 : Nat) (h1 h2 : Int), a ∉ U ∧ d ∉ U ∧ h.get? a = some (instObj 207 d) ∧
    h.get? d = some (dictOf [⟨h1, .str (Str.ofString "field_modulus") t1, .int p t2⟩, ⟨h2, .str (Str.ofString "n") t3, .int n t4⟩] k)

mutual
def Rep (h : Heap) (U : List Addr) : D → Value → Prop
  | .int i, v => ∃ t, v = .int i t
  | .bool b, v => v = .bool b
  | .val u, v => v = u
  | .fq p n, v => ∃ a, v = .ref a ∧ IsFQ h U a p n
  | .tup ds, v => ∃ a vs, v = .ref a ∧ a ∉ U ∧ h.IsTuple a (List.toArray vs) ∧ RepL h U ds vs
  | .lst ds, v => ∃ a vs, v = .ref a ∧ a ∉ U ∧ h.IsList a (List.toArray vs) ∧ RepL h U ds vs
def RepL (h : Heap) (U : List Addr) : List D → List Value → Prop
  | [], vs => vs = []
  | d :: ds, vs => ∃ v r, vs = v :: r ∧ Rep h U d v ∧ RepL h U ds r
end

def Le (h h' : Heap) : Prop := ∀ b o, h.get? b = some o → h'.get? b = some o
def LeO (U : List Addr) (h h' : Heap) : Prop := ∀ b o, b ∉ U → h.get? b = some o → h'.get? b = some o
theorem Le.refl (h : Heap) : Le h h := fun _ _ e => e
theorem Le.trans {a b c : Heap} (x : Le a b) (y : Le b c) : Le a c := fun i o e => y i o (x i o e)
theorem Le.o {U : List Addr} {a b : Heap} (x : Le a b) : LeO U a b := fun i o _ e => x i o e

theorem IsFQ.mono {h h' : Heap} {U : List Addr} {a : Addr} {p n : Int} (x : IsFQ h U a p n) (k : LeO U h h') : IsFQ h' U a p n := by
  obtain ⟨d, j, t1, t2, t3, t4, h1, h2, ha, hd, e1, e2⟩ := x
  exact ⟨d, j, t1, t2, t3, t4, h1, h2, ha, hd, k _ _ ha e1, k _ _ hd e2⟩
theorem IsFQ.weaken {h : Heap} {U U' : List Addr} {a : Addr} {p n : Int} (x : IsFQ h U a p n) (k : ∀ u ∈ U', u ∈ U) : IsFQ h U' a p n := by
  obtain ⟨d, j, t1, t2, t3, t4, h1, h2, ha, hd, e1, e2⟩ := x
  exact ⟨d, j, t1, t2, t3, t4, h1, h2, fun m => ha (k _ m), fun m => hd (k _ m), e1, e2⟩
theorem IsFQ.fresh {h : Heap} {U V : List Addr} {a : Addr} {p n : Int} (x : IsFQ h U a p n) (k : ∀ u ∈ V, u ∈ U ∨ h.get? u = none) : IsFQ h V a p n := by
  obtain ⟨d, j, t1, t2, t3, t4, h1, h2, ha, hd, e1, e2⟩ := x
  refine ⟨d, j, t1, t2, t3, t4, h1, h2, fun m => ?_, fun m => ?_, e1, e2⟩
  · rcases k _ m with q | q
    · exact ha q
    · rw [q] at e1; cases e1
  · rcases k _ m with q | q
    · exact hd q
    · rw [q] at e2; cases e2

mutual
theorem Rep.mono {h h' : Heap} {U : List Addr} (k : LeO U h h') : ∀ {d : D} {v : Value}, Rep h U d v → Rep h' U d v
  | .int _, _, x => by unfold Rep at x ⊢; exact x
  | .bool _, _, x => by unfold Rep at x ⊢; exact x
  | .val _, _, x => by unfold Rep at x ⊢; exact x
  | .fq _ _, _, x => by unfold Rep at x ⊢; exact let ⟨a, e, q⟩ := x; ⟨a, e, q.mono k⟩
  | .tup _, _, x => by
    unfold Rep at x ⊢
    obtain ⟨a, vs, e, ha, ⟨o, ho, r⟩, q⟩ := x
    exact ⟨a, vs, e, ha, ⟨o, k _ _ ha ho, r⟩, RepL.mono k q⟩
  | .lst _, _, x => by
    unfold Rep at x ⊢
    obtain ⟨a, vs, e, ha, ⟨o, ho, r⟩, q⟩ := x
    exact ⟨a, vs, e, ha, ⟨o, k _ _ ha ho, r⟩, RepL.mono k q⟩
theorem RepL.mono {h h' : Heap} {U : List Addr} (k : LeO U h h') : ∀ {ds : List D} {vs : List Value}, RepL h U ds vs → RepL h' U ds vs
  | [], _, x => by unfold RepL at x ⊢; exact x
  | _ :: _, _, x => by
    unfold RepL at x ⊢
    obtain ⟨v, r, e, a, b⟩ := x
    exact ⟨v, r, e, Rep.mono k a, RepL.mono k b⟩
end

mutual
theorem Rep.fresh {h : Heap} {U V : List Addr} (k : ∀ u ∈ V, u ∈ U ∨ h.get? u = none) : ∀ {d : D} {v : Value}, Rep h U d v → Rep h V d v
  | .int _, _, x => by unfold Rep at x ⊢; exact x
  | .bool _, _, x => by unfold Rep at x ⊢; exact x
  | .val _, _, x => by unfold Rep at x ⊢; exact x
  | .fq _ _, _, x => by unfold Rep at x ⊢; exact let ⟨a, e, q⟩ := x; ⟨a, e, q.fresh k⟩
  | .tup _, _, x => by
    unfold Rep at x ⊢
    obtain ⟨a, vs, e, ha, ⟨o, ho, r⟩, q⟩ := x
    refine ⟨a, vs, e, fun m => ?_, ⟨o, ho, r⟩, RepL.fresh k q⟩
    rcases k _ m with z | z
    · exact ha z
    · rw [z] at ho; cases ho
  | .lst _, _, x => by
    unfold Rep at x ⊢
    obtain ⟨a, vs, e, ha, ⟨o, ho, r⟩, q⟩ := x
    refine ⟨a, vs, e, fun m => ?_, ⟨o, ho, r⟩, RepL.fresh k q⟩
    rcases k _ m with z | z
    · exact ha z
    · rw [z] at ho; cases ho
theorem RepL.fresh {h : Heap} {U V : List Addr} (k : ∀ u ∈ V, u ∈ U ∨ h.get? u = none) : ∀ {ds : List D} {vs : List Value}, RepL h U ds vs → RepL h V ds vs
  | [], _, x => by unfold RepL at x ⊢; exact x
  | _ :: _, _, x => by
    unfold RepL at x ⊢
    obtain ⟨v, r, e, a, b⟩ := x
    exact ⟨v, r, e, Rep.fresh k a, RepL.fresh k b⟩
end
theorem Rep.weaken {h : Heap} {U U' : List Addr} (k : ∀ u ∈ U', u ∈ U) {d : D} {v : Value} (x : Rep h U d v) : Rep h U' d v := Rep.fresh (fun u m => .inl (k u m)) x
theorem RepL.weaken {h : Heap} {U U' : List Addr} (k : ∀ u ∈ U', u ∈ U) {d : List D} {v : List Value} (x : RepL h U d v) : RepL h U' d v := RepL.fresh (fun u m => .inl (k u m)) x

theorem RepL.nil {h : Heap} {U : List Addr} : RepL h U [] [] := by unfold RepL; rfl
theorem RepL.cons {h : Heap} {U : List Addr} {d : D} {ds : List D} {v : Value} {vs : List Value} (a : Rep h U d v) (b : RepL h U ds vs) : RepL h U (d :: ds) (v :: vs) := by
  unfold RepL; exact ⟨v, vs, rfl, a, b⟩
theorem RepL.cons_inv {h : Heap} {U : List Addr} {d : D} {ds : List D} {vs : List Value} (x : RepL h U (d :: ds) vs) : ∃ v r, vs = v :: r ∧ Rep h U d v ∧ RepL h U ds r := by
  unfold RepL at x; exact x
theorem RepL.nil_inv {h : Heap} {U : List Addr} {vs : List Value} (x : RepL h U [] vs) : vs = [] := by
  unfold RepL at x; exact x
theorem RepL.length {h : Heap} {U : List Addr} : ∀ {ds : List D} {vs : List Value}, RepL h U ds vs → vs.length = ds.length
  | [], _, x => by rw [x.nil_inv]; rfl
  | _ :: _, _, x => by obtain ⟨v, r, rfl, _, b⟩ := x.cons_inv; simp [b.length]
theorem RepL.get {h : Heap} {U : List Addr} : ∀ {ds : List D} {vs : List Value}, RepL h U ds vs → ∀ {i : Nat} {d : D}, ds[i]? = some d → ∃ v, vs[i]? = some v ∧ Rep h U d v
  | [], _, x, i, d, e => by simp at e
  | _ :: _, _, x, 0, d, e => by obtain ⟨v, r, rfl, a, _⟩ := x.cons_inv; simp at e; subst e; exact ⟨v, by simp, a⟩
  | _ :: _, _, x, i + 1, d, e => by
    obtain ⟨v, r, rfl, _, b⟩ := x.cons_inv
    simp at e
    obtain ⟨u, e1, e2⟩ := b.get e
    exact ⟨u, by simpa using e1, e2⟩
theorem RepL.append {h : Heap} {U : List Addr} : ∀ {ds es : List D} {vs us : List Value}, RepL h U ds vs → RepL h U es us → RepL h U (ds ++ es) (vs ++ us)
  | [], _, _, _, x, y => by rw [x.nil_inv]; exact y
  | _ :: _, _, _, _, x, y => by obtain ⟨v, r, rfl, a, b⟩ := x.cons_inv; exact .cons a (b.append y)
theorem RepL.take {h : Heap} {U : List Addr} : ∀ {ds : List D} {vs : List Value} (n : Nat), RepL h U ds vs → RepL h U (ds.take n) (vs.take n)
  | [], _, n, x => by rw [x.nil_inv]; simp; exact .nil
  | _ :: _, _, 0, x => by simp; exact .nil
  | _ :: _, _, n + 1, x => by obtain ⟨v, r, rfl, a, b⟩ := x.cons_inv; simp; exact .cons a (b.take n)
theorem RepL.drop {h : Heap} {U : List Addr} : ∀ {ds : List D} {vs : List Value} (n : Nat), RepL h U ds vs → RepL h U (ds.drop n) (vs.drop n)
  | [], _, n, x => by rw [x.nil_inv]; simp; exact .nil
  | _ :: _, _, 0, x => by simpa using x
  | _ :: _, _, n + 1, x => by obtain ⟨v, r, rfl, a, b⟩ := x.cons_inv; simp; exact b.drop n
theorem RepL.set {h : Heap} {U : List Addr} : ∀ {ds : List D} {vs : List Value}, RepL h U ds vs → ∀ (i : Nat) {d : D} {v : Value}, Rep h U d v → RepL h U (ds.set i d) (vs.set i v)
  | [], _, x, i, d, v, _ => by rw [x.nil_inv]; simp; exact .nil
  | _ :: _, _, x, 0, d, v, y => by obtain ⟨u, r, rfl, a, b⟩ := x.cons_inv; simp; exact .cons y b
  | _ :: _, _, x, i + 1, d, v, y => by obtain ⟨u, r, rfl, a, b⟩ := x.cons_inv; simp; exact .cons a (b.set i y)
theorem RepL.replicate {h : Heap} {U : List Addr} {d : D} {v : Value} (a : Rep h U d v) : ∀ n, RepL h U (List.replicate n d) (List.replicate n v)
  | 0 => .nil
  | n + 1 => .cons a (RepL.replicate a n)

theorem Rep.int {h : Heap} {U : List Addr} {i : Int} {v : Value} (x : Rep h U (.int i) v) : ∃ t, v = .int i t := by unfold Rep at x; exact x
theorem Rep.bool {h : Heap} {U : List Addr} {i : Bool} {v : Value} (x : Rep h U (.bool i) v) : v = .bool i := by unfold Rep at x; exact x
theorem Rep.val {h : Heap} {U : List Addr} {u v : Value} (x : Rep h U (.val u) v) : v = u := by unfold Rep at x; exact x
theorem Rep.fq {h : Heap} {U : List Addr} {p n : Int} {v : Value} (x : Rep h U (.fq p n) v) : ∃ a, v = .ref a ∧ IsFQ h U a p n := by unfold Rep at x; exact x
theorem Rep.tup {h : Heap} {U : List Addr} {ds : List D} {v : Value} (x : Rep h U (.tup ds) v) : ∃ a vs, v = .ref a ∧ a ∉ U ∧ h.IsTuple a (List.toArray vs) ∧ RepL h U ds vs := by unfold Rep at x; exact x
theorem Rep.lst {h : Heap} {U : List Addr} {ds : List D} {v : Value} (x : Rep h U (.lst ds) v) : ∃ a vs, v = .ref a ∧ a ∉ U ∧ h.IsList a (List.toArray vs) ∧ RepL h U ds vs := by unfold Rep at x; exact x
theorem Rep.mkInt {h : Heap} {U : List Addr} (i : Int) (t : Tok) : Rep h U (.int i) (.int i t) := by unfold Rep; exact ⟨t, rfl⟩
theorem Rep.mkBool {h : Heap} {U : List Addr} (i : Bool) : Rep h U (.bool i) (.bool i) := by unfold Rep; rfl
theorem Rep.mkVal {h : Heap} {U : List Addr} (v : Value) : Rep h U (.val v) v := by unfold Rep; rfl
theorem Rep.mkTup {h : Heap} {U : List Addr} {ds : List D} {a : Addr} {vs : List Value} (hU : a ∉ U) (e : h.IsTuple a (List.toArray vs)) (r : RepL h U ds vs) : Rep h U (.tup ds) (.ref a) := by unfold Rep; exact ⟨a, vs, rfl, hU, e, r⟩
theorem Rep.mkLst {h : Heap} {U : List Addr} {ds : List D} {a : Addr} {vs : List Value} (hU : a ∉ U) (e : h.IsList a (List.toArray vs)) (r : RepL h U ds vs) : Rep h U (.lst ds) (.ref a) := by unfold Rep; exact ⟨a, vs, rfl, hU, e, r⟩
theorem Rep.mkFq {h : Heap} {U : List Addr} {p n : Int} {a : Addr} (r : IsFQ h U a p n) : Rep h U (.fq p n) (.ref a) := by unfold Rep; exact ⟨a, rfl, r⟩

/-! ## what a name holds: frozen data, or a list that the frame still turns -/
inductive B where
  | fro (d : D)
  | own (ds : List D)
def RepB (h : Heap) (W V : List Addr) : B → Value → Prop
  | .fro d, v => Rep h (W ++ V) d v
  | .own ds, v => ∃ a vs, v = .ref a ∧ a ∈ W ∧ h.PlainList a (List.toArray vs) ∧ RepL h (W ++ V) ds vs
theorem RepB.le {h h' : Heap} {W V : List Addr} {b : B} {v : Value} (x : RepB h W V b v) (k : Le h h') : RepB h' W V b v := by
  cases b with
  | fro d => exact Rep.mono k.o x
  | own ds => obtain ⟨a, vs, e, ha, ⟨n, ho⟩, q⟩ := x; exact ⟨a, vs, e, ha, ⟨n, k _ _ ho⟩, q.mono k.o⟩
/-- a list, of either kind -/
def B.isL (b : B) (ds : List D) : Prop := b = .fro (.lst ds) ∨ b = .own ds
theorem isL_fro {ds : List D} : B.isL (.fro (.lst ds)) ds := .inl rfl
theorem isL_own {ds : List D} : B.isL (.own ds) ds := .inr rfl
theorem RepB.list {h : Heap} {W V : List Addr} {b : B} {ds : List D} {v : Value} (x : RepB h W V b v) (hb : b.isL ds) :
    ∃ a vs, v = .ref a ∧ h.IsList a (List.toArray vs) ∧ RepL h (W ++ V) ds vs := by
  rcases hb with rfl | rfl
  · obtain ⟨a, vs, e, _, l, r⟩ := Rep.lst (h := h) (U := W ++ V) x; exact ⟨a, vs, e, l, r⟩
  · obtain ⟨a, vs, e, _, l, r⟩ := x; exact ⟨a, vs, e, l.isList, r⟩
theorem RepB.mkInt {h : Heap} {W V : List Addr} (i : Int) (t : Tok) : RepB h W V (.fro (.int i)) (.int i t) := Rep.mkInt (h := h) (U := W ++ V) i t
theorem RepB.mkBool {h : Heap} {W V : List Addr} (i : Bool) : RepB h W V (.fro (.bool i)) (.bool i) := Rep.mkBool (h := h) (U := W ++ V) i
theorem RepB.mkFq {h : Heap} {W V : List Addr} {p n : Int} {a : Addr} (r : IsFQ h (W ++ V) a p n) : RepB h W V (.fro (.fq p n)) (.ref a) := Rep.mkFq (h := h) (U := W ++ V) r
theorem RepB.int {h : Heap} {W V : List Addr} {i : Int} {v : Value} (x : RepB h W V (.fro (.int i)) v) : ∃ t, v = .int i t := Rep.int (h := h) (U := W ++ V) x
theorem RepB.bool {h : Heap} {W V : List Addr} {i : Bool} {v : Value} (x : RepB h W V (.fro (.bool i)) v) : v = .bool i := Rep.bool (h := h) (U := W ++ V) x
theorem RepB.val {h : Heap} {W V : List Addr} {u v : Value} (x : RepB h W V (.fro (.val u)) v) : v = u := Rep.val (h := h) (U := W ++ V) x
theorem RepB.fq {h : Heap} {W V : List Addr} {p n : Int} {v : Value} (x : RepB h W V (.fro (.fq p n)) v) : ∃ a, v = .ref a ∧ IsFQ h (W ++ V) a p n := Rep.fq (h := h) (U := W ++ V) x
theorem RepB.tup {h : Heap} {W V : List Addr} {ds : List D} {v : Value} (x : RepB h W V (.fro (.tup ds)) v) : ∃ a vs, v = .ref a ∧ a ∉ W ++ V ∧ h.IsTuple a (List.toArray vs) ∧ RepL h (W ++ V) ds vs := Rep.tup (h := h) (U := W ++ V) x
theorem RepB.frz {h : Heap} {W V : List Addr} {d : D} {v : Value} (x : RepB h W V (.fro d) v) : Rep h (W ++ V) d v := x
theorem Rep.b {h : Heap} {W V : List Addr} {d : D} {v : Value} (x : Rep h (W ++ V) d v) : RepB h W V (.fro d) v := x

inductive RepBL (h : Heap) (W V : List Addr) : List B → List Value → Prop
  | nil : RepBL h W V [] []
  | cons {b bs v vs} : RepB h W V b v → RepBL h W V bs vs → RepBL h W V (b :: bs) (v :: vs)
theorem RepBL.le {h h' : Heap} {W V : List Addr} {b : List B} {v : List Value} (x : RepBL h W V b v) (k : Le h h') : RepBL h' W V b v := by
  induction x with
  | nil => exact .nil
  | cons a _ ih => exact .cons (a.le k) ih
theorem RepBL.frz {h : Heap} {W V : List Addr} : ∀ {ds : List D} {v : List Value}, RepBL h W V (ds.map .fro) v → RepL h (W ++ V) ds v
  | [], _, x => by cases x; exact .nil
  | _ :: _, _, x => by cases x with | cons a r => exact .cons a r.frz
theorem RepL.bl {h : Heap} {W V : List Addr} : ∀ {ds : List D} {v : List Value}, RepL h (W ++ V) ds v → RepBL h W V (ds.map .fro) v
  | [], _, x => by rw [x.nil_inv]; exact .nil
  | _ :: _, _, x => by obtain ⟨v, r, rfl, a, b⟩ := x.cons_inv; exact .cons a b.bl
theorem RepBL.one {h : Heap} {W V : List Addr} {b : B} {vs : List Value} (x : RepBL h W V [b] vs) : ∃ v, vs = [v] ∧ RepB h W V b v := by
  cases x with | cons a r => cases r; exact ⟨_, rfl, a⟩
theorem RepBL.two {h : Heap} {W V : List Addr} {b c : B} {vs : List Value} (x : RepBL h W V [b, c] vs) : ∃ v u, vs = [v, u] ∧ RepB h W V b v ∧ RepB h W V c u := by
  cases x with | cons a r => obtain ⟨u, rfl, q⟩ := r.one; exact ⟨_, u, rfl, a, q⟩
theorem RepBL.three {h : Heap} {W V : List Addr} {b c d : B} {vs : List Value} (x : RepBL h W V [b, c, d] vs) : ∃ v u t, vs = [v, u, t] ∧ RepB h W V b v ∧ RepB h W V c u ∧ RepB h W V d t := by
  cases x with | cons a r => obtain ⟨u, t, rfl, q⟩ := r.two; exact ⟨_, u, t, rfl, a, q⟩

structure GC (w : World) (h : Heap) : Prop where
  X : (hd.heap_39 w.params).In h
  g : ∃ mg, h.Ns mainGlobals mg
  b : ∃ mb, h.Ns builtinsNs mb ∧ ∀ x : Str, x ≠ "__name__" → mb x = bootBuiltins x
  nolimit : h.NoLimit
theorem GC.le {w : World} {h h' : Heap} (x : GC w h) (k : Le h h') : GC w h' :=
  ⟨x.X.keeps k, let ⟨mg, e⟩ := x.g; ⟨mg, e.keeps k⟩, let ⟨mb, e, r⟩ := x.b; ⟨mb, e.keeps k, r⟩, x.nolimit.keeps k⟩

def Mv (s s' : Shared) : Prop := ∃ h tk, s' = { s with heap := h, toks := tk }
theorem Mv.refl (s : Shared) : Mv s s := ⟨s.heap, s.toks, rfl⟩
theorem Mv.trans {a b c : Shared} (x : Mv a b) (y : Mv b c) : Mv a c := by
  obtain ⟨h, t, rfl⟩ := x; obtain ⟨h', t', rfl⟩ := y; exact ⟨h', t', rfl⟩
theorem Keeps.mv {s s' : Shared} (x : Keeps s s') : Mv s s' := let ⟨h, t, e, _⟩ := x; ⟨h, t, e⟩
theorem Keeps.le {s s' : Shared} (x : Keeps s s') : Le s.heap s'.heap := by obtain ⟨h, t, rfl, k⟩ := x; exact k
theorem Keeps.of {s s' : Shared} (x : Mv s s') (y : Le s.heap s'.heap) : Keeps s s' := by obtain ⟨h, t, rfl⟩ := x; exact ⟨h, t, rfl, y⟩
theorem Keeps.rfl' (s : Shared) : Keeps s s := ⟨s.heap, s.toks, rfl, fun _ _ e => e⟩
theorem Keeps.trans' {a b c : Shared} (x : Keeps a b) (y : Keeps b c) : Keeps a c := Keeps.of ((Keeps.mv x).trans (Keeps.mv y)) ((Keeps.le x).trans (Keeps.le y))
theorem Keeps.tok (s : Shared) (t : Nat) : Keeps s { s with toks := t } := ⟨s.heap, t, rfl, fun _ _ e => e⟩
theorem Keeps.heap (s : Shared) {h : Heap} {t : Nat} (k : Le s.heap h) : Keeps s { s with heap := h, toks := t } := ⟨h, t, rfl, k⟩
theorem Keeps.push (s : Shared) (o : Obj) : Keeps s { s with heap := s.heap.push o } := ⟨_, s.toks, rfl, fun _ _ e => Heap.get?_push_of_some _ e⟩

/-- what a name of the frame's holds -/
def look (env : Env) (h : Heap) (x : Str) : Option Value :=
  if env.kindOf x = some .local then (match h.get? env.locals with | some ⟨_, _, .dict es _, _⟩ => nsFind es x | _ => none)
  else (match env.cells.lookup x with | some c => (match h.get? c with | some ⟨_, _, .cell v, _⟩ => v | _ => none) | none => none)
theorem look_local {env : Env} {h : Heap} {m : Str → Option Value} {x : Str} (hn : h.Ns env.locals m) (hk : env.kindOf x = some .local) : look env h x = m x := by
  obtain ⟨⟨oc, od, dt, sl⟩, es, ep, ho, hd, _, hf⟩ := hn
  dsimp only at hd
  subst hd
  unfold look
  rw [if_pos hk, ho]
  exact hf x
theorem look_cell {env : Env} {h : Heap} {c : Addr} {v : Option Value} {x : Str} (hc : h.IsCell c v) (hk : env.kindOf x ≠ some .local) (hx : env.cells.lookup x = some c) : look env h x = v := by
  obtain ⟨⟨oc, od, dt, sl⟩, ho, hd⟩ := hc
  dsimp only at hd
  subst hd
  unfold look
  rw [if_neg hk, hx]
  dsimp only
  rw [ho]
theorem look_le {env : Env} {h h' : Heap} (k : Le h h') {x : Str} {v : Value} (e : look env h x = some v) : look env h' x = some v := by
  unfold look at e ⊢
  split at e
  · rename_i hk
    rw [if_pos hk]
    split at e
    · rename_i ho; rw [k _ _ ho]; exact e
    · cases e
  · rename_i hk
    rw [if_neg hk]
    split at e
    · rename_i c hc
      split at e
      · rename_i ho; rw [k _ _ ho]; exact e
      · cases e
    · cases e

abbrev Gm := List (Str × B)
def Gm.get (Γ : Gm) (x : Str) : Option B := List.lookup x Γ

/-- what a stretch starts from: the call's first state, the loop's first state, what that loop's frame may turn, what the callers may turn -/
structure Bs where
  s₀ : Shared
  s₁ : Shared
  W₁ : List Addr
  V : List Addr

structure Typed (h : Heap) (W V : List Addr) (g : Str → Option Value) (Γ : Gm) : Prop where
  val : ∀ x b, Γ.get x = some b → ∃ v, g x = some v ∧ RepB h W V b v
  sep : ∀ x y ds es a, x ≠ y → Γ.get x = some (.own ds) → Γ.get y = some (.own es) → g x = some (.ref a) → g y ≠ some (.ref a)

structure St (w : World) (β : Bs) (env : Env) (W : List Addr) (Γ : Gm) (s : Shared) : Prop where
  G : GC w β.s₀.heap
  kf : env.scope.kind = .function
  glob : env.globals = mainGlobals
  blt : env.builtins = builtinsNs
  kp : Keeps β.s₀ s
  mv : Mv β.s₁ s
  k1 : LeO β.W₁ β.s₁.heap s.heap
  w0 : ∀ u ∈ W, β.s₀.heap.get? u = none
  w1 : ∀ u ∈ W, u ∈ β.W₁ ∨ β.s₁.heap.get? u = none
  dom : ∀ u ∈ W ++ β.V, ∃ o, s.heap.get? u = some o
  dj : ∀ u ∈ W, u ∉ β.V
  d1 : ∀ u ∈ β.W₁, ∃ o, s.heap.get? u = some o
  lu : env.locals ∈ W
  cu : ∀ n c, env.cells.lookup n = some c → c ∈ W
  apart : ∀ n n' c, env.cells.lookup n = some c → env.cells.lookup n' = some c → n = n'
  ns : ∃ m, s.heap.Ns env.locals m
  cx : ∀ n c, env.cells.lookup n = some c → ∃ v, s.heap.IsCell c v
  ty : Typed s.heap W β.V (look env s.heap) Γ

theorem St.gc {w : World} {β : Bs} {env : Env} {W : List Addr} {Γ : Gm} {s : Shared} (x : St w β env W Γ s) : GC w s.heap := x.G.le (Keeps.le x.kp)
theorem St.le {w : World} {β : Bs} {env : Env} {W : List Addr} {Γ : Gm} {s s' : Shared} (x : St w β env W Γ s) (k : Keeps s s') : St w β env W Γ s' := by
  have l := Keeps.le k
  refine ⟨x.G, x.kf, x.glob, x.blt, Keeps.trans' x.kp k, x.mv.trans (Keeps.mv k), fun b o hb e => l _ _ (x.k1 b o hb e), x.w0, x.w1, fun u m => let ⟨o, e⟩ := x.dom u m; ⟨o, l _ _ e⟩, x.dj, fun u m => let ⟨o, e⟩ := x.d1 u m; ⟨o, l _ _ e⟩, x.lu, x.cu, x.apart,
    let ⟨m, e⟩ := x.ns; ⟨m, e.keeps l⟩, fun n c e => let ⟨v, e'⟩ := x.cx n c e; ⟨v, e'.keeps l⟩, fun y b e => let ⟨v, e1, r⟩ := x.ty.val y b e; ⟨v, look_le l e1, r.le l⟩, fun y z ds es a hne h1 h2 e1 e2 => ?_⟩
  obtain ⟨v, f1, _⟩ := x.ty.val y _ h1
  obtain ⟨u, f2, _⟩ := x.ty.val z _ h2
  have g1 := look_le l f1
  have g2 := look_le l f2
  rw [e1] at g1; rw [e2] at g2
  cases g1; cases g2
  exact x.ty.sep y z ds es a hne h1 h2 f1 f2
/-- fewer names -/
def Sub (Γ' Γ : Gm) : Prop := ∀ x b, Γ'.get x = some b → Γ.get x = some b
theorem sub_nil {Γ : Gm} : Sub [] Γ := fun x b e => by cases e
theorem sub_cons {Γ Γ' : Gm} {x : Str} {b : B} (h : Γ.get x = some b) (r : Sub Γ' Γ) : Sub ((x, b) :: Γ') Γ := fun y c e => by
  unfold Gm.get at e
  rw [List.lookup_cons] at e
  cases hb : y == x with
  | true => rw [hb] at e; cases e; rw [beq_iff_eq.mp hb]; exact h
  | false => rw [hb] at e; exact r y c e
theorem St.sub {w : World} {β : Bs} {env : Env} {W : List Addr} {Γ Γ' : Gm} {s : Shared} (x : St w β env W Γ s) (k : Sub Γ' Γ) : St w β env W Γ' s := by
  exact { x with ty := ⟨fun y b e => x.ty.val y b (k _ _ e), fun y z ds es a hne h1 h2 => x.ty.sep y z ds es a hne (k _ _ h1) (k _ _ h2)⟩ }
/-- a new stretch from here; and back -/
def Bs.here (β : Bs) (W : List Addr) (s : Shared) : Bs := ⟨β.s₀, s, W, β.V⟩
theorem St.here {w : World} {β : Bs} {env : Env} {W : List Addr} {Γ : Gm} {s : Shared} (x : St w β env W Γ s) : St w (β.here W s) env W Γ s :=
  { G := x.G, kf := x.kf, glob := x.glob, blt := x.blt, kp := x.kp, mv := Mv.refl s, k1 := fun _ _ _ e => e, w0 := x.w0, w1 := fun u m => .inl m, dom := x.dom, dj := x.dj, d1 := fun u m => x.dom u (List.mem_append_left _ m), lu := x.lu, cu := x.cu, apart := x.apart, ns := x.ns, cx := x.cx, ty := x.ty }
theorem St.back {w : World} {β : Bs} {env env' : Env} {W W' : List Addr} {Γ Γ' : Gm} {s s' : Shared} (x : St w β env W Γ s) (y : St w (β.here W s) env' W' Γ' s') : St w β env' W' Γ' s' :=
  { G := y.G, kf := y.kf, glob := y.glob, blt := y.blt, kp := y.kp, mv := x.mv.trans y.mv,
    k1 := fun b o hb e => y.k1 b o (fun m => by
      rcases x.w1 b m with h | h
      · exact hb h
      · rw [h] at e; cases e) (x.k1 b o hb e),
    w0 := y.w0,
    w1 := fun u m => by
      rcases y.w1 u m with h | h
      · exact x.w1 u h
      · by_cases hu : u ∈ β.W₁
        · exact .inl hu
        · refine .inr ?_
          cases e : β.s₁.heap.get? u with
          | none => rfl
          | some o =>
            have := x.k1 u o hu e
            have h' : s.heap.get? u = none := h
            rw [h'] at this; cases this
    dom := y.dom, dj := y.dj,
    d1 := fun u m => by
      by_cases hu : u ∈ W
      · exact y.d1 u hu
      · obtain ⟨o, e⟩ := x.d1 u m; exact ⟨o, y.k1 u o hu e⟩
    lu := y.lu, cu := y.cu, apart := y.apart, ns := y.ns, cx := y.cx, ty := y.ty }

structure Room (n : Nat) (A : Around) : Prop where
  hd : A.handled = none
  dp : A.depth + n < 900
  un : A.units + 20 * n < 9000
theorem Room.less {n m : Nat} {A : Around} (x : Room n A) (h : m ≤ n) : Room m A := ⟨x.hd, by have := x.dp; omega, by have := x.un; omega⟩

theorem post {α : Type} {M : Model} {A : Around} {t : Sem α} {Q Q' : α → Shared → Prop} {E : Value → Shared → Prop} {s : Shared} (h : wpAny M A t Q E s) (k : ∀ a s, Q a s → Q' a s) : wpAny M A t Q' E s :=
  wpAny_mono h k fun _ _ z => z

/-! ## judgments -/
section
variable (w : World) (A : Around) (env : Env)
abbrev M : Model := model PySem.Challenge.pw_bb0058_01 w

/-- the expression hands back a value that stands for b; nothing that stood is changed -/
def Ev (Γ : Gm) (e : Expr) (b : B) : Prop :=
  ∀ (β : Bs) (W : List Addr) (s : Shared) (Q : Value → Shared → Prop) (E : Value → Shared → Prop), St w β env W Γ s →
    (∀ v s', Keeps s s' → RepB s'.heap W β.V b v → Q v s') → wpAny (M w) A (eval e env) Q E s
/-- .. a list that did not stand before -/
def EvN (Γ : Gm) (e : Expr) (ds : List D) : Prop :=
  ∀ (β : Bs) (W : List Addr) (s : Shared) (Q : Value → Shared → Prop) (E : Value → Shared → Prop), St w β env W Γ s →
    (∀ a vs s', Keeps s s' → s.heap.get? a = none → s'.heap.PlainList a (List.toArray vs) → RepL s'.heap (a :: (W ++ β.V)) ds vs → Q (.ref a) s') → wpAny (M w) A (eval e env) Q E s
def EvL (Γ : Gm) (es : List Expr) (bs : List B) : Prop :=
  ∀ (pos : Pos) (β : Bs) (W : List Addr) (s : Shared) (Q : List Value → Shared → Prop) (E : Value → Shared → Prop), St w β env W Γ s →
    (∀ vs s', Keeps s s' → RepBL s'.heap W β.V bs vs → Q vs s') → wpAny (M w) A (spliced (backTo pos (starEach es env))) Q E s
def EvT (Γ : Gm) (e : Expr) (b : Bool) : Prop :=
  ∀ (β : Bs) (W : List Addr) (s : Shared) (Q : Bool → Shared → Prop) (E : Value → Shared → Prop), St w β env W Γ s →
    (∀ s', Keeps s s' → Q b s') → wpAny (M w) A (isTrue e env (eval e env)) Q E s
end

/-- how a name is reached -/
def Kind (env : Env) (x : Str) : Prop := env.kindOf x = some .local ∨ ((env.kindOf x = some .cell ∨ (env.kindOf x = some .free ∧ (x == ("__classdict__" : Str)) = false)) ∧ (env.cells.lookup x).isSome = true)

section
variable {w : World} {A : Around} {env : Env} {Γ : Gm}
theorem none_of_dom {h : Heap} {U : List Addr} (dm : ∀ u ∈ U, ∃ o, h.get? u = some o) {a : Addr} (e : h.get? a = none) : a ∉ U := fun m => by
  obtain ⟨o, e'⟩ := dm a m; rw [e] at e'; cases e'
theorem size_none (h : Heap) : h.get? h.objs.size = none := by
  cases e : h.get? h.objs.size with
  | none => rfl
  | some o => exact absurd (Heap.lt_size e) (Nat.lt_irrefl _)
theorem none_back {s s' : Shared} (k : Keeps s s') {a : Addr} (h : s'.heap.get? a = none) : s.heap.get? a = none := by
  cases e : s.heap.get? a with
  | none => rfl
  | some o => have := Keeps.le k _ _ e; rw [h] at this; cases this
/-- a new object keeps what stood, and what is told avoids it -/
theorem RepL.new {h h' : Heap} {U : List Addr} {ds : List D} {vs : List Value} (r : RepL h U ds vs) {a : Addr} (ha : h.get? a = none) (k : Le h h') : RepL h' (a :: U) ds vs :=
  (r.fresh (V := a :: U) fun u m => by
    rcases List.mem_cons.mp m with rfl | m
    · exact .inr ha
    · exact .inl m).mono k.o

theorem ev_new {e : Expr} {ds : List D} (h : EvN w A env Γ e ds) : Ev w A env Γ e (.fro (.lst ds)) := fun β W s Q E S q =>
  h β W s Q E S fun a vs s' k ha hl r => q _ _ k (Rep.b (Rep.mkLst (none_of_dom S.dom ha) hl.isList (r.weaken fun u m => List.mem_cons_of_mem _ m)))

theorem ev_const {i : Int} {k : Nat} {pos : Pos} : Ev w A env Γ (.Constant (.int i) k pos) (.fro (.int i)) := fun _ _ s _ _ _ q =>
  wpAny_Constant_int (q _ _ (Keeps.tok s _) (RepB.mkInt i _))
theorem ev_true {b : Bool} {k : Nat} {pos : Pos} : Ev w A env Γ (.Constant (.bool b) k pos) (.fro (.bool b)) := fun _ _ s _ _ _ q => by
  show wpAny (M w) A (pure (Value.bool b) : Sem Value) _ _ s
  exact wpAny_pure (q _ _ (Keeps.rfl' s) (RepB.mkBool b))

theorem St.name {β : Bs} {W : List Addr} {s : Shared} (S : St w β env W Γ s) {x : Str} {b : B} (h : Γ.get x = some b) (hk : Kind env x)
    {Q : Value → Shared → Prop} {E : Value → Shared → Prop} (q : ∀ v, look env s.heap x = some v → RepB s.heap W β.V b v → Q v s) : wpAny (M w) A (loadName env x) Q E s := by
  obtain ⟨v, e, r⟩ := S.ty.val x b h
  rcases hk with hl | ⟨hl, hs⟩
  · obtain ⟨m, hn⟩ := S.ns
    exact wpAny_loadName_local S.kf hl hn ((look_local hn hl).symm.trans e) (q v e r)
  · obtain ⟨c, hcx⟩ := Option.isSome_iff_exists.mp hs
    obtain ⟨u, hc⟩ := S.cx x c hcx
    have hne : env.kindOf x ≠ some .local := by rcases hl with hl | ⟨hl, _⟩ <;> (rw [hl]; decide)
    have hu : u = some v := (look_cell hc hne hcx).symm.trans e
    subst hu
    rcases hl with hl | ⟨hl, hd⟩
    · exact wpAny_loadName_cell S.kf hl hcx hc (q v e r)
    · exact wpAny_loadName_free S.kf hl hcx hc (q v e r) hd

theorem ev_name {x : Str} {pos : Pos} {b : B} (h : Γ.get x = some b) (hk : Kind env x)
    (hd : (x == ("__debug__" : Str)) = false) : Ev w A env Γ (.Name x pos) b := fun _ _ s _ _ S q =>
  wpAny_Name (S.name h hk fun v _ r => q v s (Keeps.rfl' s) r) hd

theorem evl_nil : EvL w A env Γ [] [] := fun _ _ _ s _ _ _ q => args_nil (q _ s (Keeps.rfl' s) .nil)
theorem evl_cons {e : Expr} {es : List Expr} {d : B} {ds : List B} (h : Ev w A env Γ e d) (h' : EvL w A env Γ es ds) (hs : starEach (e :: es) env = (false, eval e env) :: starEach es env := by rfl) :
    EvL w A env Γ (e :: es) (d :: ds) := fun pos β W s Q E S q =>
  args_cons (h β W s _ E S fun v s' k r => h' pos β W s' _ E (S.le k) fun vs s'' k' r' => q _ _ (Keeps.trans' k k') (.cons (r.le (Keeps.le k')) r')) hs

theorem ev_tuple {es : List Expr} {ds : List D} {k : Nat} {pos : Pos} (h : EvL w A env Γ es (ds.map .fro)) (hz : ds.length ≤ 1000) : Ev w A env Γ (.Tuple es k pos) (.fro (.tup ds)) := fun β W s Q E S q =>
  Tuple_ (h pos β W s _ E S fun vs s' kp r => wpAny_newObj_type (q _ _ (Keeps.trans' kp (Keeps.push s' _)) (Rep.b (Rep.mkTup (none_of_dom (S.le kp).dom (size_none _)) ⟨_, Heap.get?_push_size _ rfl, rfl, _, rfl⟩ (r.frz.mono (Keeps.le (Keeps.push s' _)).o))))
    (by show vs.toArray.size ≤ sizeLine; rw [List.size_toArray, r.frz.length, sizeLine_eq]; omega))
theorem evn_list {es : List Expr} {ds : List D} {pos : Pos} (h : EvL w A env Γ es (ds.map .fro)) (hz : ds.length ≤ 1000) : EvN w A env Γ (.List es pos) ds := fun β W s Q E S q =>
  List_ (h pos β W s _ E S fun vs s' kp r => wpAny_newObj_type (q _ _ _ (Keeps.trans' kp (Keeps.push s' _)) (none_back kp (size_none _)) ⟨0, Heap.get?_push_size _ rfl⟩ (r.frz.new (size_none _) (Keeps.le (Keeps.push s' _))))
    (by show vs.toArray.size ≤ sizeLine; rw [List.size_toArray, r.frz.length, sizeLine_eq]; omega))

/-! ### operators -/
def Op2 (w : World) (A : Around) (op : Operator) (a b c : B) : Prop :=
  ∀ (W V : List Addr) (s : Shared) (v u : Value) (Q : Value → Shared → Prop) (E : Value → Shared → Prop), GC w s.heap → (∀ x ∈ W ++ V, ∃ o, s.heap.get? x = some o) → RepB s.heap W V a v → RepB s.heap W V b u →
    (∀ r s', Keeps s s' → RepB s'.heap W V c r → Q r s') → wpAny (M w) A (binaryOp op v u) Q E s
theorem ev_bin {l r : Expr} {op : Operator} {pos : Pos} {a b c : B} (hl : Ev w A env Γ l a) (hr : Ev w A env Γ r b) (ho : Op2 w A op a b c) : Ev w A env Γ (.BinOp l op r pos) c := fun β W s Q E S q =>
  wpAny_BinOp (hl β W s _ E S fun v s₁ k₁ r₁ => hr β W s₁ _ E (S.le k₁) fun u s₂ k₂ r₂ =>
    ho W β.V s₂ v u Q E ((S.le k₁).le k₂).gc ((S.le k₁).le k₂).dom (r₁.le (Keeps.le k₂)) r₂ fun x s₃ k₃ r₃ => q x s₃ (Keeps.trans' k₁ (Keeps.trans' k₂ k₃)) r₃)
theorem op_add (a b : Int) : Op2 w A .Add (.fro (.int a)) (.fro (.int b)) (.fro (.int (a + b))) := by
  intro W V s v u Q E _ _ hv hu q
  obtain ⟨t, rfl⟩ := hv.int; obtain ⟨t', rfl⟩ := hu.int
  exact PyProof.Rows.add_int (q _ _ (Keeps.tok s _) (RepB.mkInt _ _))
theorem op_sub (a b : Int) : Op2 w A .Sub (.fro (.int a)) (.fro (.int b)) (.fro (.int (a - b))) := by
  intro W V s v u Q E _ _ hv hu q
  obtain ⟨t, rfl⟩ := hv.int; obtain ⟨t', rfl⟩ := hu.int
  exact PyProof.Rows.sub_int (q _ _ (Keeps.tok s _) (RepB.mkInt _ _))
theorem op_mod (a b : Int) (hb : b ≠ 0) : Op2 w A .Mod (.fro (.int a)) (.fro (.int b)) (.fro (.int (a.fmod b))) := by
  intro W V s v u Q E _ _ hv hu q
  obtain ⟨t, rfl⟩ := hv.int; obtain ⟨t', rfl⟩ := hu.int
  exact PyProof.Rows.mod_int' hb (q _ _ (Keeps.tok s _) (RepB.mkInt _ _))
end
end Mine

/-! ## part M2 -/
namespace Mine
open PySem PySem.W PyProof.Rows PySem.Calls

/-- a name of the module's or of the built-ins' -/
def GlobV (w : World) (x : Str) (f : Value) : Prop :=
  nsIn (hd.heap_39 w.params) mainGlobals x = some (some f) ∨ (nsIn (hd.heap_39 w.params) mainGlobals x = some none ∧ bootBuiltins x = some f ∧ x ≠ "__name__")
section
variable {w : World} {A : Around} {env : Env} {Γ : Gm}

theorem ev_glob {x : Str} {pos : Pos} {f : Value} (hg : GlobV w x f) (hx : env.kindOf x = some .globalImplicit) (hd : (x == ("__debug__" : Str)) = false)
    {β : Bs} {W : List Addr} {s : Shared} {Q : Value → Shared → Prop} {E : Value → Shared → Prop} (S : St w β env W Γ s) (q : Q f s) : wpAny (M w) A (eval (.Name x pos) env) Q E s := by
  refine Calls.Name_function_global S.kf hx ?_ hd
  have G := S.gc
  obtain ⟨mg, e⟩ := G.g
  obtain ⟨mb, e', hb⟩ := G.b
  rcases hg with h | ⟨h1, h2, h3⟩
  · exact Calls.loadGlobal_global (mg := mg) (by rw [S.glob]; exact e) (mg_of G.X e h) q
  · exact Calls.loadGlobal_builtin (mg := mg) (mb := mb) (by rw [S.glob]; exact e) (mg_none_of G.X e h1) (by rw [S.blt]; exact e') ((hb x h3).trans h2) q

/-- a call's rule -/
def CallB (w : World) (A : Around) (f : Value) (bs : List B) (b : B) : Prop :=
  ∀ (W V : List Addr) (s : Shared) (vs : List Value) (Q : Value → Shared → Prop) (E : Value → Shared → Prop), GC w s.heap → (∀ x ∈ W ++ V, ∃ o, s.heap.get? x = some o) → RepBL s.heap W V bs vs →
    (∀ r s', Keeps s s' → RepB s'.heap W V b r → Q r s') → wpAny (M w) A (call f vs) Q E s
def CallN (w : World) (A : Around) (f : Value) (bs : List B) (ds : List D) : Prop :=
  ∀ (W V : List Addr) (s : Shared) (vs : List Value) (Q : Value → Shared → Prop) (E : Value → Shared → Prop), GC w s.heap → (∀ x ∈ W ++ V, ∃ o, s.heap.get? x = some o) → RepBL s.heap W V bs vs →
    (∀ a us s', Keeps s s' → s.heap.get? a = none → s'.heap.PlainList a (List.toArray us) → RepL s'.heap (a :: (W ++ V)) ds us → Q (.ref a) s') → wpAny (M w) A (call f vs) Q E s

/-- what callWith takes without more -/
def Callee (w : World) (f : Value) : Prop := (∃ id, f = .builtin id) ∨ (∃ T, f = .type T) ∨ keepIn (hd.heap_39 w.params) f = true

theorem callWith_any {f : Value} {e : Expr} {rest : List Expr} {pos : Pos} {s : Shared} {Q : Value → Shared → Prop} {E : Value → Shared → Prop} (hc : Callee w f)
    (h : wpAny (M w) A (spliced (backTo pos (starEach (e :: rest) env))) (fun vs s₁ => GC w s₁.heap ∧ wpAny (M w) A (call f vs) Q E s₁) E s)
    (he : starEach (e :: rest) env = (false, eval e env) :: starEach rest env) (hp : (backTo pos (starEach rest env)).any (·.1) = false) :
    wpAny (M w) A (callWith pos f [] (backTo pos (starEach (e :: rest) env)) []) Q E s := by
  rcases hc with ⟨id, rfl⟩ | ⟨T, rfl⟩ | hk
  · exact callWith_builtin1 (wpAny_mono h (fun _ _ z => z.2) fun _ _ z => z) he hp
  · exact PySem.Pv.callWith_type1 (wpAny_mono h (fun _ _ z => z.2) fun _ _ z => z) he hp
  · rw [he] at h ⊢
    exact callWith_of (by show ((false || (backTo pos (starEach rest env)).any (·.1)) || false) = false; rw [hp]; rfl) (keeps_K hk)
      (evalArgs_plain (wpAny_mono h (fun _ _ z => ⟨z.1.X, z.2⟩) fun _ _ z => z))

theorem ev_call {x : Str} {px pos : Pos} {f : Value} {e : Expr} {rest : List Expr} {bs : List B} {b : B} (hg : GlobV w x f) (hx : env.kindOf x = some .globalImplicit) (hd : (x == ("__debug__" : Str)) = false)
    (hc : Callee w f) (ha : EvL w A env Γ (e :: rest) bs) (hf : CallB w A f bs b)
    (he : starEach (e :: rest) env = (false, eval e env) :: starEach rest env := by rfl) (hp : (backTo pos (starEach rest env)).any (·.1) = false := by rfl)
    (h0 : eval (.Call (.Name x px) (e :: rest) [] pos) env = (do let f ← eval (.Name x px) env; callWith pos f [] (backTo pos (starEach (e :: rest) env)) (backToKw pos (keywordEach [] env))) := by rfl) :
    Ev w A env Γ (.Call (.Name x px) (e :: rest) [] pos) b := fun β W s Q E S q =>
  Call_ (ev_glob hg hx hd S (callWith_any hc (ha pos β W s _ E S fun vs s' k r => ⟨(S.le k).gc, hf W β.V s' vs Q E (S.le k).gc (S.le k).dom r fun v s'' k' r' => q v s'' (Keeps.trans' k k') r'⟩) he hp)) h0
theorem evn_call {x : Str} {px pos : Pos} {f : Value} {e : Expr} {rest : List Expr} {bs : List B} {ds : List D} (hg : GlobV w x f) (hx : env.kindOf x = some .globalImplicit) (hd : (x == ("__debug__" : Str)) = false)
    (hc : Callee w f) (ha : EvL w A env Γ (e :: rest) bs) (hf : CallN w A f bs ds)
    (he : starEach (e :: rest) env = (false, eval e env) :: starEach rest env := by rfl) (hp : (backTo pos (starEach rest env)).any (·.1) = false := by rfl)
    (h0 : eval (.Call (.Name x px) (e :: rest) [] pos) env = (do let f ← eval (.Name x px) env; callWith pos f [] (backTo pos (starEach (e :: rest) env)) (backToKw pos (keywordEach [] env))) := by rfl) :
    EvN w A env Γ (.Call (.Name x px) (e :: rest) [] pos) ds := fun β W s Q E S q =>
  Call_ (ev_glob hg hx hd S (callWith_any hc (ha pos β W s _ E S fun vs s' k r => ⟨(S.le k).gc, hf W β.V s' vs Q E (S.le k).gc (S.le k).dom r fun a us s'' k' hn hl r' => q a us s'' (Keeps.trans' k k') (none_back k hn) hl r'⟩) he hp)) h0

/-! ### built-ins -/
theorem call_len {b : B} {ds : List D} (hb : b.isL ds) (hz : ds.length ≤ 1000) : CallB w A (.builtin "len") [b] (.fro (.int ds.length)) := by
  intro W V s vs Q E G dm r q
  obtain ⟨v, rfl, r1⟩ := r.one
  obtain ⟨a, us, rfl, l, rr⟩ := r1.list hb
  have e : us.toArray.size = ds.length := by rw [List.size_toArray, rr.length]
  refine Calls.call_len_list l (by rw [e]; omega) ?_
  rw [e]
  exact q _ _ (Keeps.tok s _) (RepB.mkInt _ _)

theorem call_listOf {b : B} {ds : List D} (hb : b.isL ds) (hz : ds.length ≤ 1000) : CallN w A (.type "list") [b] ds := by
  intro W V s vs Q E G dm r q
  obtain ⟨v, rfl, r1⟩ := r.one
  obtain ⟨a, us, rfl, l, rr⟩ := r1.list hb
  obtain ⟨o, ho, hc, n, hd⟩ := l
  refine call_list_seq a (.inl rfl) ho hc hd (fun h' c' hk hn => q _ us _ (Keeps.of ⟨_, _, rfl⟩ hk) (size_none _) ⟨c', hn⟩ (rr.new (size_none _) hk)) ?_
  rw [List.size_toArray, rr.length, sizeLine_eq]; omega

/-! ### operators of lists, products -/
theorem mulOk_small {a b : Int} (h : -(2 ^ 40) ≤ a ∧ a ≤ 2 ^ 40) : IntMulOk a b := IntMulOk.of_left (PySem.intBits_le_64 (by omega) (by omega))
theorem mulOk_small' {a b : Int} (h : -(2 ^ 40) ≤ b ∧ b ≤ 2 ^ 40) : IntMulOk a b := IntMulOk.of_right (PySem.intBits_le_64 (by omega) (by omega))
theorem op_mul (a b : Int) (h : -(2 ^ 40) ≤ a ∧ a ≤ 2 ^ 40) : Op2 w A .Mult (.fro (.int a)) (.fro (.int b)) (.fro (.int (a * b))) := by
  intro W V s v u Q E _ _ hv hu q
  obtain ⟨t, rfl⟩ := hv.int; obtain ⟨t', rfl⟩ := hu.int
  exact PyProof.Rows.mul_int (q _ _ (Keeps.tok s _) (RepB.mkInt _ _)) (mulOk_small h)
theorem op_pow3 (a : Int) (h : -(2 ^ 40) ≤ a ∧ a ≤ 2 ^ 40) : Op2 w A .Pow (.fro (.int a)) (.fro (.int 3)) (.fro (.int (a ^ 3))) := by
  intro W V s v u Q E _ _ hv hu q
  obtain ⟨t, rfl⟩ := hv.int; obtain ⟨t', rfl⟩ := hu.int
  refine pow_int (by decide) ?_ (q _ _ (Keeps.tok s _) (RepB.mkInt _ _))
  have := PySem.intBits_le_64 (k := a) (by omega) (by omega)
  omega
theorem op_fdiv (a b : Int) (hb : b ≠ 0) (hbb : -1000 ≤ b ∧ b ≤ 1000) : Op2 w A .FloorDiv (.fro (.int a)) (.fro (.int b)) (.fro (.int (a.fdiv b))) := by
  intro W V s v u Q E _ _ hv hu q
  obtain ⟨t, rfl⟩ := hv.int; obtain ⟨t', rfl⟩ := hu.int
  exact floordiv_int hb (q _ _ (Keeps.tok s _) (RepB.mkInt _ _)) (.inl (PyProof.noPylong_small (by omega)))

theorem kind_pow : builtinKind "pow" = none := by decide +kernel
theorem plain_pow : plainId "pow" = true := by decide +kernel
theorem entry_pow : entryFor table "pow" = some Builtin.«pow» := entryFor_of_tree (by kernel_rfl)
theorem args_pow (a b c : Value) : argsOk "pow" ⟨[a, b, c], []⟩ := by unfold argsOk; kernel_rfl
theorem args_ipow (a b c : Value) : argsOk "int.__pow__" ⟨[a, b, c], []⟩ := by unfold argsOk; kernel_rfl
theorem slot_pow : Slot "int" "__pow__" "int.__pow__" := (show PySem.dunder "pow" = ("__pow__" : Str) from by decide +kernel) ▸ PyProof.Rows.slot_int_pow
def powm (a e m : Int) : Int := (Builtin.powMod (a % m).toNat e.natAbs m.natAbs : Nat)
theorem ipow3 {a e m : Int} {t1 t2 t3 : Tok} (he : 0 ≤ e) (hm : 1 < m) {s : Shared} {Q : Value → Shared → Prop} {E : Value → Shared → Prop} (q : Q (.int (powm a e m) s.toks) { s with toks := s.toks + 1 }) :
    wpAny (M w) A (call (.builtin "int.__pow__") [.int a t1, .int e t2, .int m t3]) (fun v s' => v ≠ .notImplemented ∧ Q v s') E s := by
  refine wpAny_call_entry slot_pow (typeIs_int s a t1) PyProof.Rows.entry_int_pow ?_ (args_ipow _ _ _)
  show wpAny _ _ (if (m == 0) = true then _ else _) _ _ s
  rw [if_neg (by simp; omega)]
  show wpAny _ _ (if (m.natAbs == 1) = true then _ else _) _ _ s
  rw [if_neg (by simp; omega)]
  show wpAny _ _ (if e < 0 then _ else _) _ _ s
  rw [if_neg (by omega)]
  show wpAny _ _ (retInt (if (decide (m < 0) && (((Builtin.powMod (a % (m.natAbs : Int)).toNat e.natAbs m.natAbs : Nat) : Int) != 0)) = true then _ else ((Builtin.powMod (a % (m.natAbs : Int)).toNat e.natAbs m.natAbs : Nat) : Int))) _ _ s
  rw [if_neg (by simp; omega)]
  have e1 : (m.natAbs : Int) = m := by omega
  rw [e1]
  exact wpAny_bind (wpAny_mkInt (wpAny_pure ⟨_, rfl, by simp, q⟩))
set_option maxHeartbeats 1000000 in
theorem call_pow3 (a e m : Int) (he : 0 ≤ e) (hm : 1 < m) : CallB w A (.builtin "pow") [.fro (.int a), .fro (.int e), .fro (.int m)] (.fro (.int (powm a e m))) := by
  intro W V s vs Q E G dm r q
  obtain ⟨v, u, t, rfl, h1, h2, h3⟩ := r.three
  obtain ⟨t1, rfl⟩ := h1.int
  obtain ⟨t2, rfl⟩ := h2.int
  obtain ⟨t3, rfl⟩ := h3.int
  have L1 : typeLookup (.type "int") "__pow__" = pure (some (.builtin "int.__pow__")) := slot_pow.lookup
  refine call_function_entry kind_pow plain_pow entry_pow (args_pow _ _ _) ?_
  show wpAny _ _ (rule "pow.mod" >>= fun _ => typeOf (.int a t1) >>= _) _ _ _
  refine wpAny_bind ?_
  refine wpAny_rule ?_
  refine wpAny_bind ?_
  refine wpAny_typeOf (typeIs_int s a t1) ?_
  show wpAny _ _ (typeLookup (.type "int") "__pow__" >>= _) _ _ _
  refine wpAny_bind ?_
  refine wpAny_of_eq L1 ?_
  show wpAny _ _ (callSpecial? (.int a t1) "__pow__" [.int e t2, .int m t3] >>= _) _ _ _
  have H : wpAny (M w) A.in1 (callSpecial? (.int a t1) "__pow__" [.int e t2, .int m t3]) (fun v s' => ∃ x, v = some x ∧ x ≠ .notImplemented ∧ Q x s') E s := by
    refine @wpAny_callSpecial?_slot (M w) A.in1 E s (.int a t1) "int" "__pow__" "int.__pow__" [.int e t2, .int m t3] [] _ (typeIs_int s a t1) slot_pow ?_
    refine post (Q := fun v s' => v ≠ .notImplemented ∧ Q v s') (ipow3 he hm ?_) ?_
    · exact q _ _ (Keeps.tok s _) (RepB.mkInt _ _)
    · exact fun x s' z => ⟨x, rfl, z⟩
  refine wpAny_bind ?_
  refine post H ?_
  rintro v s' ⟨x, rfl, hx, hq⟩
  show wpAny _ _ (if (x != .notImplemented) = true then ret x else _) _ _ _
  rw [if_pos (by simpa using hx)]
  exact wpAny_pure ⟨x, rfl, hq⟩
end
end Mine

/-! ## part M3 -/
namespace Mine
open PySem PySem.W PyProof.Rows PySem.Calls

section
variable {w : World} {A : Around} {env : Env} {Γ : Gm} {β : Bs} {W : List Addr} {s s' : Shared}

theorem RepB.chg {h h' : Heap} {W V : List Addr} {b : B} {v : Value} {c : Addr} (x : RepB h W V b v) (sb : Heap.SameBut c h h') (hc : c ∈ W) (hne : ∀ ds a, b = .own ds → v = .ref a → a ≠ c) : RepB h' W V b v := by
  have k : LeO (W ++ V) h h' := fun b o hb e => (sb.2 b (fun e => hb (e ▸ List.mem_append_left _ hc))).trans e
  cases b with
  | fro d => exact Rep.mono k x
  | own ds =>
    obtain ⟨a, vs, rfl, ha, ⟨n, ho⟩, q⟩ := x
    exact ⟨a, vs, rfl, ha, ⟨n, (sb.2 a (hne ds a rfl rfl)).trans ho⟩, q.mono k⟩

/-- what one turned object leaves of the frame -/
theorem St.chg (S : St w β env W Γ s) {c : Addr} (hc : c ∈ W) (sb : Heap.SameBut c s.heap s'.heap) (hm : Mv s s') (hx : ∃ o, s'.heap.get? c = some o)
    {Γ' : Gm} (ns : ∃ m, s'.heap.Ns env.locals m) (cx : ∀ n c, env.cells.lookup n = some c → ∃ v, s'.heap.IsCell c v) (ty : Typed s'.heap W β.V (look env s'.heap) Γ') : St w β env W Γ' s' := by
  refine ⟨S.G, S.kf, S.glob, S.blt, Keeps.of ((Keeps.mv S.kp).trans hm) fun b o e => ?_, S.mv.trans hm, fun b o hb e => ?_, S.w0, S.w1, fun u m => ?_, S.dj, fun u m => ?_, S.lu, S.cu, S.apart, ns, cx, ty⟩
  · refine (sb.2 b fun q => ?_).trans (Keeps.le S.kp b o e)
    have := S.w0 c hc; rw [← q, e] at this; cases this
  · refine (sb.2 b fun q => ?_).trans (S.k1 b o hb e)
    subst q
    rcases S.w1 b hc with h | h
    · exact hb h
    · rw [h] at e; cases e
  · by_cases q : u = c
    · rw [q]; exact hx
    · obtain ⟨o, e⟩ := S.dom u m; exact ⟨o, (sb.2 u q).trans e⟩
  · by_cases q : u = c
    · rw [q]; exact hx
    · obtain ⟨o, e⟩ := S.d1 u m; exact ⟨o, (sb.2 u q).trans e⟩

theorem ns_data {h : Heap} {L : Addr} {m : Str → Option Value} (n : h.Ns L m) : ∃ o es ep, h.get? L = some o ∧ o.data = .dict es ep := let ⟨o, es, ep, a, b, _⟩ := n; ⟨o, es, ep, a, b⟩
theorem own_ne_locals (S : St w β env W Γ s) {a : Addr} {vs : Array Value} (l : s.heap.PlainList a vs) : a ≠ env.locals := by
  rintro rfl
  obtain ⟨m, n⟩ := S.ns
  obtain ⟨o, es, ep, e, d⟩ := ns_data n
  obtain ⟨k, e'⟩ := l
  rw [e'] at e; cases e; cases d
theorem own_ne_cell (S : St w β env W Γ s) {a : Addr} {vs : Array Value} (l : s.heap.PlainList a vs) {n : Str} {c : Addr} (hc : env.cells.lookup n = some c) : a ≠ c := by
  rintro rfl
  obtain ⟨v, o, e, d⟩ := S.cx n a hc
  obtain ⟨k, e'⟩ := l
  rw [e'] at e; cases e; cases d
theorem local_ne_cell (S : St w β env W Γ s) {n : Str} {c : Addr} (hc : env.cells.lookup n = some c) : env.locals ≠ c := by
  rintro rfl
  obtain ⟨m, k⟩ := S.ns
  obtain ⟨o, es, ep, e, d⟩ := ns_data k
  obtain ⟨v, o', e', d'⟩ := S.cx n _ hc
  rw [e] at e'; cases e'; rw [d] at d'; cases d'

/-- a name that may be stored -/
def Stored (env : Env) (x : Str) : Prop := env.kindOf x = some .local ∨ (env.kindOf x = some .cell ∧ (env.cells.lookup x).isSome = true)

theorem look_other_local {x y : Str} {v : Value} {m : Str → Option Value} (S : St w β env W Γ s) (sb : Heap.SameBut env.locals s.heap s'.heap) (hm : s.heap.Ns env.locals m) (hn : s'.heap.Ns env.locals fun z => if z = x then some v else m z) (hxy : y ≠ x) :
    look env s'.heap y = look env s.heap y := by
  by_cases hk : env.kindOf y = some .local
  · rw [look_local hn hk, look_local hm hk, if_neg hxy]
  · unfold look
    rw [if_neg hk, if_neg hk]
    split
    · rename_i c hc
      rw [sb.2 c (Ne.symm (local_ne_cell S hc))]
    · rfl
theorem look_other_cell {x y : Str} {c : Addr} (S : St w β env W Γ s) (hcx : env.cells.lookup x = some c) (sb : Heap.SameBut c s.heap s'.heap) (hxy : y ≠ x) : look env s'.heap y = look env s.heap y := by
  unfold look
  split
  · rw [sb.2 _ (local_ne_cell S hcx)]
  · split
    · rename_i d hd
      rw [sb.2 d fun q => hxy (S.apart _ _ _ hd (q ▸ hcx))]
    · rfl

theorem get_cons_ne {Γ : Gm} {x y : Str} {b : B} (h : y ≠ x) : Gm.get ((x, b) :: Γ) y = Γ.get y := by
  unfold Gm.get; rw [List.lookup_cons]
  have : (y == x) = false := by simpa using h
  rw [this]
theorem get_cons_eq {Γ : Gm} {x : Str} {b : B} : Gm.get ((x, b) :: Γ) x = some b := by
  unfold Gm.get; rw [List.lookup_cons]; simp

/-- a store of v under x, whatever v is, once it is known how v lies to the other lists -/
theorem St.storeB (S : St w β env W Γ s) {x : Str} {b : B} {v : Value} (hk : Stored env x) (r : RepB s.heap W β.V b v)
    (hsep : ∀ ds a, b = .own ds → v = .ref a → ∀ y es, y ≠ x → Γ.get y = some (.own es) → look env s.heap y ≠ some (.ref a))
    {Q : Unit → Shared → Prop} {E : Value → Shared → Prop} (q : ∀ s', St w β env W ((x, b) :: Γ) s' → Q () s') : wpAny (M w) A (storeName env x v) Q E s := by
  have fin : ∀ (s' : Shared) (c : Addr), c ∈ W → Heap.SameBut c s.heap s'.heap → (∀ y, y ≠ x → look env s'.heap y = look env s.heap y) → look env s'.heap x = some v →
      (∀ ds a, b = .own ds → v = .ref a → a ≠ c) → (∀ y ds a, Γ.get y = some (.own ds) → look env s.heap y = some (.ref a) → a ≠ c) → Typed s'.heap W β.V (look env s'.heap) ((x, b) :: Γ) := by
    intro s' c hc sb ho hx hv hy
    refine ⟨fun y d e => ?_, fun y z ds es a hne e1 e2 l1 l2 => ?_⟩
    · by_cases hxy : y = x
      · subst hxy; rw [get_cons_eq] at e; cases e; exact ⟨v, hx, r.chg sb hc hv⟩
      · rw [get_cons_ne hxy] at e
        obtain ⟨u, l, r'⟩ := S.ty.val y d e
        exact ⟨u, (ho y hxy).trans l, r'.chg sb hc fun ds a q1 q2 => hy y ds a (q1 ▸ e) (q2 ▸ l)⟩
    · by_cases hyx : y = x
      · subst hyx
        rw [get_cons_eq] at e1; cases e1
        rw [get_cons_ne (Ne.symm hne)] at e2
        rw [hx] at l1; cases l1
        rw [ho z (Ne.symm hne)] at l2
        exact hsep ds a rfl rfl z es (Ne.symm hne) e2 l2
      · rw [get_cons_ne hyx] at e1
        rw [ho y hyx] at l1
        by_cases hzx : z = x
        · subst hzx
          rw [get_cons_eq] at e2; cases e2
          rw [hx] at l2; cases l2
          exact hsep es a rfl rfl y ds hne e1 l1
        · rw [get_cons_ne hzx] at e2
          rw [ho z hzx] at l2
          exact S.ty.sep y z ds es a hne e1 e2 l1 l2
  have ownv : ∀ ds a, b = .own ds → v = .ref a → ∃ vs, s.heap.PlainList a vs := by
    rintro ds a rfl rfl
    obtain ⟨a', vs, e, _, l, _⟩ := r
    cases e; exact ⟨_, l⟩
  have owny : ∀ y ds a, Γ.get y = some (.own ds) → look env s.heap y = some (.ref a) → ∃ vs, s.heap.PlainList a vs := by
    intro y ds a e l
    obtain ⟨u, l', r'⟩ := S.ty.val y _ e
    rw [l] at l'; cases l'
    obtain ⟨a', vs, e, _, l, _⟩ := r'
    cases e; exact ⟨_, l⟩
  rcases hk with hl | ⟨hl, hs⟩
  · obtain ⟨m, hn⟩ := S.ns
    refine wpAny_storeName_local hl hn (fun h' hn' sb => q _ ?_) (by rw [S.kf]; rfl)
    refine S.chg (s' := { s with heap := h', toks := s.toks + 1 }) S.lu sb ⟨_, _, rfl⟩ (let ⟨o, es, ep, e, _⟩ := hn'; ⟨o, e⟩) ⟨_, hn'⟩ (fun n c e => ?_) (fin _ _ S.lu sb (fun y hy => look_other_local S sb hn hn' hy) ?_ ?_ ?_)
    · obtain ⟨u, o, e', d⟩ := S.cx n c e
      exact ⟨u, o, (sb.2 c (Ne.symm (local_ne_cell S e))).trans e', d⟩
    · rw [look_local hn' hl]; exact if_pos rfl
    · exact fun ds a q1 q2 => let ⟨vs, l⟩ := ownv ds a q1 q2; own_ne_locals S l
    · exact fun y ds a q1 q2 => let ⟨vs, l⟩ := owny y ds a q1 q2; own_ne_locals S l
  · obtain ⟨c, hcx⟩ := Option.isSome_iff_exists.mp hs
    obtain ⟨u, hc⟩ := S.cx x c hcx
    have hne : env.kindOf x ≠ some .local := by rw [hl]; decide
    have hcW := S.cu x c hcx
    refine wpAny_storeName_cell S.kf hl hcx hc fun h' hc' sb => q _ ?_
    refine S.chg (s' := { s with heap := h' }) hcW sb ⟨_, _, rfl⟩ (let ⟨o, e, _⟩ := hc'; ⟨o, e⟩) ?_ (fun n d e => ?_) (fin _ _ hcW sb (fun y hy => look_other_cell S hcx sb hy) ?_ ?_ ?_)
    · obtain ⟨m, hn⟩ := S.ns
      exact ⟨m, hn.sameBut sb (local_ne_cell S hcx)⟩
    · by_cases hd : d = c
      · subst hd; exact ⟨_, hc'⟩
      · obtain ⟨u', o, e', d'⟩ := S.cx n d e
        exact ⟨u', o, (sb.2 d hd).trans e', d'⟩
    · exact look_cell hc' hne hcx
    · exact fun ds a q1 q2 => let ⟨vs, l⟩ := ownv ds a q1 q2; own_ne_cell S l hcx
    · exact fun y ds a q1 q2 => let ⟨vs, l⟩ := owny y ds a q1 q2; own_ne_cell S l hcx

theorem St.store (S : St w β env W Γ s) {x : Str} {d : D} {v : Value} (hk : Stored env x) (r : Rep s.heap (W ++ β.V) d v)
    {Q : Unit → Shared → Prop} {E : Value → Shared → Prop} (q : ∀ s', St w β env W ((x, .fro d) :: Γ) s' → Q () s') : wpAny (M w) A (storeName env x v) Q E s :=
  S.storeB hk (Rep.b r) (fun ds a e => by cases e) q

/-- a list that has come into being is the frame's own from here on -/
theorem St.adopt (S : St w β env W Γ s) (k : Keeps s s') {a : Addr} (ha : s.heap.get? a = none) (ho : ∃ o, s'.heap.get? a = some o) : St w β env (a :: W) Γ s' := by
  have S' := S.le k
  refine ⟨S.G, S.kf, S.glob, S.blt, S'.kp, S'.mv, S'.k1, fun u m => ?_, fun u m => ?_, fun u m => ?_, fun u m => ?_, S'.d1, List.mem_cons_of_mem _ S.lu, fun n c e => List.mem_cons_of_mem _ (S.cu n c e), S.apart, S'.ns, S'.cx, fun y b e => ?_, S'.ty.sep⟩
  · rcases List.mem_cons.mp m with rfl | m
    · exact none_back S.kp ha
    · exact S.w0 u m
  · rcases List.mem_cons.mp m with rfl | m
    · by_cases hu : u ∈ β.W₁
      · exact .inl hu
      · refine .inr ?_
        cases e : β.s₁.heap.get? u with
        | none => rfl
        | some o => have := S.k1 u o hu e; rw [ha] at this; cases this
    · exact S.w1 u m
  · rcases List.mem_cons.mp m with rfl | m
    · exact ho
    · exact S'.dom u m
  · rcases List.mem_cons.mp m with rfl | m
    · exact fun h => none_of_dom S.dom ha (List.mem_append_right _ h)
    · exact S.dj u m
  · obtain ⟨v, l, r⟩ := S.ty.val y b e
    refine ⟨v, look_le (Keeps.le k) l, ?_⟩
    have kk : ∀ u ∈ a :: (W ++ β.V), u ∈ W ++ β.V ∨ s.heap.get? u = none := fun u m => by
      rcases List.mem_cons.mp m with rfl | m
      · exact .inr ha
      · exact .inl m
    cases b with
    | fro d => exact (Rep.fresh kk r).mono (Keeps.le k).o
    | own ds =>
      obtain ⟨a', vs, rfl, ha', ⟨n, l⟩, q⟩ := r
      exact ⟨a', vs, rfl, List.mem_cons_of_mem _ ha', ⟨n, Keeps.le k _ _ l⟩, (q.fresh kk).mono (Keeps.le k).o⟩

theorem St.storeN (S : St w β env W Γ s) (k : Keeps s s') {a : Addr} (ha : s.heap.get? a = none) {vs : List Value} {ds : List D} (hl : s'.heap.PlainList a vs.toArray) (r : RepL s'.heap (a :: (W ++ β.V)) ds vs) {x : Str} (hk : Stored env x)
    {Q : Unit → Shared → Prop} {E : Value → Shared → Prop} (q : ∀ s'', St w β env (a :: W) ((x, .own ds) :: Γ) s'' → Q () s'') : wpAny (M w) A (storeName env x (.ref a)) Q E s' := by
  have S1 := S.adopt k ha (let ⟨n, e⟩ := hl; ⟨_, e⟩)
  refine S1.storeB (b := .own ds) hk (show RepB s'.heap (a :: W) β.V (.own ds) (.ref a) from ⟨a, vs, rfl, .head _, hl, r⟩) (fun ds' a' e1 e2 y es hy e l => ?_) q
  cases e2
  obtain ⟨u, l', r'⟩ := S.ty.val y _ e
  have := look_le (Keeps.le k) l'
  rw [l] at this; cases this
  obtain ⟨a'', us, e3, ha'', _⟩ := r'
  cases e3
  exact none_of_dom S.dom ha (List.mem_append_left _ ha'')

/-- the frame's own list turned -/
theorem St.mutate (S : St w β env W Γ s) {x : Str} {ds ds' : List D} {a : Addr} {vs' : List Value} (hx : Γ.get x = some (.own ds)) (hl : look env s.heap x = some (.ref a)) (hm : Mv s s') (sb : Heap.SameBut a s.heap s'.heap)
    (hp : s'.heap.PlainList a vs'.toArray) (r : RepL s.heap (W ++ β.V) ds' vs') : St w β env W ((x, .own ds') :: Γ) s' := by
  obtain ⟨v, l, a', vs, rfl, ha, hp0, _⟩ := S.ty.val x _ hx
  rw [hl] at l; cases l
  have ll : ∀ y v, look env s.heap y = some v → look env s'.heap y = some v := by
    intro y v e
    unfold look at e ⊢
    rw [sb.2 _ (Ne.symm (own_ne_locals S hp0))]
    split at e
    · rename_i hk; rw [if_pos hk]; exact e
    · rename_i hk
      rw [if_neg hk]
      split at e
      · rename_i c hc
        rw [sb.2 c (Ne.symm (own_ne_cell S hp0 hc))]; exact e
      · cases e
  have k : LeO (W ++ β.V) s.heap s'.heap := fun b o hb e => (sb.2 b (fun e => hb (e ▸ List.mem_append_left _ ha))).trans e
  refine S.chg ha sb hm (let ⟨n, e⟩ := hp; ⟨_, e⟩) (let ⟨m, n⟩ := S.ns; ⟨m, n.sameBut sb (Ne.symm (own_ne_locals S hp0))⟩) (fun n c e => let ⟨u, o, e', d⟩ := S.cx n c e; ⟨u, o, (sb.2 c (Ne.symm (own_ne_cell S hp0 e))).trans e', d⟩) ⟨fun y b e => ?_, fun y z es fs c hne e1 e2 l1 l2 => ?_⟩
  · by_cases hyx : y = x
    · subst hyx; rw [get_cons_eq] at e; cases e
      exact ⟨_, ll _ _ hl, a, vs', rfl, ha, hp, r.mono k⟩
    · rw [get_cons_ne hyx] at e
      obtain ⟨u, l, r'⟩ := S.ty.val y b e
      refine ⟨u, ll _ _ l, r'.chg sb ha ?_⟩
      rintro es c rfl rfl rfl
      exact S.ty.sep y x es ds c hyx e hx l hl
  · have old : ∀ y es, Gm.get ((x, .own ds') :: Γ) y = some (.own es) → ∃ es', Γ.get y = some (.own es') := fun y es e => by
      by_cases hyx : y = x
      · subst hyx; exact ⟨_, hx⟩
      · rw [get_cons_ne hyx] at e; exact ⟨_, e⟩
    obtain ⟨es', e1⟩ := old y es e1
    obtain ⟨fs', e2⟩ := old z fs e2
    obtain ⟨u, f1, _⟩ := S.ty.val y _ e1
    obtain ⟨t, f2, _⟩ := S.ty.val z _ e2
    rw [ll _ _ f1] at l1; cases l1
    rw [ll _ _ f2] at l2; cases l2
    exact S.ty.sep y z es' fs' c hne e1 e2 f1 f2
end
end Mine

/-! ## part M4 -/
namespace Mine
open PySem PySem.W PyProof.Rows PySem.Calls

section
variable {w : World} {A : Around} {env : Env} {Γ : Gm} {β : Bs} {W : List Addr} {s s' : Shared} {Q : Flow → Shared → Prop} {E : Value → Shared → Prop} {rest : List Stmt}

/-- behind a statement that goes on -/
theorem x_next {st : Stmt} (h : wpAny (M w) A (exec st env) (fun f s' => f = .next ∧ wpAny (M w) A (execs rest env) Q E s') E s) : wpAny (M w) A (execs (st :: rest) env) Q E s :=
  wpAny_execs_cons (post h fun f s' z => by obtain ⟨rfl, z⟩ := z; exact z)
theorem x_nil (h : Q .next s) : wpAny (M w) A (execs [] env) Q E s := wpAny_execs_nil h

theorem x_assign {x : Str} {px pos : Pos} {e : Expr} {d : D} (S : St w β env W Γ s) (he : Ev w A env Γ e (.fro d)) (hk : Stored env x) (k : ∀ s', St w β env W ((x, .fro d) :: Γ) s' → wpAny (M w) A (execs rest env) Q E s')
    (hs : swapsWith e (some (.Name x px)) pos.line env = pure false := by rfl) : wpAny (M w) A (execs (.Assign [.Name x px] e pos :: rest) env) Q E s :=
  x_next (wpAny_Assign_Name (he β W s _ E S fun v s' kp r => (S.le kp).store hk r.frz fun s'' S'' => ⟨rfl, k s'' S''⟩) hs)
theorem x_assignN {x : Str} {px pos : Pos} {e : Expr} {ds : List D} (S : St w β env W Γ s) (he : EvN w A env Γ e ds) (hk : Stored env x) (k : ∀ a s', St w β env (a :: W) ((x, .own ds) :: Γ) s' → wpAny (M w) A (execs rest env) Q E s')
    (hs : swapsWith e (some (.Name x px)) pos.line env = pure false := by rfl) : wpAny (M w) A (execs (.Assign [.Name x px] e pos :: rest) env) Q E s :=
  x_next (wpAny_Assign_Name (he β W s _ E S fun a vs s' kp ha hl r => S.storeN kp ha hl r hk fun s'' S'' => ⟨rfl, k a s'' S''⟩) hs)

theorem x_if {test : Expr} {body orelse : List Stmt} {pos : Pos} {b : Bool} (S : St w β env W Γ s) (ht : EvT w A env Γ test b)
    (h : ∀ s', St w β env W Γ s' → wpAny (M w) A (execs (if b then body else orelse) env) (fun f s'' => match f with | .next => wpAny (M w) A (execs rest env) Q E s'' | f => Q f s'') E s') :
    wpAny (M w) A (execs (.If test body orelse pos :: rest) env) Q E s :=
  wpAny_execs_cons (wpAny_If (ht β W s _ E S fun s' kp => by
    have := h s' (S.le kp)
    cases b
    · rw [if_neg (by decide)] at this ⊢; exact this
    · rw [if_pos rfl] at this ⊢; exact this))

theorem x_ret {e : Expr} {pos : Pos} {b : B} (S : St w β env W Γ s) (he : Ev w A env Γ e b) (k : ∀ v s', St w β env W Γ s' → RepB s'.heap W β.V b v → Q (.ret v) s') : wpAny (M w) A (execs (.Return (some e) pos :: rest) env) Q E s :=
  wpAny_execs_cons (wpAny_Return_some (he β W s _ E S fun v s' kp r => k v s' (S.le kp) r))

theorem x_append {x : Str} {px ap cp pos : Pos} {e : Expr} {ds : List D} {d : D} (S : St w β env W Γ s) (hx : Γ.get x = some (.own ds)) (hkx : Kind env x) (hdx : (x == ("__debug__" : Str)) = false) (he : Ev w A env Γ e (.fro d)) (hz : ds.length ≤ 1000)
    (k : ∀ s', St w β env W ((x, .own (ds ++ [d])) :: Γ) s' → wpAny (M w) A (execs rest env) Q E s')
    (hst : starEach [e] env = [(false, eval e env)] := by rfl)
    {pl : Sem Bool} (hcall : eval (.Call (.Attribute (.Name x px) "append" ap) [e] [] cp) env = (do
      let ov ← eval (.Name x px) env
      standAt ap.atName
      let (f, first) ← holding [ov] (getMethod ov "append" pl)
      callWith cp f first (backTo cp (starEach [e] env)) []) := by rfl)
    (hi : interactive env = false := by rfl) (hs : swapsWith (.Call (.Attribute (.Name x px) "append" ap) [e] [] cp) none pos.line env = pure false := by rfl) :
    wpAny (M w) A (execs (.Expr (.Call (.Attribute (.Name x px) "append" ap) [e] [] cp) pos :: rest) env) Q E s := by
  refine x_next ?_
  refine wpAny_Expr ?_ hi hs
  refine MethodCall_ (pl := pl) ?_ hcall
  refine wpAny_Name ?_ hdx
  refine S.name hx hkx fun v l r => ?_
  obtain ⟨a, vs, rfl, ha, ⟨n, hp⟩, rr⟩ := r
  refine Calls.getMethod_list_append hp rfl rfl ?_
  refine callWith_method1 ?_ hst
  refine args_cons (rest := []) ?_ hst
  refine he β W s _ E S fun u s₁ k₁ r₁ => ?_
  refine args_nil ?_
  show wpAny (M w) A (call (.builtin "list.append") [.ref a, u]) _ _ _
  have e : vs.length = ds.length := rr.length
  refine wpAny_list_append_plain (items := vs.toArray) ⟨n, Keeps.le k₁ _ _ hp⟩ (fun h' hp' sb => ⟨rfl, k _ ?_⟩) (by rw [List.size_toArray, e, sizeLine_eq]; omega)
  have e2 : vs.toArray.push u = (vs ++ [u]).toArray := by simp
  rw [e2] at hp'
  exact (S.le k₁).mutate hx (look_le (Keeps.le k₁) l) ⟨_, _, rfl⟩ sb hp' ((rr.mono (Keeps.le k₁).o).append (.cons r₁.frz .nil))

theorem x_setitem {x : Str} {px xp pos : Pos} {i e : Expr} {ds : List D} {d : D} {k : Int} (S : St w β env W Γ s) (he : Ev w A env Γ e (.fro d)) (hx : Γ.get x = some (.own ds)) (hkx : Kind env x) (hdx : (x == ("__debug__" : Str)) = false)
    (hi : Ev w A env Γ i (.fro (.int k))) (h0 : 0 ≤ k) (h1 : k < ds.length) (hz : ds.length ≤ 1000)
    (q : ∀ s', St w β env W ((x, .own (ds.set k.toNat d)) :: Γ) s' → wpAny (M w) A (execs rest env) Q E s')
    (hs : swapsWith e (some (.Subscript (.Name x px) i xp)) pos.line env = pure false := by rfl) : wpAny (M w) A (execs (.Assign [.Subscript (.Name x px) i xp] e pos :: rest) env) Q E s := by
  refine x_next (wpAny_Assign_Subscript ?_ hs)
  refine he β W s _ E S fun u s₁ k₁ r₁ => ?_
  have S1 := S.le k₁
  refine wpAny_Name ?_ hdx
  refine S1.name hx hkx fun v l r => ?_
  refine hi β W s₁ _ E S1 fun j s₂ k₂ r₂ => ?_
  have S2 := S1.le k₂
  obtain ⟨a, vs, rfl, ha, ⟨n, hp⟩, rr⟩ := r
  obtain ⟨t, rfl⟩ := r₂.int
  have e : vs.length = ds.length := rr.length
  have hp2 := Keeps.le k₂ _ _ hp
  refine ki_setAt (items := vs.toArray) (n := n) hp2 h0 (by omega) (by rw [List.size_toArray]; omega) ⟨rfl, q _ ?_⟩
  have e2 : vs.toArray.setIfInBounds k.toNat u = (vs.set k.toNat u).toArray := by simp
  have up : (s₂.heap.update a (Obj.mapSeq fun x => x.setIfInBounds k.toNat u)).PlainList a (vs.set k.toNat u).toArray := by
    refine ⟨n, ?_⟩
    rw [Heap.get?_update_self _ hp2 rfl]
    simp [Obj.mapSeq]
  exact S2.mutate (s' := { s₂ with heap := s₂.heap.update a (Obj.mapSeq fun x => x.setIfInBounds k.toNat u) }) hx (look_le (Keeps.le k₂) l) ⟨_, s₂.toks, rfl⟩ (Heap.SameBut.update ..) up
    ((rr.mono (Keeps.le k₂).o).set _ (r₁.frz.mono ((Keeps.le k₂).o)))

/-- a list that is turned no more -/
theorem St.freeze (S : St w β env W Γ s) {x : Str} {ds : List D} (hx : Γ.get x = some (.own ds)) {Γ' : Gm} (hΓ : ∀ y b, Γ'.get y = some b → y ≠ x ∧ Γ.get y = some b) :
    ∃ W', (∀ u ∈ W', u ∈ W) ∧ St w β env W' ((x, .fro (.lst ds)) :: Γ') s := by
  obtain ⟨v, l, a, vs, rfl, ha, hp, rr⟩ := S.ty.val x _ hx
  have sub : ∀ u ∈ W.filter (fun u => u != a), u ∈ W := fun u m => (List.mem_filter.mp m).1
  have kk : ∀ u ∈ W.filter (fun u => u != a) ++ β.V, u ∈ W ++ β.V := fun u m => by
    rcases List.mem_append.mp m with m | m
    · exact List.mem_append_left _ (sub u m)
    · exact List.mem_append_right _ m
  have stay : ∀ {u}, u ∈ W → u ≠ a → u ∈ W.filter (fun u => u != a) := fun m h => List.mem_filter.mpr ⟨m, by simpa using h⟩
  refine ⟨W.filter (fun u => u != a), sub, ⟨S.G, S.kf, S.glob, S.blt, S.kp, S.mv, S.k1, fun u m => S.w0 u (sub u m), fun u m => S.w1 u (sub u m), fun u m => S.dom u (kk u m), fun u m => S.dj u (sub u m), S.d1,
    stay S.lu (Ne.symm (own_ne_locals S hp)), fun n c e => stay (S.cu n c e) (Ne.symm (own_ne_cell S hp e)), S.apart, S.ns, S.cx, ⟨fun y b e => ?_, fun y z es fs c hne e1 e2 => ?_⟩⟩⟩
  · by_cases hyx : y = x
    · subst hyx; rw [get_cons_eq] at e; cases e
      refine ⟨_, l, Rep.b (Rep.mkLst (fun m => ?_) hp.isList (rr.weaken kk))⟩
      rcases List.mem_append.mp m with m | m
      · have := (List.mem_filter.mp m).2; simp at this
      · exact S.dj a ha m
    · rw [get_cons_ne hyx] at e
      obtain ⟨_, e⟩ := hΓ y b e
      obtain ⟨u, l', r'⟩ := S.ty.val y b e
      refine ⟨u, l', ?_⟩
      cases b with
      | fro d => exact Rep.weaken kk r'
      | own es =>
        obtain ⟨c, us, rfl, hc, hpc, rc⟩ := r'
        refine ⟨c, us, rfl, stay hc ?_, hpc, rc.weaken kk⟩
        rintro rfl
        exact S.ty.sep y x es ds c hyx e hx l' l
  · have old : ∀ y es, Gm.get ((x, .fro (.lst ds)) :: Γ') y = some (.own es) → Γ.get y = some (.own es) := fun y es e => by
      by_cases hyx : y = x
      · subst hyx; rw [get_cons_eq] at e; cases e
      · rw [get_cons_ne hyx] at e; exact (hΓ y _ e).2
    exact S.ty.sep y z es fs c hne (old _ _ e1) (old _ _ e2)

/-! ### loops -/
/-- a value laid under a loop's target -/
def AssignT (w : World) (A : Around) (env : Env) (target : Expr) (d : D) (tgt : Gm) : Prop :=
  ∀ (β : Bs) (W : List Addr) (Γ : Gm) (s : Shared) (v : Value) (Q : Unit → Shared → Prop) (E : Value → Shared → Prop), St w β env W Γ s → Rep s.heap (W ++ β.V) d v →
    (∀ s', St w β env W (tgt ++ Γ) s' → Q () s') → wpAny (M w) A (assign target env v) Q E s
theorem assign_name {x : Str} {px : Pos} {d : D} (hk : Stored env x) : AssignT w A env (.Name x px) d [(x, .fro d)] := fun β W Γ s v Q E S r q =>
  wpAny_assign_Name (S.store hk r q)

theorem assign_two {x y : Str} {px py tp : Pos} {kk : Nat} {d e : D} (hh : A.handled = none) (hx : Stored env x) (hy : Stored env y) : AssignT w A env (.Tuple [.Name x px, .Name y py] kk tp) (.tup [d, e]) [(y, .fro e), (x, .fro d)] := by
  intro β W Γ s v Q E S r q
  obtain ⟨a, vs, rfl, ha, ht, rr⟩ := r.tup
  obtain ⟨u, r1, rfl, ru, r2⟩ := rr.cons_inv
  obtain ⟨t, r3, rfl, rt, r4⟩ := r2.cons_inv
  rw [r4.nil_inv] at ht
  refine wpAny_assign_Tuple hh ht rfl rfl fun h₁ he₁ => ?_
  have k1 : Keeps s { s with heap := h₁ } := ⟨h₁, s.toks, rfl, fun c o e => he₁ c o (Nat.ne_of_lt (Heap.lt_size e)) e⟩
  show wpAny _ _ (assignInOrder [assign (.Name x px) env, assign (.Name y py) env] [u, t]) _ _ _
  refine assignInOrder_cons ?_
  refine wpAny_assign_Name ?_
  have S1 := S.le k1
  refine S1.here.storeB (b := .fro d) hx (Rep.b (ru.mono (Keeps.le k1).o)) (fun ds a e => by cases e) fun s₂ S₂ => ?_
  refine assignInOrder_cons ?_
  refine wpAny_assign_Name ?_
  have kk : LeO (W ++ β.V) s.heap s₂.heap := fun b o hb e => S₂.k1 b o (fun m => hb (List.mem_append_left _ m)) (Keeps.le k1 _ _ e)
  refine (S1.back S₂).storeB (b := .fro e) hy (Rep.b (rt.mono kk)) (fun ds a e => by cases e) fun s₃ S₃ => ?_
  exact assignInOrder_nil (q s₃ S₃)

/-- an iterator over data, as it stands behind «iter(..)» -/
def Iter (w : World) (A : Around) (h0 : Heap) (U : List Addr) (it : Addr) (h : Heap) (ds : List D) : Prop :=
  ∃ fp P St, Walks PySem.Challenge.pw_bb0058_01 w A it fp [it] ds.length P St ∧ St 0 h ∧ (∀ b ∈ fp, b ≠ it → b ∉ U ∧ ∃ o, h0.get? b = some o) ∧ (∀ i v, P i v → i < ds.length → ∃ d, ds[i]? = some d ∧ Rep h0 U d v) ∧
    ∀ i h, St i h → ∃ o, h.get? it = some o ∧ (o.cls = .type "list_iterator" ∨ o.cls = .type "range_iterator")
def Src (w : World) (A : Around) (env : Env) (Γ : Gm) (iter : Expr) (ds : List D) : Prop :=
  ∀ (β : Bs) (W : List Addr) (s : Shared) (Q : Value → Shared → Prop) (E : Value → Shared → Prop), St w β env W Γ s →
    (∀ it s₁ s', Keeps s s₁ → Keeps s₁ s' → s₁.heap.get? it = none → (∃ o, s'.heap.get? it = some o) → Iter w A s₁.heap (W ++ β.V) it s'.heap ds → Q (.ref it) s') → wpAny (M w) A (eval iter env) (fun xv s₁ => wpAny (M w) A (pyIter xv) Q E s₁) E s

theorem src_list {iter : Expr} {ds : List D} (hh : A.handled = none) (he : Ev w A env Γ iter (.fro (.lst ds))) : Src w A env Γ iter ds := by
  intro β W s Q E S q
  refine he β W s _ E S fun v s₁ k₁ r => ?_
  obtain ⟨a, vs, rfl, ha, hl, rr⟩ := Rep.lst (h := s₁.heap) (U := W ++ β.V) r
  refine wpAny_pyIter_list hl ?_
  have hne : a ≠ s₁.heap.objs.size := by obtain ⟨o, ho, _⟩ := hl; exact Nat.ne_of_lt (Heap.lt_size ho)
  refine q s₁.heap.objs.size s₁ _ k₁ (Keeps.push s₁ _) (size_none _) ⟨_, Heap.get?_push_size _ rfl⟩ ?_
  have Wk := Walks.list (prog := PySem.Challenge.pw_bb0058_01) (w := w) hh s₁.heap.objs.size a hne vs.toArray
  rw [show vs.toArray.size = ds.length from rr.length] at Wk
  refine ⟨_, _, _, Wk, ⟨⟨_, Heap.get?_push_size _ rfl, rfl, rfl⟩, hl.push _⟩, fun b hb hne' => ?_, fun i v hv hi => ?_, ?_⟩
  · rcases List.mem_cons.mp hb with e | hb
    · exact absurd e hne'
    · rw [List.mem_singleton.mp hb]; exact ⟨ha, let ⟨o, ho, _⟩ := hl; ⟨o, ho⟩⟩
  · obtain ⟨u, hu, hr⟩ := rr.get (i := i) (d := ds[i]) (by simp [hi])
    have hv' : vs[i]? = some v := by simpa using hv
    rw [hv'] at hu; cases hu
    exact ⟨ds[i], by simp [hi], hr⟩
  · rintro i h ⟨⟨o, ho, hc, _⟩, _⟩
    exact ⟨o, ho, .inl hc⟩

/-- the ints from a, n of them -/
def intsFrom (a : Int) (n : Nat) : List D := (List.range n).map fun i => D.int (a + (i : Nat))
theorem range_iter {h0 : Shared} {U : List Addr} {a b : Int} {t u v : Tok} {r : Addr} {s : Shared} {n : Nat} (hh : A.handled = none) (h1 : a ≤ b) (h2 : -1000 ≤ a) (h3 : b ≤ 1000) (k : Keeps h0 s) (hr : IsRange s.heap r a b 1 t u v) (hn : n = (b - a).toNat)
    {Q : Value → Shared → Prop} {E : Value → Shared → Prop}
    (q : ∀ it s₁ s', Keeps h0 s₁ → Keeps s₁ s' → s₁.heap.get? it = none → (∃ o, s'.heap.get? it = some o) → Iter w A s₁.heap U it s'.heap (intsFrom a n) → Q (.ref it) s') : wpAny (M w) A (pyIter (.ref r)) Q E s := by
  refine wpAny_pyIter_range hr (small_one (by omega) (by omega) (by omega) (by omega)) ?_
  refine q s.heap.objs.size s _ k (Keeps.push s _) (size_none _) ⟨_, Heap.get?_push_size _ rfl⟩ ?_
  have hsz : Builtin.Range.rangeSize a b 1 = (n : Int) := by rw [rangeSize_one]; split <;> omega
  have e : (intsFrom a n).length = n := by simp [intsFrom]
  have Wk := Walks.range (prog := PySem.Challenge.pw_bb0058_01) (w := w) hh s.heap.objs.size a 1 n
  refine ⟨[s.heap.objs.size], _, _, by rw [e]; exact Wk, ?_, fun b hb hne => absurd (List.mem_singleton.mp hb) hne, fun i v hv hi => ?_, fun i h st => ⟨_, st, .inr rfl⟩⟩
  · have : (s.heap.push { cls := .type "range_iterator", data := .fields #[rawInt a, rawInt (Builtin.Range.rangeSize a b 1), rawInt 1] }).get? s.heap.objs.size = _ := Heap.get?_push_size _ rfl
    rw [hsz] at this
    show IsRangeIter _ _ (a + ((0 : Nat) : Int) * 1) ((n : Int) - ((0 : Nat) : Int)) 1
    rw [show a + ((0 : Nat) : Int) * 1 = a by omega, show (n : Int) - ((0 : Nat) : Int) = n by omega]
    show (s.heap.push _).get? s.heap.objs.size = _
    rw [hsz]
    exact this
  · obtain ⟨t, rfl⟩ := hv
    rw [e] at hi
    refine ⟨.int (a + (i : Nat)), by simp [intsFrom, hi], ?_⟩
    rw [show a + (i : Int) * 1 = a + (i : Nat) by omega]
    exact Rep.mkInt _ _
theorem src_range1 {x : Str} {px pos : Pos} {e : Expr} {n : Int} (hh : A.handled = none) (hg : GlobV w x (.type "range")) (hx : env.kindOf x = some .globalImplicit) (hd : (x == ("__debug__" : Str)) = false)
    (he : Ev w A env Γ e (.fro (.int n))) (h0 : 0 ≤ n) (h1 : n ≤ 1000) (hs : starEach [e] env = [(false, eval e env)] := by rfl)
    (hc : eval (.Call (.Name x px) [e] [] pos) env = (do let f ← eval (.Name x px) env; callWith pos f [] (backTo pos (starEach [e] env)) (backToKw pos (keywordEach [] env))) := by rfl) :
    Src w A env Γ (.Call (.Name x px) [e] [] pos) (intsFrom 0 n.toNat) := by
  intro β W s Q E S q
  refine Call_ ?_ hc
  refine ev_glob hg hx hd S ?_
  refine PySem.Pv.callWith_type1 (rest := []) ?_ hs rfl
  refine args_cons (rest := []) ?_ hs
  refine he β W s _ E S fun v s₁ k₁ r => ?_
  obtain ⟨t, rfl⟩ := r.int
  refine args_nil ?_
  refine call_range_1 ?_
  exact range_iter hh h0 (by omega) (by omega) (Keeps.trans' k₁ (Keeps.heap _ fun _ _ e => Heap.get?_push_of_some _ e)) (Heap.get?_push_size _ rfl) (by omega) q
theorem src_range2 {x : Str} {px pos : Pos} {e₁ e₂ : Expr} {a b : Int} (hh : A.handled = none) (hg : GlobV w x (.type "range")) (hx : env.kindOf x = some .globalImplicit) (hd : (x == ("__debug__" : Str)) = false)
    (he : Ev w A env Γ e₁ (.fro (.int a))) (he' : Ev w A env Γ e₂ (.fro (.int b))) (h0 : 0 ≤ a) (h1 : a ≤ b) (h2 : b ≤ 1000)
    (hs : starEach [e₁, e₂] env = (false, eval e₁ env) :: starEach [e₂] env := by rfl) (hs' : starEach [e₂] env = [(false, eval e₂ env)] := by rfl) (hp : (backTo pos (starEach [e₂] env)).any (·.1) = false := by rfl)
    (hc : eval (.Call (.Name x px) [e₁, e₂] [] pos) env = (do let f ← eval (.Name x px) env; callWith pos f [] (backTo pos (starEach [e₁, e₂] env)) (backToKw pos (keywordEach [] env))) := by rfl) :
    Src w A env Γ (.Call (.Name x px) [e₁, e₂] [] pos) (intsFrom a (b - a).toNat) := by
  intro β W s Q E S q
  refine Call_ ?_ hc
  refine ev_glob hg hx hd S ?_
  refine PySem.Pv.callWith_type1 (rest := [e₂]) ?_ hs hp
  refine args_cons (rest := [e₂]) ?_ hs
  refine he β W s _ E S fun v s₁ k₁ r => ?_
  obtain ⟨t, rfl⟩ := r.int
  refine args_cons (rest := []) ?_ hs'
  refine he' β W s₁ _ E (S.le k₁) fun v s₂ k₂ r => ?_
  obtain ⟨t', rfl⟩ := r.int
  refine args_nil ?_
  refine call_range_2 ?_
  exact range_iter hh h1 (by omega) h2 (Keeps.trans' (Keeps.trans' k₁ k₂) (Keeps.heap _ fun _ _ e => Heap.get?_push_of_some _ e)) (Heap.get?_push_size _ rfl) (by omega) q

theorem St.moreV (S : St w β env W Γ s) (k : Keeps s s') {I : Addr} (hI : s.heap.get? I = none) (hI' : ∃ o, s'.heap.get? I = some o) : St w { β with V := I :: β.V } env W Γ s' := by
  have S' := S.le k
  have kk : ∀ u ∈ W ++ I :: β.V, u ∈ W ++ β.V ∨ s.heap.get? u = none := fun u m => by
    rcases List.mem_append.mp m with m | m
    · exact .inl (List.mem_append_left _ m)
    · rcases List.mem_cons.mp m with rfl | m
      · exact .inr hI
      · exact .inl (List.mem_append_right _ m)
  refine ⟨S'.G, S'.kf, S'.glob, S'.blt, S'.kp, S'.mv, S'.k1, S'.w0, S'.w1, fun u m => ?_, fun u m h => ?_, S'.d1, S'.lu, S'.cu, S'.apart, S'.ns, S'.cx, ⟨fun y b e => ?_, S'.ty.sep⟩⟩
  · rcases kk u m with h | h
    · exact S'.dom u h
    · rcases List.mem_append.mp m with m | m
      · exact S'.dom u (List.mem_append_left _ m)
      · rcases List.mem_cons.mp m with rfl | m
        · exact hI'
        · exact S'.dom u (List.mem_append_right _ m)
  · rcases List.mem_cons.mp h with rfl | h
    · exact none_of_dom S.dom hI (List.mem_append_left _ m)
    · exact S.dj u m h
  · obtain ⟨v, l, r⟩ := S.ty.val y b e
    refine ⟨v, look_le (Keeps.le k) l, ?_⟩
    cases b with
    | fro d => exact (Rep.fresh kk r).mono (Keeps.le k).o
    | own ds =>
      obtain ⟨a', vs, rfl, ha', ⟨n, l⟩, q⟩ := r
      exact ⟨a', vs, rfl, ha', ⟨n, Keeps.le k _ _ l⟩, (q.fresh kk).mono (Keeps.le k).o⟩
theorem St.lessV {I : Addr} (S : St w { β with V := I :: β.V } env W Γ s) : St w β env W Γ s := by
  have kk : ∀ u ∈ W ++ β.V, u ∈ W ++ (I :: β.V) := fun u m => by
    rcases List.mem_append.mp m with m | m
    · exact List.mem_append_left _ m
    · exact List.mem_append_right _ (List.mem_cons_of_mem _ m)
  refine ⟨S.G, S.kf, S.glob, S.blt, S.kp, S.mv, S.k1, S.w0, S.w1, fun u m => S.dom u (kk u m), fun u m h => S.dj u m (List.mem_cons_of_mem _ h), S.d1, S.lu, S.cu, S.apart, S.ns, S.cx, ⟨fun y b e => ?_, S.ty.sep⟩⟩
  obtain ⟨v, l, r⟩ := S.ty.val y b e
  refine ⟨v, l, ?_⟩
  cases b with
  | fro d => exact Rep.weaken kk r
  | own ds =>
    obtain ⟨a', vs, rfl, ha', hp, q⟩ := r
    exact ⟨a', vs, rfl, ha', hp, q.weaken kk⟩
/-- an object of the avoided ones is turned by the loop itself -/
theorem St.off {I : Addr} (S : St w β env W Γ s) (hI : I ∈ β.V) (h0 : β.s₀.heap.get? I = none) (h1 : β.s₁.heap.get? I = none) (hm : Mv s s') (k : ∀ b o, b ≠ I → s.heap.get? b = some o → s'.heap.get? b = some o) (hx : ∃ o, s'.heap.get? I = some o) :
    St w β env W Γ s' := by
  have nw : ∀ u ∈ W, u ≠ I := fun u m e => S.dj u m (e ▸ hI)
  have kk : LeO (W ++ β.V) s.heap s'.heap := fun b o hb e => k b o (fun q => hb (q ▸ List.mem_append_right _ hI)) e
  have kl : ∀ y v, look env s.heap y = some v → look env s'.heap y = some v := by
    intro y v e
    unfold look at e ⊢
    split at e
    · rename_i hk
      rw [if_pos hk]
      split at e
      · rename_i ho; rw [k _ _ (nw _ S.lu) ho]; exact e
      · cases e
    · rename_i hk
      rw [if_neg hk]
      split at e
      · rename_i c hc
        split at e
        · rename_i ho; rw [k _ _ (nw _ (S.cu _ _ hc)) ho]; exact e
        · cases e
      · cases e
  refine ⟨S.G, S.kf, S.glob, S.blt, Keeps.of ((Keeps.mv S.kp).trans hm) fun b o e => k b o (fun q => by rw [q, h0] at e; cases e) (Keeps.le S.kp b o e), S.mv.trans hm, fun b o hb e => k b o (fun q => by rw [q, h1] at e; cases e) (S.k1 b o hb e),
    S.w0, S.w1, fun u m => ?_, S.dj, fun u m => ?_, S.lu, S.cu, S.apart, ?_, fun n c e => ?_, ⟨fun y b e => ?_, fun y z ds es a hne h1 h2 e1 e2 => ?_⟩⟩
  · by_cases q : u = I
    · rw [q]; exact hx
    · obtain ⟨o, e⟩ := S.dom u m; exact ⟨o, k u o q e⟩
  · by_cases q : u = I
    · rw [q]; exact hx
    · obtain ⟨o, e⟩ := S.d1 u m; exact ⟨o, k u o q e⟩
  · obtain ⟨m, o, es, ep, e, r⟩ := S.ns
    exact ⟨m, o, es, ep, k _ _ (nw _ S.lu) e, r⟩
  · obtain ⟨v, o, e', d⟩ := S.cx n c e
    exact ⟨v, o, k _ _ (nw _ (S.cu _ _ e)) e', d⟩
  · obtain ⟨v, l, r⟩ := S.ty.val y b e
    refine ⟨v, kl _ _ l, ?_⟩
    cases b with
    | fro d => exact Rep.mono kk r
    | own ds =>
      obtain ⟨a', vs, rfl, ha', ⟨n, l⟩, q⟩ := r
      exact ⟨a', vs, rfl, ha', ⟨n, k _ _ (nw _ ha') l⟩, q.mono kk⟩
  · obtain ⟨v, f1, _⟩ := S.ty.val y _ h1
    obtain ⟨u, f2, _⟩ := S.ty.val z _ h2
    have g1 := kl _ _ f1
    have g2 := kl _ _ f2
    rw [e1] at g1; rw [e2] at g2
    cases g1; cases g2
    exact S.ty.sep y z ds es a hne h1 h2 f1 f2

theorem St.offless {I : Addr} (S : St w { β with V := I :: β.V } env W Γ s) (hV : I ∉ β.V) (hW1 : I ∉ β.W₁) (h0 : β.s₀.heap.get? I = none) (h1 : β.s₁.heap.get? I = none) (hm : Mv s s') (k : ∀ b o, b ≠ I → s.heap.get? b = some o → s'.heap.get? b = some o) :
    St w β env W Γ s' := by
  obtain ⟨o, e⟩ := S.dom I (List.mem_append_right _ (.head _))
  have T : St w { β with V := I :: β.V } env W Γ s' → St w β env W Γ s' := St.lessV
  have nw : ∀ u ∈ W, u ≠ I := fun u m e => S.dj u m (e ▸ .head _)
  have L := S.lessV
  have kk : LeO (W ++ I :: β.V) s.heap s'.heap := fun b o hb e => k b o (fun q => hb (q ▸ List.mem_append_right _ (.head _))) e
  have kw : ∀ u ∈ W ++ β.V, u ∈ W ++ I :: β.V := fun u m => by
    rcases List.mem_append.mp m with m | m
    · exact List.mem_append_left _ m
    · exact List.mem_append_right _ (List.mem_cons_of_mem _ m)
  have kl : ∀ y v, look env s.heap y = some v → look env s'.heap y = some v := by
    intro y v e
    unfold look at e ⊢
    split at e
    · rename_i hk
      rw [if_pos hk]
      split at e
      · rename_i ho; rw [k _ _ (nw _ S.lu) ho]; exact e
      · cases e
    · rename_i hk
      rw [if_neg hk]
      split at e
      · rename_i c hc
        split at e
        · rename_i ho; rw [k _ _ (nw _ (S.cu _ _ hc)) ho]; exact e
        · cases e
      · cases e
  refine ⟨L.G, L.kf, L.glob, L.blt, Keeps.of ((Keeps.mv L.kp).trans hm) fun b o e => k b o (fun q => by rw [q, h0] at e; cases e) (Keeps.le L.kp b o e), L.mv.trans hm, fun b o hb e => k b o (fun q => by rw [q, h1] at e; cases e) (L.k1 b o hb e),
    L.w0, L.w1, fun u m => ?_, L.dj, fun u m => ?_, L.lu, L.cu, L.apart, ?_, fun n c e => ?_, ⟨fun y b e => ?_, fun y z ds es a hne h1 h2 e1 e2 => ?_⟩⟩
  · have hu : u ≠ I := by
      rcases List.mem_append.mp m with m | m
      · exact nw u m
      · exact fun q => hV (q ▸ m)
    obtain ⟨o, e⟩ := L.dom u m; exact ⟨o, k u o hu e⟩
  · obtain ⟨o, e⟩ := L.d1 u m; exact ⟨o, k u o (fun q => hW1 (q ▸ m)) e⟩
  · obtain ⟨m, o, es, ep, e, r⟩ := S.ns
    exact ⟨m, o, es, ep, k _ _ (nw _ S.lu) e, r⟩
  · obtain ⟨v, o, e', d⟩ := S.cx n c e
    exact ⟨v, o, k _ _ (nw _ (S.cu _ _ e)) e', d⟩
  · obtain ⟨v, l, r⟩ := S.ty.val y b e
    refine ⟨v, kl _ _ l, ?_⟩
    cases b with
    | fro d => exact (Rep.mono kk r).weaken kw
    | own ds =>
      obtain ⟨a', vs, rfl, ha', ⟨n, l⟩, q⟩ := r
      exact ⟨a', vs, rfl, ha', ⟨n, k _ _ (nw _ ha') l⟩, (q.mono kk).weaken kw⟩
  · obtain ⟨v, f1, _⟩ := S.ty.val y _ h1
    obtain ⟨u, f2, _⟩ := S.ty.val z _ h2
    have g1 := kl _ _ f1
    have g2 := kl _ _ f2
    rw [e1] at g1; rw [e2] at g2
    cases g1; cases g2
    exact S.ty.sep y z ds es a hne h1 h2 f1 f2

theorem go_any {target : Expr} {it : Addr} {v : Value} {Q : Unit → Shared → Prop} {E : Value → Shared → Prop} (ho : ∃ o, s.heap.get? it = some o ∧ (o.cls = .type "list_iterator" ∨ o.cls = .type "range_iterator")) (q : Q () s) :
    wpAny (M w) A (letOwnedTupleGo target (.ref it) v) Q E s := by
  obtain ⟨o, ho, hc⟩ := ho
  have body : wpAny (M w) A (match (Value.ref it, v) with
      | (.ref r, .ref a) => do
        let o ← load r
        match o.cls, o.data with
        | .type n, .fields vs =>
          if ["enumerate", "zip", "dict_itemiterator", "dict_reverseitemiterator", "odict_iterator", "itertools.zip_longest", "itertools.pairwise"].contains n && vs[0]? == some (rawInt a) then
            rule "for.unpacks-the-owned-tuple"
            updateField r 0 .none
        | _, _ => pure ()
      | _ => pure ()) Q E s := by
    cases v with
    | ref a =>
      refine wpAny_bind (wpAny_load ho ?_)
      have hk : ∀ n, o.cls = .type n → (["enumerate", "zip", "dict_itemiterator", "dict_reverseitemiterator", "odict_iterator", "itertools.zip_longest", "itertools.pairwise"] : List String).contains n = false := by
        intro n e
        rcases hc with h | h <;> (rw [h] at e; cases e; decide)
      split
      · rename_i n vs e1 e2
        rw [hk n e1, Bool.false_and, if_neg (by decide)]
        exact wpAny_pure q
      · exact wpAny_pure q
    | _ => exact wpAny_pure q
  unfold letOwnedTupleGo
  split
  · exact body
  · exact body
  · exact wpAny_pure q

theorem x_for {target iter : Expr} {body : List Stmt} {pos : Pos} {ds : List D} (hh : A.handled = none) (S : St w β env W Γ s) (hs : Src w A env Γ iter ds) (tgt : D → Gm) (Inv : Nat → Gm → Prop) (h0 : Inv 0 Γ)
    (ht : ∀ d ∈ ds, AssignT w A env target d (tgt d))
    (turn : ∀ (β' : Bs) i d W' Γ' s' (Q' : Flow → Shared → Prop) (E' : Value → Shared → Prop), ds[i]? = some d → Inv i Γ' → St w β' env W' (tgt d ++ Γ') s' →
      (∀ W'' Γ'' s'', Inv (i + 1) Γ'' → St w β' env W'' Γ'' s'' → Q' .next s'') → wpAny (M w) A (execs body env) Q' E' s')
    (done : ∀ W' Γ' s', Inv ds.length Γ' → St w β env W' Γ' s' → wpAny (M w) A (execs rest env) Q E s')
    (hfold : ∀ x, foldedSetIterable iter env x = pure x := by intro _; rfl) :
    wpAny (M w) A (execs (.For target iter body [] pos :: rest) env) Q E s := by
  refine wpAny_execs_cons (wpAny_For (hs β W s _ E S fun it s₁ s₂ k₁ k₂ hn hx hI => ?_) hfold)
  obtain ⟨fp, P, Sx, Wk, hst, hfp, hP, hcl⟩ := hI
  have S1 := S.le k₁
  have S2 := S1.moreV k₂ hn hx
  have hnW : it ∉ W ++ β.V := none_of_dom S1.dom hn
  have hn0 : β.s₀.heap.get? it = none := none_back S1.kp hn
  have hn1 : β.s₁.heap.get? it = none := by
    cases e : β.s₁.heap.get? it with
    | none => rfl
    | some o =>
      by_cases hm : it ∈ β.W₁
      · obtain ⟨o', e'⟩ := S1.d1 it hm; rw [hn] at e'; cases e'
      · have := S1.k1 it o hm e; rw [hn] at this; cases this
  refine codeAny_forLoop_any
    (fun k s' => ∃ i W' Γ', k = ds.length + 1 - i ∧ i ≤ ds.length ∧ Inv i Γ' ∧ St w { β with V := it :: β.V } env W' Γ' s' ∧ Sx i s'.heap ∧ (∀ u ∈ W', u ∈ W ∨ s₁.heap.get? u = none) ∧ Mv s₂ s' ∧ ∀ b o, b ∉ W → s₁.heap.get? b = some o → s'.heap.get? b = some o) ?_ (ds.length + 1)
    ⟨0, W, Γ, by omega, Nat.zero_le _, h0, S2, hst, fun u m => .inl m, Mv.refl _, fun b o _ e => Keeps.le k₂ _ _ e⟩
  rintro k s' ⟨i, W', Γ', rfl, hi, hInv, S', hsti, hW', hmv, hk⟩
  by_cases hlt : i < ds.length
  · refine Wk.item i _ _ _ hlt hsti fun v h' tk hPv hst' hk' => ?_
    obtain ⟨d, hd, hr⟩ := hP i v hPv hlt
    have hIV : it ∈ ({ β with V := it :: β.V } : Bs).V := .head _
    have S'' := S'.off (s' := { s' with heap := h', toks := tk }) hIV hn0 hn1 ⟨_, _, rfl⟩ (fun b o hb e => hk' b o (by simpa using hb) e) (let ⟨o, e, _⟩ := hcl _ _ hst'; ⟨o, e⟩)
    refine go_any (hcl _ _ hst') ?_
    have hkv : ∀ b o, b ∉ W → s₁.heap.get? b = some o → h'.get? b = some o := fun b o hb e => hk' b o (by simpa using (fun (q : b = it) => by rw [q, hn] at e; cases e)) (hk b o hb e)
    have hrep : Rep h' (W' ++ it :: β.V) d v := by
      have r1 : Rep s₁.heap (W ++ (W' ++ it :: β.V)) d v := Rep.fresh (fun u m => by
        rcases List.mem_append.mp m with m | m
        · exact .inl (List.mem_append_left _ m)
        · rcases List.mem_append.mp m with m | m
          · rcases hW' u m with h | h
            · exact .inl (List.mem_append_left _ h)
            · exact .inr h
          · rcases List.mem_cons.mp m with rfl | m
            · exact .inr hn
            · exact .inl (List.mem_append_right _ m)) hr
      exact (r1.mono fun b o hb e => hkv b o (fun m => hb (List.mem_append_left _ m)) e).weaken fun u m => List.mem_append_right _ m
    refine ht d (List.mem_of_getElem? hd) _ W' Γ' _ v _ _ S''.here hrep fun s₃ S₃ => ?_
    refine turn _ i d W' Γ' s₃ _ _ hd hInv S₃ fun W'' Γ'' s₄ hI4 S₄ => ?_
    have nW : ∀ b o, b ∉ W → s₁.heap.get? b = some o → b ∉ W' := fun b o hb e m => by
      rcases hW' b m with h | h
      · exact hb h
      · rw [h] at e; cases e
    refine ⟨ds.length + 1 - (i + 1), by omega, i + 1, W'', Γ'', rfl, hlt, hI4, S''.back S₄, Wk.frame _ _ _ hst' (fun b hb o e => S₄.k1 b o (fun m => ?_) e), fun u m => ?_, (hmv.trans ⟨h', tk, rfl⟩).trans S₄.mv, fun b o hb e => S₄.k1 b o (nW b o hb e) (hkv b o hb e)⟩
    · by_cases hbi : b = it
      · exact S''.dj b m (hbi ▸ hIV)
      · obtain ⟨hbW, o', e'⟩ := hfp b hb hbi
        exact nW b o' (fun m => hbW (List.mem_append_left _ m)) e' m
    · rcases S₄.w1 u m with h | h
      · exact hW' u h
      · by_cases hu : u ∈ W
        · exact .inl hu
        · refine .inr ?_
          cases e : s₁.heap.get? u with
          | none => rfl
          | some o =>
            have := hkv u o hu e
            have h : h'.get? u = none := h
            rw [h] at this; cases this
  · have hin : i = ds.length := by omega
    subst hin
    refine Wk.done _ _ _ hsti fun h' tk hk' => wpAny_execs_nil ?_
    have hW1 : it ∉ β.W₁ := fun m => by obtain ⟨o', e'⟩ := S1.d1 it m; rw [hn] at e'; cases e'
    exact done W' Γ' _ hInv (S'.offless (s' := { s' with heap := h', toks := tk }) (fun m => hnW (List.mem_append_right _ m)) hW1 hn0 hn1 ⟨_, _, rfl⟩ (fun b o hb e => hk' b o (by simpa using hb) e))
end
end Mine

/-! ## part M5 -/
namespace Mine
open PySem PySem.W PyProof.Rows PySem.Calls

section
variable {w : World} {A : Around} {env : Env} {Γ : Gm} {β : Bs} {W : List Addr} {s s' : Shared} {Q : Flow → Shared → Prop} {E : Value → Shared → Prop} {rest : List Stmt}

/-! ### items and slices -/
abbrev SubOk (slice : Expr) : Prop := ∀ (v : Value) (k : Int) (u : Tok), subscripted slice false v (.int k u) = operate [v, .int k u] (getItem v (.int k u))
theorem ev_item {value slice : Expr} {pos : Pos} {b : B} {ds : List D} {k : Int} {d : D} (hv : Ev w A env Γ value b) (hb : b.isL ds) (hs : Ev w A env Γ slice (.fro (.int k))) (h0 : 0 ≤ k) (hk : k < 1000) (hd : ds[k.toNat]? = some d)
    (hsub : SubOk slice := by intro _ _ _; with_unfolding_all rfl) : Ev w A env Γ (.Subscript value slice pos) (.fro d) := by
  intro β W s Q E S q
  refine Subscript_ ?_
  refine hv β W s _ E S fun v s₁ k₁ r₁ => ?_
  refine hs β W s₁ _ E (S.le k₁) fun u s₂ k₂ r₂ => ?_
  obtain ⟨t, rfl⟩ := r₂.int
  obtain ⟨a, vs, rfl, l, rr⟩ := (r₁.le (Keeps.le k₂)).list hb
  obtain ⟨x, hx, hr⟩ := rr.get hd
  refine tail_any l.typeIs slot_list_getitem.lookup (wpAny_getItem_list l h0 (by omega) (by simpa using hx) (q x s₂ (Keeps.trans' k₁ k₂) (Rep.b hr))) (hsub _ _ _)
theorem ev_item_neg {value slice : Expr} {pos : Pos} {b : B} {ds : List D} {d : D} (hv : Ev w A env Γ value b) (hb : b.isL ds) (hs : Ev w A env Γ slice (.fro (.int (-1)))) (hd : ds[ds.length - 1]? = some d)
    (hsub : SubOk slice := by intro _ _ _; with_unfolding_all rfl) : Ev w A env Γ (.Subscript value slice pos) (.fro d) := by
  intro β W s Q E S q
  refine Subscript_ ?_
  refine hv β W s _ E S fun v s₁ k₁ r₁ => ?_
  refine hs β W s₁ _ E (S.le k₁) fun u s₂ k₂ r₂ => ?_
  obtain ⟨t, rfl⟩ := r₂.int
  obtain ⟨a, vs, rfl, l, rr⟩ := (r₁.le (Keeps.le k₂)).list hb
  obtain ⟨x, hx, hr⟩ := rr.get hd
  have hlen : vs.length = ds.length := rr.length
  have hpos : 0 < ds.length := by
    cases ds with
    | nil => simp at hd
    | cons _ _ => simp
  refine tail_any l.typeIs slot_list_getitem.lookup (wpAny_getItem_list_neg l (by omega) (by rw [List.size_toArray]; omega) (by decide) ?_ (q x s₂ (Keeps.trans' k₁ k₂) (Rep.b hr))) (hsub _ _ _)
  rw [List.size_toArray, hlen, show ((-1 : Int) + (ds.length : Nat)).toNat = ds.length - 1 by omega]
  simpa using hx
theorem ev_itemT {value slice : Expr} {pos : Pos} {ds : List D} {k : Int} {j : Nat} {d : D} (hv : Ev w A env Γ value (.fro (.tup ds))) (hs : Ev w A env Γ slice (.fro (.int k))) (h0 : -1000 ≤ k) (hk : k < 1000) (hj : seqIndex? k ds.length = some j) (hd : ds[j]? = some d)
    (hsub : SubOk slice := by intro _ _ _; with_unfolding_all rfl) : Ev w A env Γ (.Subscript value slice pos) (.fro d) := by
  intro β W s Q E S q
  refine Subscript_ ?_
  refine hv β W s _ E S fun v s₁ k₁ r₁ => ?_
  refine hs β W s₁ _ E (S.le k₁) fun u s₂ k₂ r₂ => ?_
  obtain ⟨t, rfl⟩ := r₂.int
  obtain ⟨a, vs, rfl, _, l, rr⟩ := (r₁.le (Keeps.le k₂)).tup
  obtain ⟨x, hx, hr⟩ := rr.get hd
  exact item_tupleT l (by omega) (by omega) (by rw [rr.length]; exact hj) hx (q x s₂ (Keeps.trans' k₁ k₂) (Rep.b hr)) (hsub _ _ _)

/-- a part of a slice -/
def Part (w : World) (A : Around) (env : Env) (Γ : Gm) (e : Option Expr) (p : Option Int) : Prop :=
  ∀ (β : Bs) (W : List Addr) (s : Shared) (Q : Value → Shared → Prop) (E : Value → Shared → Prop), St w β env W Γ s → (∀ v s', Keeps s s' → IsPart v p → Q v s') → wpAny (M w) A (evalPart e env) Q E s
theorem part_none : Part w A env Γ none none := fun β W s Q E S q => wpAny_evalPart_none (q _ s (Keeps.rfl' s) .none)
theorem part_some {e : Expr} {i : Int} (h : Ev w A env Γ e (.fro (.int i))) : Part w A env Γ (some e) (some i) := fun β W s Q E S q =>
  wpAny_evalPart_some (h β W s _ E S fun v s' k r => by obtain ⟨t, rfl⟩ := r.int; exact q _ s' k (.int i t))
theorem evn_slice {value : Expr} {lo hi : Option Expr} {sp pos : Pos} {b : B} {ds es : List D} {x y : Option Int} (hv : Ev w A env Γ value b) (hb : b.isL ds) (h1 : Part w A env Γ lo x) (h2 : Part w A env Γ hi y)
    (hz : ds.length ≤ 1000) (hp : ∀ (h : Heap) (U : List Addr) (vs : List Value), RepL h U ds vs → RepL h U es (slicePick vs.toArray x y none).toList)
    (hsub : ∀ l sl, subscripted (.Slice lo hi none sp) false (.ref l) (.ref sl) = operate [.ref sl, .ref l] (getItem (.ref l) (.ref sl)) := by intro _ _; with_unfolding_all rfl) : EvN w A env Γ (.Subscript value (.Slice lo hi none sp) pos) es := by
  intro β W s Q E S q
  refine Subscript_ ?_
  refine hv β W s _ E S fun v s₁ k₁ r₁ => ?_
  refine wpAny_Slice ?_
  refine h1 β W s₁ _ E (S.le k₁) fun vl s₂ k₂ p₁ => ?_
  refine h2 β W s₂ _ E ((S.le k₁).le k₂) fun vu s₃ k₃ p₂ => ?_
  refine wpAny_evalPart_none ?_
  have kk : Keeps s₁ s₃ := Keeps.trans' k₂ k₃
  obtain ⟨a, vs, rfl, l, rr⟩ := (r₁.le (Keeps.le kk)).list hb
  have kp := Keeps.push s₃ { cls := .type "slice", data := .fields #[vl, vu, .none] }
  have l' : ({ s₃ with heap := s₃.heap.push { cls := .type "slice", data := .fields #[vl, vu, .none] } } : Shared).heap.IsList a vs.toArray := l.push _
  refine tail_any l'.typeIs list_getitem_lookup (wpAny_getItem_list_slice l' (Heap.IsSliceOf.new ..) p₁ p₂ .none (by simp) ?_ (by rw [List.size_toArray, rr.length, sizeLine_eq]; omega)) (hsub _ _)
  have hn := size_none (s₃.heap.push { cls := .type "slice", data := .fields #[vl, vu, .none] })
  have kq := Keeps.push { s₃ with heap := s₃.heap.push { cls := .type "slice", data := .fields #[vl, vu, .none] } } { cls := .type "list", data := .seq (slicePick vs.toArray x y none) }
  have kall := Keeps.trans' k₁ (Keeps.trans' kk kp)
  refine q _ (slicePick vs.toArray x y none).toList _ (Keeps.trans' kall kq) (none_back kall hn) ⟨0, ?_⟩ ?_
  · rw [Array.toArray_toList]; exact Heap.get?_push_size _ rfl
  · exact (hp _ _ _ (rr.mono (Keeps.le kp).o)).new hn (Keeps.le kq)
theorem pick_from {ds : List D} {n : Int} (h0 : 0 ≤ n) : ∀ (h : Heap) (U : List Addr) (vs : List Value), RepL h U ds vs → RepL h U (ds.drop n.toNat) (slicePick vs.toArray (some n) none none).toList := by
  intro h U vs r
  have e : sliceBounds (some n) none none vs.toArray.size = (((min n.toNat vs.toArray.size : Nat) : Int), ((vs.toArray.size : Nat) : Int), 1) := by
    simp only [sliceBounds, Option.getD_none, show (1 : Int) > 0 by decide, if_true, if_neg (show ¬ (n < 0) by omega)]
    congr 1
    omega
  rw [kmk_pick_nat _ e]
  show RepL h U _ ((vs.drop (min n.toNat vs.toArray.size)).take (vs.toArray.size - min n.toNat vs.toArray.size))
  rw [List.size_toArray, kmk_drop_min, List.take_of_length_le (by rw [List.length_drop]; omega)]
  exact r.drop _
theorem pick_upto {ds : List D} {n : Int} (h0 : 0 ≤ n) : ∀ (h : Heap) (U : List Addr) (vs : List Value), RepL h U ds vs → RepL h U (ds.take n.toNat) (slicePick vs.toArray none (some n) none).toList := by
  intro h U vs r
  have e : sliceBounds none (some n) none vs.toArray.size = (((0 : Nat) : Int), ((min n.toNat vs.toArray.size : Nat) : Int), 1) := by
    simp only [sliceBounds, Option.getD_none, show (1 : Int) > 0 by decide, if_true, if_neg (show ¬ (n < 0) by omega)]
    congr 1
    congr 1
    omega
  rw [kmk_pick_nat _ e]
  show RepL h U _ ((vs.drop 0).take (min n.toNat vs.toArray.size - 0))
  rw [List.drop_zero, Nat.sub_zero, List.size_toArray, kmk_take_min]
  exact r.take _
theorem pick_run {ds : List D} {n m : Int} (h0 : 0 ≤ n) (h1 : 0 ≤ m) : ∀ (h : Heap) (U : List Addr) (vs : List Value), RepL h U ds vs → RepL h U ((ds.drop n.toNat).take (min m.toNat ds.length - n.toNat)) (slicePick vs.toArray (some n) (some m) none).toList := by
  intro h U vs r
  have e : sliceBounds (some n) (some m) none vs.toArray.size = (((min n.toNat vs.toArray.size : Nat) : Int), ((min m.toNat vs.toArray.size : Nat) : Int), 1) := by
    simp only [sliceBounds, Option.getD_none, show (1 : Int) > 0 by decide, if_true, if_neg (show ¬ (n < 0) by omega), if_neg (show ¬ (m < 0) by omega)]
    congr 1
    · omega
    · congr 1
      omega
  rw [kmk_pick_nat _ e]
  show RepL h U _ ((vs.drop (min n.toNat vs.toArray.size)).take (min m.toNat vs.toArray.size - min n.toNat vs.toArray.size))
  rw [List.size_toArray, kmk_drop_min, r.length, show min m.toNat ds.length - min n.toNat ds.length = min m.toNat ds.length - n.toNat by omega]
  exact (r.drop _).take _

theorem evn_add {l r : Expr} {pos : Pos} {b c : B} {ds es : List D} (hl : Ev w A env Γ l b) (hb : b.isL ds) (hr : Ev w A env Γ r c) (hc : c.isL es) (hz : ds.length + es.length ≤ 1000) : EvN w A env Γ (.BinOp l .Add r pos) (ds ++ es) := by
  intro β W s Q E S q
  refine wpAny_BinOp ?_
  refine hl β W s _ E S fun v s₁ k₁ r₁ => ?_
  refine hr β W s₁ _ E (S.le k₁) fun u s₂ k₂ r₂ => ?_
  obtain ⟨a, vs, rfl, l1, rr1⟩ := (r₁.le (Keeps.le k₂)).list hb
  obtain ⟨a', us, rfl, l2, rr2⟩ := r₂.list hc
  obtain ⟨⟨cls, dd, data, sl⟩, ho, hcl, n, hd⟩ := id l1
  obtain ⟨⟨cls2, dd2, data2, sl2⟩, ho2, hc2, n2, hd2⟩ := id l2
  simp only at hcl hd hc2 hd2
  subst hcl hd hc2 hd2
  refine concat_meets ⟨_, ho, rfl⟩ ⟨_, ho2, rfl⟩ noFill_list_add seq_list_add PySem.F.slot_list_add PySem.F.entry_list_add (PySem.F.args_list_add_2 _ _) (list_addW a a' vs.toArray us.toArray n n2 dd dd2 sl sl2 (by rw [List.size_toArray, List.size_toArray, rr1.length, rr2.length, sizeLine_eq]; omega)) ⟨ho, ho2, ?_⟩
  have e : vs.toArray ++ us.toArray = (vs ++ us).toArray := by simp
  rw [e]
  have kp := Keeps.push s₂ { cls := .type "list", data := .seq (vs ++ us).toArray }
  have kall := Keeps.trans' k₁ k₂
  exact q _ (vs ++ us) _ (Keeps.trans' kall kp) (none_back kall (size_none _)) ⟨0, Heap.get?_push_size _ rfl⟩ ((rr1.append rr2).new (size_none _) (Keeps.le kp))

theorem evn_mul {l r : Expr} {pos : Pos} {ds : List D} {d : D} {n : Int} (hl : EvN w A env Γ l [d]) (hr : Ev w A env Γ r (.fro (.int n))) (h0 : 0 ≤ n) (h1 : n ≤ 1000) : EvN w A env Γ (.BinOp l .Mult r pos) (List.replicate n.toNat d) := by
  intro β W s Q E S q
  refine wpAny_BinOp ?_
  refine hl β W s _ E S fun a vs s₁ k₁ hn hp rr => ?_
  refine hr β W s₁ _ E (S.le k₁) fun u s₂ k₂ r₂ => ?_
  obtain ⟨t, rfl⟩ := r₂.int
  obtain ⟨v, r0, rfl, rv, rn⟩ := rr.cons_inv
  rw [rn.nil_inv] at hp
  obtain ⟨c, hp⟩ := hp
  have hp2 := Keeps.le k₂ _ _ hp
  have kall := Keeps.trans' k₁ k₂
  have hsz : ([v].toArray : Array Value).size * n.toNat ≤ 2 ^ 24 := by
    show 1 * n.toNat ≤ _
    omega
  refine wpAny_binaryOp_repeat_ref (T := "list") (U := "int") (by decide) ⟨_, hp2, rfl⟩ (fun s' => typeIs_int s' n t) noFill_list_mul PySem.F.fills_int_mul PySem.F.slot_int_rmul repeat_list PySem.F.slot_int_index.lookup
    (call_meets PySem.F.slot_int_rmul (typeIs_int s₂ n t) PySem.F.entry_int_rmul (PySem.F.args_int_rmul_2 _ _) (int___rmul___int_list n t a [v].toArray c)
      ⟨hp2, rfl, ⟨_, hp2, rfl⟩, call_meets PySem.F.slot_list_mul ⟨_, hp2, rfl⟩ PySem.F.entry_list_mul (PySem.F.args_list_mul_2 _ _)
        (AutoListH.list___mul___list_int_3 a [v].toArray c n t (by simp [Builtin.List.listFitsIndex]; omega) (by omega) (by simp [Builtin.List.listTooLong, sizeLine]; omega))
        ⟨hp2, ?_⟩⟩)
  have e : (List.foldl (fun x1 x2 => x1 ++ x2) #[] (List.replicate (if ([v].toArray : Array Value).isEmpty = true then 0 else n.toNat) [v].toArray)) = (List.replicate n.toNat v).toArray := by
    rw [if_neg (by simp)]
    have : ∀ (m : Nat) (acc : List Value), List.foldl (fun x1 x2 => x1 ++ x2) acc.toArray (List.replicate m ([v].toArray : Array Value)) = (acc ++ List.replicate m v).toArray := by
      intro m
      induction m with
      | zero => intro acc; simp
      | succ m ih =>
        intro acc
        rw [List.replicate_succ, List.foldl_cons]
        have e1 : (acc.toArray ++ ([v].toArray : Array Value)) = (acc ++ [v]).toArray := by simp
        rw [e1, ih]
        simp [List.replicate_succ]
    have := this n.toNat []
    simpa using this
  rw [e]
  have kp := Keeps.push s₂ { cls := .type "list", data := .seq (List.replicate n.toNat v).toArray }
  refine q _ (List.replicate n.toNat v) _ (Keeps.trans' kall kp) (none_back kall (size_none _)) ⟨0, Heap.get?_push_size _ rfl⟩ (((RepL.replicate rv n.toNat).mono (Keeps.le k₂).o |>.weaken fun u m => List.mem_cons_of_mem _ m).new (size_none _) (Keeps.le kp))
end
end Mine

/-! ## part M6 -/
namespace Mine
open PySem PySem.W PyProof.Rows PySem.Calls

section
variable {w : World} {A : Around} {env : Env} {Γ : Gm} {β : Bs} {W : List Addr} {s s' : Shared} {Q : Flow → Shared → Prop} {E : Value → Shared → Prop} {rest : List Stmt}

/-! ### comparisons, tests -/
def Cmp2 (w : World) (A : Around) (op : CmpOp) (a b : B) (c : Bool) : Prop :=
  ∀ (W V : List Addr) (s : Shared) (v u : Value) (Q : Value → Shared → Prop) (E : Value → Shared → Prop), GC w s.heap → (∀ x ∈ W ++ V, ∃ o, s.heap.get? x = some o) → RepB s.heap W V a v → RepB s.heap W V b u →
    (∀ s', Keeps s s' → Q (.bool c) s') → wpAny (M w) A (compareOp op v u) Q E s
theorem ev_cmp {l r : Expr} {op : CmpOp} {pos : Pos} {a b : B} {c : Bool} (hl : Ev w A env Γ l a) (hr : Ev w A env Γ r b) (ho : Cmp2 w A op a b c) (hm : behindInMarks op r = false := by with_unfolding_all rfl) : Ev w A env Γ (.Compare l [op] [r] pos) (.fro (.bool c)) := fun β W s Q E S q =>
  wpAny_Compare1 (hl β W s _ E S fun v s₁ k₁ r₁ => hr β W s₁ _ E (S.le k₁) fun u s₂ k₂ r₂ =>
    ho W β.V s₂ v u Q E ((S.le k₁).le k₂).gc ((S.le k₁).le k₂).dom (r₁.le (Keeps.le k₂)) r₂ fun s₃ k₃ => q _ s₃ (Keeps.trans' k₁ (Keeps.trans' k₂ k₃)) (RepB.mkBool _)) hm
theorem evt_cmp {l r : Expr} {op : CmpOp} {pos : Pos} {a b : B} {c : Bool} (hl : Ev w A env Γ l a) (hr : Ev w A env Γ r b) (ho : Cmp2 w A op a b c) (hm : behindInMarks op r = false := by with_unfolding_all rfl) : EvT w A env Γ (.Compare l [op] [r] pos) c := fun β W s Q E S q =>
  wpAny_isTrue_Compare1 (hl β W s _ E S fun v s₁ k₁ r₁ => hr β W s₁ _ E (S.le k₁) fun u s₂ k₂ r₂ =>
    ho W β.V s₂ v u _ E ((S.le k₁).le k₂).gc ((S.le k₁).le k₂).dom (r₁.le (Keeps.le k₂)) r₂ fun s₃ k₃ => wpAny_truthy_bool (q s₃ (Keeps.trans' k₁ (Keeps.trans' k₂ k₃)))) hm
theorem evt_or2 {x y : Expr} {pos : Pos} {a b : Bool} (hx : EvT w A env Γ x a) (hy : EvT w A env Γ y b) : EvT w A env Γ (.BoolOp .Or [x, y] pos) (a || b) := fun β W s Q E S q =>
  isTrue_or (hx β W s _ E S fun s₁ k₁ => by
    cases a
    · rw [if_neg (by decide)]
      refine isTrue_or (hy β W s₁ _ E (S.le k₁) fun s₂ k₂ => ?_)
      cases b
      · rw [if_neg (by decide)]; exact isTrue_or_nil (q s₂ (Keeps.trans' k₁ k₂))
      · rw [if_pos rfl]; exact q s₂ (Keeps.trans' k₁ k₂)
    · rw [if_pos rfl]; exact q s₁ k₁)
theorem evt_and2 {x y : Expr} {pos : Pos} {a b : Bool} (hx : EvT w A env Γ x a) (hy : EvT w A env Γ y b) : EvT w A env Γ (.BoolOp .And [x, y] pos) (a && b) := fun β W s Q E S q =>
  isTrue_and (hx β W s _ E S fun s₁ k₁ => by
    cases a
    · rw [if_neg (by decide)]; exact q s₁ k₁
    · rw [if_pos rfl]
      refine isTrue_and (hy β W s₁ _ E (S.le k₁) fun s₂ k₂ => ?_)
      cases b
      · rw [if_neg (by decide)]; exact q s₂ (Keeps.trans' k₁ k₂)
      · rw [if_pos rfl]; exact isTrue_and_nil (q s₂ (Keeps.trans' k₁ k₂)))
theorem evt_name {x : Str} {pos : Pos} {b : B} {ds : List D} (h : Γ.get x = some b) (hb : b.isL ds) (hk : Kind env x) (hd : (x == ("__debug__" : Str)) = false) (hz : ds.length ≤ 1000)
    (he : ∀ whole, isTrue (.Name x pos) env whole = (do let v ← whole; standAt (Expr.Name x pos).pos; holding [v] (truthy v)) := by intro _; rfl) : EvT w A env Γ (.Name x pos) (!ds.isEmpty) := fun β W s Q E S q => by
  refine isTrue_plain ?_ (he _)
  refine wpAny_Name ?_ hd
  refine S.name h hk fun v _ r => ?_
  obtain ⟨a, vs, rfl, l, rr⟩ := r.list hb
  refine wpAny_truthy_list l (by rw [List.size_toArray, rr.length]; omega) ?_
  have e : (!vs.toArray.isEmpty) = !ds.isEmpty := by
    have := rr.length
    cases ds <;> cases vs <;> simp_all
  rw [e]
  exact q _ (Keeps.tok s _)
theorem ev_ifexp {test body orelse : Expr} {pos : Pos} {c : Bool} {b : B} (ht : EvT w A env Γ test c) (h : Ev w A env Γ (if c then body else orelse) b) : Ev w A env Γ (.IfExp test body orelse pos) b := fun β W s Q E S q =>
  IfExp_ (ht β W s _ E S fun s₁ k₁ => by
    cases c
    · rw [if_neg (by decide)] at h ⊢; exact h β W s₁ Q E (S.le k₁) fun v s₂ k₂ r => q v s₂ (Keeps.trans' k₁ k₂) r
    · rw [if_pos rfl] at h ⊢; exact h β W s₁ Q E (S.le k₁) fun v s₂ k₂ r => q v s₂ (Keeps.trans' k₁ k₂) r)
theorem ev_neg {x : Expr} {pos : Pos} {i : Int} (h : Ev w A env Γ x (.fro (.int i))) : Ev w A env Γ (.UnaryOp .USub x pos) (.fro (.int (-i))) := fun β W s Q E S q =>
  wpAny_UnaryOp (h β W s _ E S fun v s₁ k₁ r => by obtain ⟨t, rfl⟩ := r.int; exact neg_int (q _ _ (Keeps.trans' k₁ (Keeps.tok s₁ _)) (RepB.mkInt _ _)))

theorem cmp_eq (a b : Int) : Cmp2 w A .Eq (.fro (.int a)) (.fro (.int b)) (a == b) := by
  intro W V s v u Q E _ _ hv hu q
  obtain ⟨t, rfl⟩ := hv.int; obtain ⟨t', rfl⟩ := hu.int
  exact PyProof.Rows.eq_int (q s (Keeps.rfl' s))
theorem cmp_ne (a b : Int) : Cmp2 w A .NotEq (.fro (.int a)) (.fro (.int b)) (a != b) := by
  intro W V s v u Q E _ _ hv hu q
  obtain ⟨t, rfl⟩ := hv.int; obtain ⟨t', rfl⟩ := hu.int
  exact PyProof.Rows.ne_int (q s (Keeps.rfl' s))
theorem cmp_lt (a b : Int) : Cmp2 w A .Lt (.fro (.int a)) (.fro (.int b)) (decide (a < b)) := by
  intro W V s v u Q E _ _ hv hu q
  obtain ⟨t, rfl⟩ := hv.int; obtain ⟨t', rfl⟩ := hu.int
  exact PyProof.Rows.lt_int (q s (Keeps.rfl' s))
theorem cmp_neb (a b : Bool) : Cmp2 w A .NotEq (.fro (.bool a)) (.fro (.bool b)) (a != b) := by
  intro W V s v u Q E _ _ hv hu q
  obtain rfl := hv.bool; obtain rfl := hu.bool
  exact PyProof.Rows.ne_bool (q s (Keeps.rfl' s))

theorem RepL.ints {h : Heap} {U : List Addr} : ∀ {ns : List Int} {vs : List Value}, RepL h U (ns.map .int) vs → IntsAre vs ns
  | [], _, x => by rw [x.nil_inv]; exact .nil
  | n :: ns, _, x => by
    obtain ⟨v, r, rfl, a, b⟩ := RepL.cons_inv (ds := ns.map .int) x
    obtain ⟨t, rfl⟩ := a.int
    exact .cons n t (RepL.ints b)
theorem cmp_notin_ints (a : Int) {b : B} {ns : List Int} (hb : b.isL (ns.map .int)) : Cmp2 w A .NotIn (.fro (.int a)) b (!(ns.any (· == a))) := by
  intro W V s v u Q E _ _ hv hu q
  obtain ⟨t, rfl⟩ := hv.int
  obtain ⟨l, vs, rfl, hl, rr⟩ := hu.list hb
  exact notin_list_ints hl rr.ints (q s (Keeps.rfl' s))

/-! ### pairs of ints, looked for in a list -/
abbrev dpair (p : Int × Int) : D := .tup [.int p.1, .int p.2]
abbrev ppair (p : Int × Int) : PyData := .tuple [.int p.1, .int p.2]
theorem reads_pair {h : Heap} {U : List Addr} {p : Int × Int} {v : Value} (r : Rep h U (dpair p) v) : Reads h v (ppair p) [] := by
  obtain ⟨a, vs, rfl, _, ⟨o, ho, hc, n, hd⟩, rr⟩ := r.tup
  obtain ⟨u, r1, rfl, ru, r2⟩ := rr.cons_inv
  obtain ⟨t, r3, rfl, rt, r4⟩ := r2.cons_inv
  rw [r4.nil_inv] at hd
  obtain ⟨t1, rfl⟩ := ru.int
  obtain ⟨t2, rfl⟩ := rt.int
  exact .tuple ho hc hd (ReadsAll.cons (as := []) (bs := []) (.int _ _) (ReadsAll.cons (as := []) (bs := []) (.int _ _) .nil))
theorem reads_pairs {h : Heap} {U : List Addr} : ∀ {ps : List (Int × Int)} {vs : List Value}, RepL h U (ps.map dpair) vs → ReadsAll h vs (ps.map ppair) []
  | [], _, x => by rw [x.nil_inv]; exact .nil
  | p :: ps, _, x => by
    obtain ⟨v, r, rfl, a, b⟩ := RepL.cons_inv (ds := ps.map dpair) x
    exact ReadsAll.cons (as := []) (bs := []) (reads_pair a) (reads_pairs b)
theorem canLay_pair (p : Int × Int) : (ppair p).canLay0 = true := by rfl
theorem canLay_pairs : ∀ ps : List (Int × Int), PyData.canLayAll0 (ps.map ppair) = true
  | [] => by rfl
  | p :: ps => by
    show (PyData.canLay0 (ppair p) && PyData.canLayAll0 (ps.map ppair)) = true
    rw [canLay_pair, canLay_pairs ps]; rfl
theorem depth_pair (p : Int × Int) : (ppair p).depth ≤ 5 := by
  show _ ≤ 5
  simp [PyData.depth, PyData.depthAll]
theorem eqv_pair (p q : Int × Int) : PyData.eqv (ppair p) (ppair q) = (p == q) := by
  obtain ⟨a, b⟩ := p; obtain ⟨c, d⟩ := q
  show ((a == c) && ((b == d) && true)) = ((a == c) && (b == d))
  rw [Bool.and_true]
theorem any_pairs (p : Int × Int) : ∀ ps : List (Int × Int), ((ps.map ppair).any fun y => PyData.eqv y (ppair p)) = ps.contains p
  | [] => by rfl
  | q :: ps => by
    rw [List.map_cons, List.any_cons, any_pairs p ps, eqv_pair, List.contains_cons]
    congr 1
    exact BEq.comm
theorem in_pairs {p : Int × Int} {b : B} {ps : List (Int × Int)} (hb : b.isL (ps.map dpair)) (hu : A.units < 9000) : Cmp2 w A .In (.fro (dpair p)) b (ps.contains p) := by
  intro W V s v u Q E _ _ hv hu q
  obtain ⟨l, vs, rfl, ⟨o, ho, hc, n, hd⟩, rr⟩ := hu.list hb
  have R1 : Reads s.heap (.ref l) (.list (ps.map ppair)) [l] := .list ho hc hd (reads_pairs rr)
  have R2 := reads_pair hv.frz
  have hdp := depth_pair p
  refine PySem.SeqAt.in_list_reads R1 R2 (canLay_pairs ps) (canLay_pair p) ?_ ?_
  · show A.units + 1 + _ < 9900
    have := Nat.min_le_right (PyData.depthAll (ps.map ppair)) (ppair p).depth
    omega
  · rw [any_pairs]; exact q s (Keeps.rfl' s)
theorem notin_pairs {p : Int × Int} {b : B} {ps : List (Int × Int)} (hb : b.isL (ps.map dpair)) (hu : A.units < 9000) : Cmp2 w A .NotIn (.fro (dpair p)) b (!ps.contains p) := by
  intro W V s v u Q E _ _ hv hu q
  obtain ⟨l, vs, rfl, ⟨o, ho, hc, n, hd⟩, rr⟩ := hu.list hb
  have R1 : Reads s.heap (.ref l) (.list (ps.map ppair)) [l] := .list ho hc hd (reads_pairs rr)
  have R2 := reads_pair hv.frz
  have hdp := depth_pair p
  refine PySem.SeqAt.notIn_list_reads R1 R2 (canLay_pairs ps) (canLay_pair p) ?_ ?_
  · show A.units + 1 + _ < 9900
    have := Nat.min_le_right (PyData.depthAll (ps.map ppair)) (ppair p).depth
    omega
  · rw [any_pairs]; exact q s (Keeps.rfl' s)
end
end Mine

/-! ## part M7 -/
namespace Mine
open PySem PySem.W PyProof.Rows PySem.Calls

section
variable {w : World} {A : Around} {env : Env} {Γ : Gm} {β : Bs} {W : List Addr} {s s' : Shared} {Q : Flow → Shared → Prop} {E : Value → Shared → Prop} {rest : List Stmt}

theorem none_in {h : Heap} {U : List Addr} {h1 : Heap} {W₁ : List Addr} {u : Addr} (k1 : LeO W₁ h1 h) (d1 : ∀ u ∈ W₁, ∃ o, h.get? u = some o) (hn : h.get? u = none) : h1.get? u = none ∧ u ∉ W₁ := by
  have hu : u ∉ W₁ := fun m => by obtain ⟨o, e⟩ := d1 u m; rw [hn] at e; cases e
  refine ⟨?_, hu⟩
  cases e : h1.get? u with
  | none => rfl
  | some o => have := k1 u o hu e; rw [hn] at this; cases this

/-- new objects: some the frame's own, some to be avoided -/
theorem St.grow (S : St w β env W Γ s) (k : Keeps s s') (nW nV : List Addr) (hW : ∀ u ∈ nW, s.heap.get? u = none ∧ (∃ o, s'.heap.get? u = some o) ∧ u ∉ nV) (hV : ∀ u ∈ nV, s.heap.get? u = none ∧ ∃ o, s'.heap.get? u = some o) :
    St w { β with V := nV ++ β.V } env (nW ++ W) Γ s' := by
  have S' := S.le k
  have kk : ∀ u ∈ (nW ++ W) ++ (nV ++ β.V), u ∈ W ++ β.V ∨ s.heap.get? u = none := fun u m => by
    rcases List.mem_append.mp m with m | m
    · rcases List.mem_append.mp m with m | m
      · exact .inr (hW u m).1
      · exact .inl (List.mem_append_left _ m)
    · rcases List.mem_append.mp m with m | m
      · exact .inr (hV u m).1
      · exact .inl (List.mem_append_right _ m)
  refine ⟨S'.G, S'.kf, S'.glob, S'.blt, S'.kp, S'.mv, S'.k1, fun u m => ?_, fun u m => ?_, fun u m => ?_, fun u m h => ?_, S'.d1, List.mem_append_right _ S'.lu, fun n c e => List.mem_append_right _ (S'.cu n c e), S'.apart, S'.ns, S'.cx, ⟨fun y b e => ?_, S'.ty.sep⟩⟩
  · rcases List.mem_append.mp m with m | m
    · exact none_back S.kp (hW u m).1
    · exact S.w0 u m
  · rcases List.mem_append.mp m with m | m
    · exact .inr (none_in (U := []) S.k1 S.d1 (hW u m).1).1
    · exact S.w1 u m
  · rcases List.mem_append.mp m with m | m
    · rcases List.mem_append.mp m with m | m
      · exact (hW u m).2.1
      · exact S'.dom u (List.mem_append_left _ m)
    · rcases List.mem_append.mp m with m | m
      · exact (hV u m).2
      · exact S'.dom u (List.mem_append_right _ m)
  · rcases List.mem_append.mp m with m | m
    · rcases List.mem_append.mp h with h | h
      · exact (hW u m).2.2 h
      · exact none_of_dom S.dom (hW u m).1 (List.mem_append_right _ h)
    · rcases List.mem_append.mp h with h | h
      · exact none_of_dom S.dom (hV u h).1 (List.mem_append_left _ m)
      · exact S.dj u m h
  · obtain ⟨v, l, r⟩ := S.ty.val y b e
    refine ⟨v, look_le (Keeps.le k) l, ?_⟩
    cases b with
    | fro d => exact (Rep.fresh kk r).mono (Keeps.le k).o
    | own ds =>
      obtain ⟨a', vs, rfl, ha', ⟨n, l⟩, q⟩ := r
      exact ⟨a', vs, rfl, List.mem_append_right _ ha', ⟨n, Keeps.le k _ _ l⟩, (q.fresh kk).mono (Keeps.le k).o⟩

/-- what a comprehension's frame has of the frame around -/
def ClOk (env : Env) : List (Str × Addr) → Prop
  | [] => True
  | (n, c) :: r => env.cells.lookup n = some c ∧ ClOk env r
def Capt (env cenv : Env) (Γ : Gm) : Gm → Prop
  | [] => True
  | (x, b) :: r => Γ.get x = some b ∧ cenv.kindOf x ≠ some .local ∧ env.kindOf x ≠ some .local ∧ (∃ c, cenv.cells.lookup x = some c ∧ env.cells.lookup x = some c) ∧ Capt env cenv Γ r
theorem ClOk.get {env : Env} : ∀ {cl : List (Str × Addr)}, ClOk env cl → ∀ n c, cl.lookup n = some c → env.cells.lookup n = some c
  | [], _, n, c, e => by cases e
  | (m, d) :: r, h, n, c, e => by
    rw [List.lookup_cons] at e
    cases hb : n == m with
    | true => rw [hb] at e; cases e; rw [beq_iff_eq.mp hb]; exact h.1
    | false => rw [hb] at e; exact ClOk.get h.2 n c e
theorem Capt.get {env cenv : Env} {Γ : Gm} : ∀ {Γc : Gm}, Capt env cenv Γ Γc → ∀ x b, Γc.get x = some b → Γ.get x = some b ∧ ∀ h, look cenv h x = look env h x
  | [], _, x, b, e => by cases e
  | (y, d) :: r, h, x, b, e => by
    unfold Gm.get at e
    rw [List.lookup_cons] at e
    cases hb : x == y with
    | true =>
      rw [hb] at e; cases e
      obtain ⟨h1, h2, h3, ⟨c, h4, h5⟩, _⟩ := h
      rw [beq_iff_eq.mp hb]
      refine ⟨h1, fun hp => ?_⟩
      unfold look
      rw [if_neg h2, if_neg h3, h4, h5]
    | false => rw [hb] at e; exact Capt.get h.2.2.2.2 x b e

theorem St.inner (S : St w β env W Γ s) {C : Addr} {m : Str → Option Value} (hn : s.heap.Ns C m) (hC0 : β.s₀.heap.get? C = none) (hC : C ∉ W ++ β.V) {scope : Scope} {cl : List (Str × Addr)} (hk : scope.kind = .function)
    (hcl : ClOk env cl) {Γc : Gm} (hΓ : Capt env (compEnvC scope cl C env) Γ Γc) (hfr : ∀ x b, Γc.get x = some b → ∃ v, look env s.heap x = some v ∧ RepB s.heap (C :: W) β.V b v) : St w { β with s₁ := s, W₁ := C :: W } (compEnvC scope cl C env) (C :: W) Γc s := by
  refine ⟨S.G, hk, S.glob, S.blt, S.kp, Mv.refl s, fun _ _ _ e => e, fun u m => ?_, fun u m => .inl m, fun u m => ?_, fun u m => ?_, fun u m => ?_, .head _, fun n c e => List.mem_cons_of_mem _ (S.cu n c (hcl.get n c e)), fun n n' c e e' => S.apart n n' c (hcl.get _ _ e) (hcl.get _ _ e'), ⟨m, hn⟩, fun n c e => S.cx n c (hcl.get _ _ e), ⟨fun x b e => ?_, fun x y ds es a hne e1 e2 l1 l2 => ?_⟩⟩
  · rcases List.mem_cons.mp m with rfl | m
    · exact hC0
    · exact S.w0 u m
  · rcases List.mem_cons.mp m with rfl | m
    · obtain ⟨o, _, _, e, _⟩ := hn; exact ⟨o, e⟩
    · exact S.dom u m
  · rcases List.mem_cons.mp m with rfl | m
    · exact fun h => hC (List.mem_append_right _ h)
    · exact S.dj u m
  · rcases List.mem_cons.mp m with rfl | m
    · obtain ⟨o, _, _, e, _⟩ := hn; exact ⟨o, e⟩
    · exact S.dom u (List.mem_append_left _ m)
  · obtain ⟨h1, h2⟩ := hΓ.get x b e
    obtain ⟨v, l, r⟩ := hfr x b e
    exact ⟨v, (h2 _).trans l, r⟩
  · obtain ⟨h1, h2⟩ := hΓ.get x _ e1
    obtain ⟨h3, h4⟩ := hΓ.get y _ e2
    exact S.ty.sep x y ds es a hne h1 h3 ((h2 _).symm.trans l1) ((h4 _).symm.trans l2)

/-- a value laid under local names alone -/
def AssignL (w : World) (A : Around) (env : Env) (target : Expr) (d : D) (tgt : Gm) : Prop :=
  ∀ (β : Bs) (W : List Addr) (Γ : Gm) (s : Shared) (v : Value) (Q : Unit → Shared → Prop) (E : Value → Shared → Prop), St w β env W Γ s → Rep s.heap (W ++ β.V) d v →
    (∀ s', St w β env W (tgt ++ Γ) s' → (∀ b o, b ≠ env.locals → s.heap.get? b = some o → s'.heap.get? b = some o) → Q () s') → wpAny (M w) A (assign target env v) Q E s
theorem St.storeL (S : St w β env W Γ s) {x : Str} {d : D} {v : Value} (hl : env.kindOf x = some .local) (r : Rep s.heap (W ++ β.V) d v)
    {Q : Unit → Shared → Prop} {E : Value → Shared → Prop} (q : ∀ s', St w β env W ((x, .fro d) :: Γ) s' → (∀ b o, b ≠ env.locals → s.heap.get? b = some o → s'.heap.get? b = some o) → Q () s') : wpAny (M w) A (storeName env x v) Q E s := by
  obtain ⟨m, hn⟩ := S.ns
  refine wpAny_storeName_local hl hn (fun h' hn' sb => q _ ?_ fun b o hb e => sb.extBut b o hb e) (by rw [S.kf]; rfl)
  refine S.chg (s' := { s with heap := h', toks := s.toks + 1 }) S.lu sb ⟨_, _, rfl⟩ (let ⟨o, es, ep, e, _⟩ := hn'; ⟨o, e⟩) ⟨_, hn'⟩ (fun n c e => ?_) ⟨fun y b e => ?_, fun y z ds es a hne e1 e2 l1 l2 => ?_⟩
  · obtain ⟨u, o, e', d⟩ := S.cx n c e
    exact ⟨u, o, (sb.2 c (Ne.symm (local_ne_cell S e))).trans e', d⟩
  · by_cases hxy : y = x
    · subst hxy; rw [get_cons_eq] at e; cases e
      exact ⟨v, (look_local hn' hl).trans (if_pos rfl), RepB.chg (b := .fro d) r sb S.lu (fun ds a e => by cases e)⟩
    · rw [get_cons_ne hxy] at e
      obtain ⟨u, l, r'⟩ := S.ty.val y b e
      refine ⟨u, (look_other_local S sb hn hn' hxy).trans l, r'.chg sb S.lu ?_⟩
      rintro ds a rfl rfl
      obtain ⟨a', vs, e, _, l, _⟩ := r'
      cases e; exact own_ne_locals S l
  · have hy : y ≠ x := fun q => by subst q; rw [get_cons_eq] at e1; cases e1
    have hz : z ≠ x := fun q => by subst q; rw [get_cons_eq] at e2; cases e2
    rw [get_cons_ne hy] at e1
    rw [get_cons_ne hz] at e2
    rw [look_other_local S sb hn hn' hy] at l1
    rw [look_other_local S sb hn hn' hz] at l2
    exact S.ty.sep y z ds es a hne e1 e2 l1 l2
theorem assignL_name {x : Str} {px : Pos} {d : D} (hk : env.kindOf x = some .local) : AssignL w A env (.Name x px) d [(x, .fro d)] := fun β W Γ s v Q E S r q =>
  wpAny_assign_Name (S.storeL hk r q)
theorem assignL_two {x y : Str} {px py tp : Pos} {kk : Nat} {d e : D} (hh : A.handled = none) (hx : env.kindOf x = some .local) (hy : env.kindOf y = some .local) : AssignL w A env (.Tuple [.Name x px, .Name y py] kk tp) (.tup [d, e]) [(y, .fro e), (x, .fro d)] := by
  intro β W Γ s v Q E S r q
  obtain ⟨a, vs, rfl, ha, ht, rr⟩ := r.tup
  obtain ⟨u, r1, rfl, ru, r2⟩ := rr.cons_inv
  obtain ⟨t, r3, rfl, rt, r4⟩ := r2.cons_inv
  rw [r4.nil_inv] at ht
  refine wpAny_assign_Tuple hh ht rfl rfl fun h₁ he₁ => ?_
  have k1 : Keeps s { s with heap := h₁ } := ⟨h₁, s.toks, rfl, fun c o e => he₁ c o (Nat.ne_of_lt (Heap.lt_size e)) e⟩
  show wpAny _ _ (assignInOrder [assign (.Name x px) env, assign (.Name y py) env] [u, t]) _ _ _
  refine assignInOrder_cons ?_
  refine wpAny_assign_Name ?_
  have S1 := S.le k1
  refine S1.here.storeL (d := d) hx (ru.mono (Keeps.le k1).o) fun s₂ S₂ n₂ => ?_
  refine assignInOrder_cons ?_
  refine wpAny_assign_Name ?_
  have kk : LeO (W ++ β.V) s.heap s₂.heap := fun b o hb e => S₂.k1 b o (fun m => hb (List.mem_append_left _ m)) (Keeps.le k1 _ _ e)
  refine (S1.back S₂).storeL (d := e) hy (rt.mono kk) fun s₃ S₃ n₃ => ?_
  exact assignInOrder_nil (q s₃ S₃ fun b o hb e => n₃ b o hb (n₂ b o hb (Keeps.le k1 _ _ e)))

/-- a comprehension's source, turn by turn -/
structure TC (w : World) (A : Around) (target : Expr) (h0 : Heap) (U : List Addr) (I : Addr) (fp wr : List Addr) (ds : List D) (Sx : Nat → Heap → Prop) : Prop where
  live : ∀ i h, Sx i h → ∀ b ∈ wr, ∃ o, h.get? b = some o
  frame : ∀ i h h', Sx i h → (∀ b ∈ fp, ∀ o, h.get? b = some o → h'.get? b = some o) → Sx i h'
  turn : ∀ i (s : Shared) (K : Value → Shared → Prop) (E : Value → Shared → Prop), i < ds.length → Sx i s.heap → LeO U h0 s.heap →
    (∀ v h' tk, Sx (i + 1) h' → (∀ b o, b ∉ wr → s.heap.get? b = some o → h'.get? b = some o) →
      (∀ U'', (∀ u ∈ U'', (∃ o, s.heap.get? u = some o) ∧ (u ∈ U ∨ h0.get? u = none)) → ∃ d, ds[i]? = some d ∧ Rep h' U'' d v) → K v { s with heap := h', toks := tk }) →
    wpAny (M w) A (pyNext (.ref I)) (fun r s₁ => ∃ v, r = some v ∧ wpAny (M w) A (letOwnedTupleGo target (.ref I) v) (fun _ s₂ => K v s₂) E s₁) E s
  done : ∀ (s : Shared) (Q : Option Value → Shared → Prop) (E : Value → Shared → Prop), Sx ds.length s.heap →
    (∀ h' tk, (∀ b o, b ∉ wr → s.heap.get? b = some o → h'.get? b = some o) → Q none { s with heap := h', toks := tk }) → wpAny (M w) A (pyNext (.ref I)) Q E s
  self : ∀ i (s : Shared) (Q : Value → Shared → Prop) (E : Value → Shared → Prop), Sx i s.heap → Q (.ref I) s → wpAny (M w) A (pyIter (.ref I)) Q E s
def SrcC (w : World) (A : Around) (env : Env) (Γ : Gm) (target iter : Expr) (ds : List D) : Prop :=
  ∀ (β : Bs) (W : List Addr) (s : Shared) (Q : Value → Shared → Prop) (E : Value → Shared → Prop), St w β env W Γ s →
    (∀ it s₁ s' fp wr Sx, Keeps s s₁ → Keeps s₁ s' → TC w A target s₁.heap (W ++ β.V) it fp wr ds Sx → Sx 0 s'.heap → (∀ b ∈ wr, s₁.heap.get? b = none ∧ ∃ o, s'.heap.get? b = some o) →
      (∀ b ∈ fp, ∃ o, s'.heap.get? b = some o) → Q (.ref it) s') → wpAny (M w) A (eval iter env) (fun xv s₁ => wpAny (M w) A (pyIter xv) Q E s₁) E s

theorem srcC_of {target iter : Expr} {ds : List D} (h : Src w A env Γ iter ds) : SrcC w A env Γ target iter ds := by
  intro β W s Q E S q
  refine h β W s Q E S fun it s₁ s₂ k₁ k₂ hn hx hI => ?_
  obtain ⟨fp, P, Sx, Wk, hst, hfp, hP, hcl⟩ := hI
  refine q it s₁ s₂ fp [it] Sx k₁ k₂ ⟨fun i h hs b hb => (let ⟨o, e, _⟩ := hcl i h hs; ⟨o, by rw [List.mem_singleton.mp hb]; exact e⟩), Wk.frame, fun i s' K E' hi hs hk k => ?_, Wk.done, Wk.self⟩ hst (fun b hb => ?_) fun b hb => ?_
  · refine Wk.item i s' _ _ hi hs fun v h' tk hPv hst' hk' => ⟨v, rfl, ?_⟩
    refine go_any (hcl _ _ hst') (k v h' tk hst' hk' fun U'' hU => ?_)
    obtain ⟨d, hd, hr⟩ := hP i v hPv hi
    refine ⟨d, hd, ?_⟩
    have r1 : Rep s₁.heap ((W ++ β.V) ++ U'') d v := Rep.fresh (fun u m => by
      rcases List.mem_append.mp m with m | m
      · exact .inl m
      · exact (hU u m).2) hr
    exact (r1.mono fun b o hb e => hk' b o (by simpa using (fun (q : b = it) => by rw [q, hn] at e; cases e)) (hk b o (fun m => hb (List.mem_append_left _ m)) e)).weaken fun u m => List.mem_append_right _ m
  · rw [List.mem_singleton.mp hb]; exact ⟨hn, hx⟩
  · by_cases e : b = it
    · subst e; exact hx
    · obtain ⟨h1, o, h2⟩ := hfp b hb e
      exact ⟨o, Keeps.le k₂ _ _ h2⟩
end
end Mine

/-! ## part M8 -/
namespace Mine
open PySem PySem.W PyProof.Rows PySem.Calls

section
variable {w : World} {A : Around} {env : Env} {Γ : Gm} {β : Bs} {W : List Addr} {s s' : Shared} {E : Value → Shared → Prop} {rest : List Stmt}

theorem comp_loop {elt target iter : Expr} {ifs : List Expr} {scope : Scope} {pos : Pos} {it acc : Value} {cenv : Env} {R : Result → Shared → Prop} (I : Nat → Shared → Prop)
    (turn : ∀ n s E', I n s → wpAny (M w) A (pyNext it) (fun r s₁ => match r with
      | none => R (.ok .next) s₁
      | some v => wpAny (M w) A (letOwnedTupleGo target it v) (fun _ s₀ => wpAny (M w) A (assign target cenv v) (fun _ s₂ =>
          wpAny (M w) A (forIn ifs true fun c r => if r = true then do let ok ← isTrue c cenv (eval c cenv); pure (ForInStep.yield ok) else pure (ForInStep.yield r)) (fun ok s₃ => if ok = true then wpAny (M w) A (eval elt cenv) (fun x s₄ =>
            wpAny (M w) A (call (.builtin "list.append") [acc, x]) (fun _ s₅ => ∃ m, m < n ∧ I m s₅) E' s₄) E' s₃
            else ∃ m, m < n ∧ I m s₃) E' s₂)
          E' s₀) E' s₁) E' s)
    (n : Nat) (h : I n s) : codeAny (M w) A (.compLoop (.ListComp elt [⟨target, iter, ifs, 0⟩] scope pos) 0 it acc cenv) R s := by
  refine codeAny_loop rfl I (fun n s hI => ?_) n h
  show wpAny _ A ((compTurn (.ListComp elt [⟨target, iter, ifs, 0⟩] scope pos) 0 it acc cenv).onRaise (fun x => do noteFrame x cenv; theTreesLotGoes x)) _ _ s
  refine wpAny_noted ?_
  rw [compTurn_list]
  refine wpAny_bind (wpAny_standAt (wpAny_bind (post (turn n s _ hI) (fun r s₁ h₁ => ?_))))
  cases r with
  | none => exact wpAny_pure h₁
  | some v =>
    refine wpAny_bind (post h₁ (fun _ s₀ h₀' => ?_))
    refine wpAny_bind (post h₀' (fun _ s₂ h₂ => ?_))
    refine wpAny_bind (post h₂ (fun ok s₃ h₃ => ?_))
    cases ok with
    | true =>
      rw [if_pos rfl] at h₃ ⊢
      exact wpAny_bind (wpAny_bind (post h₃ (fun x s₄ h₄ => wpAny_bind (post h₄ (fun _ s₅ h₅ => wpAny_pure (wpAny_pure ⟨rfl, h₅⟩))))))
    | false =>
      rw [if_neg (by decide)] at h₃ ⊢
      exact wpAny_bind (wpAny_pure (wpAny_pure ⟨rfl, h₃⟩))

/-- what one turn of a comprehension gives -/
def TurnOk (w : World) (A : Around) (cenv : Env) (Γ' : Gm) : List Expr → Expr → Option D → Prop
  | [], elt, od => ∃ d', od = some d' ∧ Ev w A cenv Γ' elt (.fro d')
  | [c], elt, od => ∃ b, EvT w A cenv Γ' c b ∧ (if b then ∃ d', od = some d' ∧ Ev w A cenv Γ' elt (.fro d') else od = none)
  | _, _, _ => False

theorem turn_go {cenv : Env} {Γ' : Gm} {ifs : List Expr} {elt : Expr} {od : Option D} (h : TurnOk w A cenv Γ' ifs elt od) {β : Bs} {W : List Addr} (S : St w β cenv W Γ' s) {acc : Value} {J : Shared → Prop}
    (no : ∀ s', Keeps s s' → od = none → J s') (yes : ∀ v d s', Keeps s s' → od = some d → Rep s'.heap (W ++ β.V) d v → wpAny (M w) A (call (.builtin "list.append") [acc, v]) (fun _ s₅ => J s₅) E s') :
    wpAny (M w) A (forIn ifs true fun c r => if r = true then do let ok ← isTrue c cenv (eval c cenv); pure (ForInStep.yield ok) else pure (ForInStep.yield r)) (fun ok s₃ => if ok = true then wpAny (M w) A (eval elt cenv) (fun x s₄ =>
            wpAny (M w) A (call (.builtin "list.append") [acc, x]) (fun _ s₅ => J s₅) E s₄) E s₃
            else J s₃) E s := by
  match ifs, h with
  | [], ⟨d', e, he⟩ =>
    refine wpAny_tests_nil ?_
    rw [if_pos rfl]
    exact he β W s _ E S fun v s' k r => yes v d' s' k e r
  | [c], ⟨b, ht, hb⟩ =>
    refine wpAny_tests_one ?_
    refine ht β W s _ E S fun s₁ k₁ => ?_
    cases b with
    | true =>
      rw [if_pos rfl] at hb ⊢
      obtain ⟨d', e, he⟩ := hb
      exact he β W s₁ _ E (S.le k₁) fun v s' k r => yes v d' s' (Keeps.trans' k₁ k) e r
    | false =>
      rw [if_neg (by decide)] at hb ⊢
      exact no s₁ k₁ hb

set_option maxHeartbeats 1000000 in
theorem comp_core {elt target iter : Expr} {ifs : List Expr} {scope : Scope} {cl : List (Str × Addr)} {pos p₂ : Pos} {ds : List D} {use : Option (Value → Sem Unit)} {Q : Value → Shared → Prop} (hh : A.handled = none) (S : St w β env W Γ s)
    (hs : SrcC w A env Γ target iter ds) (hz : ds.length ≤ 1000) (hclos : closureFor scope env = pure cl) (hcl : ClOk env cl) (tgt : D → Gm) (f : D → Option D) (Γc : Gm)
    (hcap : ∀ C, Capt env (compEnvC scope cl C env) Γ Γc)
    (ht : ∀ C, ∀ d ∈ ds, AssignL w A (compEnvC scope cl C env) target d (tgt d))
    (hturn : ∀ C, ∀ d ∈ ds, TurnOk w A (compEnvC scope cl C env) (tgt d ++ Γc) ifs elt (f d))
    (fin : ∀ D C s' ys m, Keeps s s' → s.heap.get? D = none → s.heap.get? C = none → D ≠ C → s'.heap.Ns C m → s'.heap.PlainList D (List.toArray ys) → RepL s'.heap (C :: D :: (W ++ β.V)) (ds.filterMap f) ys → compPost (M w) A E use Q (.ref D) C (.ok .next) s')
    (hkind : scope.kind = .function) (hcell : ∀ y ∈ scope.names, y.2 ≠ .cell) (hnames : ∀ y ∈ scope.names, y.2 = .local → scope.names.lookup y.1 = some .local)
    (hfold : ∀ x, foldedSetIterable iter env x = pure x) :
    wpAny (M w) A (comprehension (.ListComp elt [⟨target, iter, ifs, 0⟩] scope pos) scope env p₂ (newList []) false (eval iter env) use) Q E s := by
  refine wpAny_comprehension_free rfl hfold hclos hkind hnames ?_
  refine hs β W s _ E S fun I s₁ s₂ fp wr Sx k₁ k₂ hT hS0 hwr hfp => ?_
  have S2 := S.le (Keeps.trans' k₁ k₂)
  refine wpAny_newObj_type ?_
  refine wpAny_newFunctionEnv hcell (by intro y hy; simp at hy) (fun h₁ hns₁ hsb₁ => ?_) hkind
  dsimp only at hns₁ hsb₁ ⊢
  generalize hH2 : s₂.heap.push { cls := .type "list", dict := none, data := .seq ([] : List Value).toArray } = H2 at hns₁ hsb₁ ⊢
  have hCsz : H2.objs.size = s₂.heap.objs.size + 1 := by rw [← hH2, Heap.size_push]
  have hD2 : s₂.heap.get? s₂.heap.objs.size = none := size_none _
  have hC2 : s₂.heap.get? H2.objs.size = none := by
    cases e : s₂.heap.get? H2.objs.size with
    | none => rfl
    | some o => exact absurd (Heap.lt_size e) (by rw [hCsz]; exact Nat.not_lt.mpr (Nat.le_succ _))
  have hDC : s₂.heap.objs.size ≠ H2.objs.size := by rw [hCsz]; exact Nat.ne_of_lt (Nat.lt_succ_self _)
  have old : ∀ b o, s₂.heap.get? b = some o → h₁.get? b = some o := fun b o e => hsb₁.extBut b o (fun q => by rw [q, hC2] at e; cases e) (Heap.get?_push_of_some _ (hH2 ▸ Heap.get?_push_of_some _ e))
  have hacc : h₁.PlainList s₂.heap.objs.size ([] : List Value).toArray := ⟨0, hsb₁.extBut _ _ hDC (Heap.get?_push_of_some _ (hH2 ▸ Heap.get?_push_size _ rfl))⟩
  generalize hDe : s₂.heap.objs.size = Da at hD2 hDC hacc ⊢
  generalize hCe : H2.objs.size = C at hC2 hDC hns₁ ⊢
  have hDs : s.heap.get? Da = none := none_back (Keeps.trans' k₁ k₂) hD2
  have hCs : s.heap.get? C = none := none_back (Keeps.trans' k₁ k₂) hC2
  have hD1 : s₁.heap.get? Da = none := none_back k₂ hD2
  have hC1 : s₁.heap.get? C = none := none_back k₂ hC2
  have hCf : C ∉ fp := fun m => by obtain ⟨o, e⟩ := hfp C m; rw [hC2] at e; cases e
  have hDf : Da ∉ fp := fun m => by obtain ⟨o, e⟩ := hfp Da m; rw [hD2] at e; cases e
  have hCw : C ∉ wr := fun m => by obtain ⟨_, o, e⟩ := hwr C m; rw [hC2] at e; cases e
  have hDw : Da ∉ wr := fun m => by obtain ⟨_, o, e⟩ := hwr Da m; rw [hD2] at e; cases e
  have nWV : ∀ u, s₁.heap.get? u = none → u ∉ W ++ β.V := fun u e => none_of_dom (S.le k₁).dom e
  have loop : ∀ s₃ : Shared, s₃ = { s₂ with heap := h₁, toks := s₂.toks + ([] : List (Str × Value)).length } →
      codeAny (M w) A (.compLoop (.ListComp elt [⟨target, iter, ifs, 0⟩] scope pos) 0 (.ref I) (.ref Da) (compEnvC scope cl C env)) (compPost (M w) A E use Q (.ref Da) C) s₃ := by
    rintro s₃ rfl
    obtain ⟨Inv, hInv⟩ : ∃ Inv : Nat → Shared → Prop, ∀ k s', Inv k s' ↔ (∃ i h' tk ys m, s' = { s₂ with heap := h', toks := tk } ∧ i ≤ ds.length ∧ k = ds.length + 1 - i ∧ Sx i h' ∧ h'.Ns C m ∧ h'.PlainList Da (List.toArray ys) ∧ ys.length ≤ i ∧
        RepL h' (C :: W ++ (Da :: wr ++ β.V)) ((ds.take i).filterMap f) ys ∧ (∀ b o, s₁.heap.get? b = some o → h'.get? b = some o) ∧ (∀ b ∈ wr, ∃ o, h'.get? b = some o)) := ⟨_, fun _ _ => Iff.rfl⟩
    refine comp_loop Inv ?_ (ds.length + 1) <| (hInv _ _).mpr
      ⟨0, h₁, _, [], _, rfl, Nat.zero_le _, rfl, hT.frame _ _ _ hS0 (fun b _ o e => old b o e), hns₁, hacc, Nat.le_refl _, .nil, fun b o e => old b o (Keeps.le k₂ _ _ e), fun b hb => let ⟨_, o, e⟩ := hwr b hb; ⟨o, old b o e⟩⟩
    rintro k s' E' hk
    obtain ⟨i, h', tk, ys, m, rfl, hi, rfl, hSi, hnC, hpl, hyl, hys, hle, hwx⟩ := (hInv _ _).mp hk
    have hleC : ∀ b o, s₁.heap.get? b = some o → b ≠ C ∧ b ≠ Da ∧ b ∉ wr := fun b o e => ⟨fun q => (by rw [q, hC1] at e; cases e), fun q => (by rw [q, hD1] at e; cases e), fun q => (by have := (hwr b q).1; rw [this] at e; cases e)⟩
    by_cases hlt : i < ds.length
    · refine post (hT.turn i _ (fun v s₄ => wpAny (M w) A (assign target (compEnvC scope cl C env) v) (fun _ s₂' =>
          wpAny (M w) A (forIn ifs true fun c r => if r = true then do let ok ← isTrue c (compEnvC scope cl C env) (eval c (compEnvC scope cl C env)); pure (ForInStep.yield ok) else pure (ForInStep.yield r)) (fun ok s₃ => if ok = true then wpAny (M w) A (eval elt (compEnvC scope cl C env)) (fun x s₄ =>
            wpAny (M w) A (call (.builtin "list.append") [.ref Da, x]) (fun _ s₅ => ∃ m, m < ds.length + 1 - i ∧ Inv m s₅) E' s₄) E' s₃
            else ∃ m, m < ds.length + 1 - i ∧ Inv m s₃) E' s₂') E' s₄) E' hlt hSi (fun b o _ e => hle b o e) ?_) ?_
      case refine_2 =>
        rintro r s₄ ⟨v, rfl, hv⟩
        exact hv
      intro v h₄ tk₄ hS4 hk4 hrep
      obtain ⟨d, hd, hr⟩ := hrep (C :: W ++ (Da :: wr ++ β.V)) (fun u m => by
        have inWV : ∀ u ∈ W ++ β.V, (∃ o, h'.get? u = some o) ∧ (u ∈ W ++ β.V ∨ s₁.heap.get? u = none) := fun u m => ⟨let ⟨o, e⟩ := (S.le k₁).dom u m; ⟨o, hle _ _ e⟩, .inl m⟩
        rcases List.mem_append.mp m with m | m
        · rcases List.mem_cons.mp m with rfl | m
          · exact ⟨let ⟨o, _, _, e, _⟩ := hnC; ⟨o, e⟩, .inr hC1⟩
          · exact inWV u (List.mem_append_left _ m)
        · rcases List.mem_append.mp m with m | m
          · rcases List.mem_cons.mp m with rfl | m
            · exact ⟨let ⟨n, e⟩ := hpl; ⟨_, e⟩, .inr hD1⟩
            · exact ⟨hwx u m, .inr (hwr u m).1⟩
          · exact inWV u (List.mem_append_right _ m))
      have hdm : d ∈ ds := List.mem_of_getElem? hd
      have hle4 : Le s₁.heap h₄ := fun b o e => hk4 b o (hleC b o e).2.2 (hle b o e)
      have kp4 : Keeps s₁ { s₂ with heap := h₄, toks := tk₄ } := Keeps.of ((Keeps.mv k₂).trans ⟨_, _, rfl⟩) hle4
      have hn4 : h₄.Ns C m := hnC.at' fun o e => hk4 C o hCw e
      have hpl4 : h₄.PlainList Da (List.toArray ys) := hpl.at fun o e => hk4 Da o hDw e
      have hwx4 : ∀ b ∈ wr, ∃ o, h₄.get? b = some o := hT.live _ _ hS4
      have G := (S.le k₁).grow (s' := { s₂ with heap := h₄, toks := tk₄ }) kp4 [] (Da :: wr) (fun u m => by cases m) (fun u m => by
        rcases List.mem_cons.mp m with rfl | m
        · exact ⟨hD1, let ⟨n, e⟩ := hpl4; ⟨_, e⟩⟩
        · exact ⟨(hwr u m).1, hwx4 u m⟩)
      have GC := (S.le k₁).grow (s' := { s₂ with heap := h₄, toks := tk₄ }) kp4 [C] (Da :: wr) (fun u m => by
        rw [List.mem_singleton.mp m]
        refine ⟨hC1, let ⟨o, _, _, e, _⟩ := hn4; ⟨o, e⟩, fun q => ?_⟩
        rcases List.mem_cons.mp q with q | q
        · exact hDC q.symm
        · exact hCw q) (fun u m => by
        rcases List.mem_cons.mp m with rfl | m
        · exact ⟨hD1, let ⟨n, e⟩ := hpl4; ⟨_, e⟩⟩
        · exact ⟨(hwr u m).1, hwx4 u m⟩)
      have Si := G.inner (C := C) hn4 (none_back (S.le k₁).kp hC1) (fun q => by
        rcases List.mem_append.mp q with q | q
        · exact nWV C hC1 (List.mem_append_left _ q)
        · rcases List.mem_append.mp q with q | q
          · rcases List.mem_cons.mp q with q | q
            · exact hDC q.symm
            · exact hCw q
          · exact nWV C hC1 (List.mem_append_right _ q)) hkind hcl (hcap C) (fun x b e => GC.ty.val x b ((hcap C).get x b e).1)
      refine ht C d hdm _ _ _ _ v _ E' Si hr fun s₅ S₅ k₅ => ?_
      replace k₅ : ∀ b o, b ≠ C → h₄.get? b = some o → s₅.heap.get? b = some o := k₅
      have Sx5 : Sx (i + 1) s₅.heap := hT.frame _ _ _ hS4 fun b hb o e => k₅ b o (fun q => hCf (q ▸ hb)) e
      have hle5 : Le s₁.heap s₅.heap := fun b o e => k₅ b o (hleC b o e).1 (hle4 b o e)
      have hpl5 : s₅.heap.PlainList Da (List.toArray ys) := hpl4.at fun o e => k₅ Da o hDC e
      have hwx5 : ∀ b ∈ wr, ∃ o, s₅.heap.get? b = some o := fun b hb => let ⟨o, e⟩ := hwx4 b hb; ⟨o, k₅ b o (fun q => hCw (q ▸ hb)) e⟩
      obtain ⟨m5, hn5⟩ := S₅.ns
      obtain ⟨h5', tk5', rfl⟩ : ∃ h t, s₅ = { s₂ with heap := h, toks := t } := by obtain ⟨h, t, e⟩ := S₅.mv; exact ⟨h, t, e⟩
      have hys5 : RepL h5' (C :: W ++ (Da :: wr ++ β.V)) ((ds.take i).filterMap f) ys := hys.mono fun b o hb e => by
        have h1 : b ≠ C := fun q => hb (by simp [q])
        have h2 : b ∉ wr := fun q => hb (by simp [q])
        exact k₅ b o h1 (hk4 b o h2 e)
      have htk : ds.take (i + 1) = ds.take i ++ [d] := by rw [List.take_add_one, hd]; rfl
      refine turn_go (hturn C d hdm) S₅ (J := fun s' => ∃ m, m < ds.length + 1 - i ∧ Inv m s') (fun s₆ k₆ e => ?_) (fun v' d' s₆ k₆ e r' => ?_)
      · have l6 := Keeps.le k₆
        obtain ⟨h6, tk6, rfl⟩ : ∃ h t, s₆ = { s₂ with heap := h, toks := t } := by obtain ⟨h, t, e⟩ := Keeps.mv k₆; exact ⟨h, t, e⟩
        refine ⟨ds.length + 1 - (i + 1), by omega, (hInv _ _).mpr ⟨i + 1, h6, tk6, ys, m5, rfl, hlt, rfl, hT.frame _ _ _ Sx5 (fun b _ o e => l6 b o e), hn5.keeps l6, hpl5.at fun o e => l6 _ o e, Nat.le_succ_of_le hyl, ?_, fun b o e => l6 b o (hle5 b o e), fun b hb => let ⟨o, e⟩ := hwx5 b hb; ⟨o, l6 b o e⟩⟩⟩
        rw [htk, List.filterMap_append]
        simp only [List.filterMap_cons, e, List.filterMap_nil, List.append_nil]
        exact hys5.mono l6.o
      · have l6 := Keeps.le k₆
        obtain ⟨h6, tk6, rfl⟩ : ∃ h t, s₆ = { s₂ with heap := h, toks := t } := by obtain ⟨h, t, e⟩ := Keeps.mv k₆; exact ⟨h, t, e⟩
        have hpl6 : h6.PlainList Da (List.toArray ys) := hpl5.at fun o e => l6 _ o e
        refine wpAny_list_append_plain hpl6 (fun h7 hl7 sb7 => ?_) (by rw [List.size_toArray, sizeLine_eq]; omega)
        have k7 : ∀ b o, b ≠ Da → h6.get? b = some o → h7.get? b = some o := fun b o hb e => sb7.extBut b o hb e
        have e2 : (List.toArray ys).push v' = List.toArray (ys ++ [v']) := by simp
        rw [e2] at hl7
        have kU : LeO (C :: W ++ (Da :: wr ++ β.V)) h6 h7 := fun b o hb e => k7 b o (fun q => hb (by simp [q])) e
        refine ⟨ds.length + 1 - (i + 1), by omega, (hInv _ _).mpr ⟨i + 1, h7, tk6, ys ++ [v'], m5, rfl, hlt, rfl, hT.frame _ _ _ Sx5 (fun b hb o e => k7 b o (fun q => hDf (q ▸ hb)) (l6 b o e)), (hn5.keeps l6).at' fun o e => k7 C o (Ne.symm hDC) e, hl7, by simp; omega, ?_,
          fun b o e => k7 b o (hleC b o e).2.1 (l6 b o (hle5 b o e)), fun b hb => let ⟨o, e⟩ := hwx5 b hb; ⟨o, k7 b o (fun q => hDw (q ▸ hb)) (l6 b o e)⟩⟩⟩
        rw [htk, List.filterMap_append]
        simp only [List.filterMap_cons, e, List.filterMap_nil]
        exact (hys5.mono l6.o |>.mono kU).append (.cons (r'.mono kU) .nil)
    · have hin : i = ds.length := by omega
      subst hin
      refine hT.done _ _ _ hSi fun h₄ tk₄ hk₄ => ?_
      rw [List.take_length] at hys
      refine fin Da C _ ys m (Keeps.trans' k₁ (Keeps.of ((Keeps.mv k₂).trans ⟨_, _, rfl⟩) fun b o e => hk₄ b o (hleC b o e).2.2 (hle b o e))) hDs hCs hDC (hnC.at' fun o e => hk₄ C o hCw e) (hpl.at fun o e => hk₄ Da o hDw e) ?_
      refine (hys.mono fun b o hb e => hk₄ b o (fun q => hb (by simp [q])) e).weaken fun u m => ?_
      rcases List.mem_cons.mp m with h | m
      · exact List.mem_append_left _ (h ▸ .head _)
      rcases List.mem_cons.mp m with h | m
      · exact List.mem_append_right _ (h ▸ .head _)
      rcases List.mem_append.mp m with h | h
      · exact List.mem_append_left _ (List.mem_cons_of_mem _ h)
      · exact List.mem_append_right _ (List.mem_append_right _ h)
  exact codeAny_compStart_list (loop _ rfl) (hT.self 0 _ _ _ (hT.frame _ _ _ hS0 fun b _ o e => old b o e) (loop _ rfl))

theorem evn_comp {elt target iter : Expr} {ifs : List Expr} {scope : Scope} {cl : List (Str × Addr)} {pos : Pos} {ds : List D} (hh : A.handled = none)
    (hs : SrcC w A env Γ target iter ds) (hz : ds.length ≤ 1000) (hclos : closureFor scope env = pure cl) (hcl : ClOk env cl) (tgt : D → Gm) (f : D → Option D) (Γc : Gm)
    (hcap : ∀ C, Capt env (compEnvC scope cl C env) Γ Γc)
    (ht : ∀ C, ∀ d ∈ ds, AssignL w A (compEnvC scope cl C env) target d (tgt d))
    (hturn : ∀ C, ∀ d ∈ ds, TurnOk w A (compEnvC scope cl C env) (tgt d ++ Γc) ifs elt (f d))
    (hkind : scope.kind = .function := by rfl) (hcell : ∀ y ∈ scope.names, y.2 ≠ .cell := by decide) (hnames : ∀ y ∈ scope.names, y.2 = .local → scope.names.lookup y.1 = some .local := by decide)
    (hfold : ∀ x, foldedSetIterable iter env x = pure x := by intro _; rfl) :
    EvN w A env Γ (.ListComp elt [⟨target, iter, ifs, 0⟩] scope pos) (ds.filterMap f) := by
  intro β W s Q E S q
  rw [eval_ListComp]
  refine comp_core (use := none) hh S hs hz hclos hcl tgt f Γc hcap ht hturn (fun D C s' ys m k hD hC hne hn hp r => ?_) hkind hcell hnames hfold
  refine ⟨m, hn, fun h' sb => ?_⟩
  have k' : ∀ b o, b ≠ C → s'.heap.get? b = some o → h'.get? b = some o := fun b o hb e => (sb.2 b hb).trans e
  refine q D ys { s' with heap := h' } (Keeps.of ((Keeps.mv k).trans ⟨_, _, rfl⟩) fun b o e => k' b o (fun q => by rw [q, hC] at e; cases e) (Keeps.le k _ _ e)) hD (hp.at fun o e => k' D o hne e) ?_
  exact (r.mono fun b o hb e => k' b o (fun q => hb (q ▸ .head _)) e).weaken fun u m => List.mem_cons_of_mem _ m

theorem x_comp {y : Str} {py spos : Pos} {elt target iter : Expr} {ifs : List Expr} {scope : Scope} {cl : List (Str × Addr)} {pos : Pos} {ds : List D} {Q : Flow → Shared → Prop} (hh : A.handled = none) (S : St w β env W Γ s)
    (hs : SrcC w A env Γ target iter ds) (hz : ds.length ≤ 1000) (hclos : closureFor scope env = pure cl) (hcl : ClOk env cl) (tgt : D → Gm) (f : D → Option D) (Γc : Gm)
    (hcap : ∀ C, Capt env (compEnvC scope cl C env) Γ Γc)
    (ht : ∀ C, ∀ d ∈ ds, AssignL w A (compEnvC scope cl C env) target d (tgt d))
    (hturn : ∀ C, ∀ d ∈ ds, TurnOk w A (compEnvC scope cl C env) (tgt d ++ Γc) ifs elt (f d))
    (hk : Stored env y) (k : ∀ a s', St w β env (a :: W) ((y, .own (ds.filterMap f)) :: Γ) s' → wpAny (M w) A (execs rest env) Q E s')
    (hsw : swapsWith (.ListComp elt [⟨target, iter, ifs, 0⟩] scope pos) (some (.Name y py)) spos.line env = pure true := by with_unfolding_all rfl)
    (hkind : scope.kind = .function := by rfl) (hcell : ∀ y ∈ scope.names, y.2 ≠ .cell := by decide) (hnames : ∀ y ∈ scope.names, y.2 = .local → scope.names.lookup y.1 = some .local := by decide)
    (hfold : ∀ x, foldedSetIterable iter env x = pure x := by intro _; rfl) :
    wpAny (M w) A (execs (.Assign [.Name y py] (.ListComp elt [⟨target, iter, ifs, 0⟩] scope pos) spos :: rest) env) Q E s := by
  refine x_next ?_
  rw [exec_Assign_Name_used _ _ _ _ hsw]
  refine wpAny_bind (wpAny_standAt (wpAny_bind ?_))
  show wpAny _ A (do let _ ← comprehension (.ListComp elt [⟨target, iter, ifs, 0⟩] scope pos) scope env _ (newList []) false (eval iter env) (some (assign (.Name y py) env))) _ _ s
  refine wpAny_bind (post (comp_core (use := some (assign (.Name y py) env)) (Q := fun _ s' => wpAny (M w) A (execs rest env) Q E s') hh S hs hz hclos hcl tgt f Γc hcap ht hturn (fun D C s' ys m kp hD hC hne hn hp r => ?_) hkind hcell hnames hfold)
    fun _ s' h => wpAny_pure (wpAny_pure ⟨rfl, h⟩))
  show wpAny _ A (assign (.Name y py) env (.ref D)) _ _ _
  have S1 := S.grow kp [D] [C] (fun u m => by
    rw [List.mem_singleton.mp m]
    exact ⟨hD, let ⟨n, e⟩ := hp; ⟨_, e⟩, fun q => hne (List.mem_singleton.mp q)⟩) (fun u m => by
    rw [List.mem_singleton.mp m]
    exact ⟨hC, let ⟨o, _, _, e, _⟩ := hn; ⟨o, e⟩⟩)
  have hnW : ∀ u, s.heap.get? u = none → u ∉ W ++ β.V := fun u e => none_of_dom S.dom e
  refine wpAny_assign_Name ?_
  refine S1.here.storeB (b := .own (ds.filterMap f)) hk ⟨D, ys, rfl, .head _, hp, r.weaken fun u m => ?_⟩ (fun es a e1 e2 z fs hz e l => ?_) fun s'' S'' => ?_
  · have m : u ∈ (D :: W) ++ (C :: β.V) := m
    rcases List.mem_append.mp m with m | m
    · rcases List.mem_cons.mp m with rfl | m
      · exact .tail _ (.head _)
      · exact .tail _ (.tail _ (List.mem_append_left _ m))
    · rcases List.mem_cons.mp m with rfl | m
      · exact .head _
      · exact .tail _ (.tail _ (List.mem_append_right _ m))
  · cases e2
    obtain ⟨u, l', r'⟩ := S.ty.val z _ e
    have := look_le (Keeps.le kp) l'
    rw [l] at this; cases this
    obtain ⟨a', us, e3, ha', _⟩ := r'
    cases e3
    exact hnW _ hD (List.mem_append_left _ ha')
  · have S2 := S1.back S''
    have hCW : C ∉ D :: W := fun m => by
      rcases List.mem_cons.mp m with e | m
      · exact hne e.symm
      · exact hnW C hC (List.mem_append_left _ m)
    refine ⟨m, hn.at' fun o e => S''.k1 C o hCW e, fun h' sb => ?_⟩
    have S3 : St w { β with V := C :: β.V } env (D :: W) ((y, .own (ds.filterMap f)) :: Γ) s'' := S2
    obtain ⟨hn1, hnW1⟩ := none_in (U := []) S.k1 S.d1 hC
    exact k D _ (S3.offless (s' := { s'' with heap := h' }) (fun m => hnW C hC (List.mem_append_right _ m)) hnW1 (none_back S.kp hC) hn1 ⟨h', s''.toks, rfl⟩ fun b o hb e => (sb.2 b hb).trans e)
end
end Mine

/-! ## part M9 -/
namespace Mine
open PySem PySem.W PyProof.Rows PySem.Calls

section
variable {w : World} {A : Around} {env : Env} {Γ : Gm} {β : Bs} {W : List Addr} {s s' : Shared} {E : Value → Shared → Prop} {rest : List Stmt}

theorem src_zip {x : Str} {px pos tp : Pos} {e₁ e₂ : Expr} {elts : List Expr} {kk : Nat} {b c : B} {ds es : List D} (hh : A.handled = none) (hg : GlobV w x (.type "zip")) (hx : env.kindOf x = some .globalImplicit) (hd : (x == ("__debug__" : Str)) = false)
    (he : Ev w A env Γ e₁ b) (hb : b.isL ds) (he' : Ev w A env Γ e₂ c) (hc : c.isL es)
    (hs : starEach [e₁, e₂] env = (false, eval e₁ env) :: starEach [e₂] env := by rfl) (hs' : starEach [e₂] env = [(false, eval e₂ env)] := by rfl) (hp : (backTo pos (starEach [e₂] env)).any (·.1) = false := by rfl)
    (hcl : eval (.Call (.Name x px) [e₁, e₂] [] pos) env = (do let f ← eval (.Name x px) env; callWith pos f [] (backTo pos (starEach [e₁, e₂] env)) (backToKw pos (keywordEach [] env))) := by rfl) :
    SrcC w A env Γ (.Tuple elts kk tp) (.Call (.Name x px) [e₁, e₂] [] pos) (List.zipWith (fun d e => D.tup [d, e]) ds es) := by
  intro β W s Q E S q
  refine Call_ ?_ hcl
  refine ev_glob hg hx hd S ?_
  refine PySem.Pv.callWith_type1 (rest := [e₂]) ?_ hs hp
  refine args_cons (rest := [e₂]) ?_ hs
  refine he β W s _ E S fun v s₁ k₁ r₁ => ?_
  refine args_cons (rest := []) ?_ hs'
  refine he' β W s₁ _ E (S.le k₁) fun u s₂ k₂ r₂ => ?_
  refine args_nil ?_
  obtain ⟨l1, vs, rfl, L1, R1⟩ := (r₁.le (Keeps.le k₂)).list hb
  obtain ⟨l2, us, rfl, L2, R2⟩ := r₂.list hc
  refine call_zip_2 L1 L2 fun h' hz hTI hTO hi1 hi2 hsz hk => ?_
  have a1 : l1 < s₂.heap.objs.size := by obtain ⟨_, e, _⟩ := L1; exact Heap.lt_size e
  have a2 : l2 < s₂.heap.objs.size := by obtain ⟨_, e, _⟩ := L2; exact Heap.lt_size e
  have Wk := WalksT.zip2 (prog := PySem.Challenge.pw_bb0058_01) (w := w) hh _ _ _ _ _ _ _ (zipApart_new a1 a2) vs.toArray us.toArray
  have L1' : h'.IsList l1 vs.toArray := L1.at fun o e => hk _ o e
  have L2' : h'.IsList l2 us.toArray := L2.at fun o e => hk _ o e
  have n0 : ∀ j, s₂.heap.get? (s₂.heap.objs.size + j) = none := fun j => by
    cases e : s₂.heap.get? (s₂.heap.objs.size + j) with
    | none => rfl
    | some o => exact absurd (Heap.lt_size e) (Nat.not_lt.mpr (Nat.le_add_right _ _))
  have hlen : (List.zipWith (fun d e => D.tup [d, e]) ds es).length = min vs.toArray.size us.toArray.size := by
    rw [List.length_zipWith, List.size_toArray, List.size_toArray, R1.length, R2.length]
  have k12 := Keeps.trans' k₁ k₂
  have hkp : Keeps s₂ { s₂ with heap := h' } := ⟨h', s₂.toks, rfl, hk⟩
  refine Wk.self 0 _ _ E ⟨hz, hTI, ⟨_, _, hTO⟩, hi1, hi2, L1', L2'⟩ ?_
  refine q _ s₂ _ _ [s₂.heap.objs.size + 4, s₂.heap.objs.size + 3, s₂.heap.objs.size, s₂.heap.objs.size + 1] _ k12 hkp ⟨fun i h hs b hb => ?_, Wk.frame, fun i s' K E' hi hs hle k => ?_, fun s' Q E hs k => ?_, Wk.self⟩ ⟨hz, hTI, ⟨_, _, hTO⟩, hi1, hi2, L1', L2'⟩ (fun b hb => ?_) (fun b hb => ?_)
  · obtain ⟨hz, hTI, ⟨a, b, hTO⟩, h1, h2, hl1, hl2⟩ := hs
    simp at hb
    rcases hb with rfl | rfl | rfl | rfl
    · exact ⟨_, hz⟩
    · exact ⟨_, hTO⟩
    · obtain ⟨o, e, _⟩ := h1; exact ⟨o, e⟩
    · obtain ⟨o, e, _⟩ := h2; exact ⟨o, e⟩
  · refine Wk.item i s' _ _ (hlen ▸ hi) hs fun T vals h₁ tk hPt hT hTup hMid hk₁ => ⟨_, rfl, ?_⟩
    refine Wk.go elts kk tp i T _ _ _ hMid fun h₂ hS₂ hk₂ => ?_
    refine k _ h₂ tk hS₂ (fun b o hb e => hk₂ b o hb (hk₁ b o hb e)) fun U'' hU => ?_
    obtain ⟨x, y, hx, hy, rfl⟩ := hPt
    rw [hlen, List.size_toArray, List.size_toArray, R1.length, R2.length] at hi
    have i1 : i < ds.length := Nat.lt_of_lt_of_le hi (Nat.min_le_left _ _)
    have i2 : i < es.length := Nat.lt_of_lt_of_le hi (Nat.min_le_right _ _)
    obtain ⟨x', hx', rx⟩ := R1.get (i := i) (d := ds[i]) (by simp [i1])
    obtain ⟨y', hy', ry⟩ := R2.get (i := i) (d := es[i]) (by simp [i2])
    have hx1 : vs[i]? = some x := by simpa using hx
    have hy1 : us[i]? = some y := by simpa using hy
    rw [hx1] at hx'; cases hx'
    rw [hy1] at hy'; cases hy'
    have up : ∀ {d v}, Rep s₂.heap (W ++ β.V) d v → Rep h₂ U'' d v := fun {d v} r => by
      have r1 : Rep s₂.heap ((W ++ β.V) ++ U'') d v := Rep.fresh (fun u m => by
        rcases List.mem_append.mp m with m | m
        · exact .inl m
        · exact (hU u m).2) r
      refine (r1.mono fun b o hb e => ?_).weaken fun u m => List.mem_append_right _ m
      have hbw : b ∉ [s₂.heap.objs.size + 4, s₂.heap.objs.size + 3, s₂.heap.objs.size, s₂.heap.objs.size + 1] := fun m => by
        have hlt := Heap.lt_size e
        simp at m
        rcases m with rfl | rfl | rfl | rfl
        · exact absurd hlt (Nat.not_lt.mpr (Nat.le_add_right _ _))
        · exact absurd hlt (Nat.not_lt.mpr (Nat.le_add_right _ _))
        · exact absurd hlt (Nat.lt_irrefl _)
        · exact absurd hlt (Nat.not_lt.mpr (Nat.le_add_right _ _))
      exact hk₂ b o hbw (hk₁ b o hbw (hle b o (fun m => hb (List.mem_append_left _ m)) e))
    have hTU : T ∉ U'' := fun m => by obtain ⟨⟨o, e⟩, _⟩ := hU T m; exact absurd (Heap.lt_size e) (Nat.not_lt.mpr hT)
    have hTw := Wk.apart i T _ hMid
    refine ⟨.tup [ds[i], es[i]], ?_, Rep.mkTup (vs := [x, y]) hTU ?_ (.cons (up rx) (.cons (up ry) .nil))⟩
    · rw [List.getElem?_zipWith, List.getElem?_eq_getElem i1, List.getElem?_eq_getElem i2]
    · obtain ⟨o, e, r⟩ := hTup
      exact ⟨o, hk₂ _ o hTw e, r⟩
  · exact Wk.done s' Q E (hlen ▸ hs) k
  · simp at hb
    rcases hb with rfl | rfl | rfl | rfl
    · exact ⟨n0 _, _, hz⟩
    · exact ⟨n0 _, _, hTO⟩
    · obtain ⟨o, e, _⟩ := hi1; exact ⟨n0 0, o, e⟩
    · obtain ⟨o, e, _⟩ := hi2; exact ⟨n0 _, o, e⟩
  · simp at hb
    rcases hb with rfl | rfl | rfl | rfl | rfl | rfl | rfl
    · exact ⟨_, hz⟩
    · exact ⟨_, hTI⟩
    · exact ⟨_, hTO⟩
    · obtain ⟨o, e, _⟩ := hi1; exact ⟨o, e⟩
    · obtain ⟨o, e, _⟩ := hi2; exact ⟨o, e⟩
    · obtain ⟨o, e, _⟩ := L1'; exact ⟨o, e⟩
    · obtain ⟨o, e, _⟩ := L2'; exact ⟨o, e⟩

theorem srcC_list {target iter : Expr} {b : B} {ds : List D} (hh : A.handled = none) (he : Ev w A env Γ iter b) (hb : b.isL ds) : SrcC w A env Γ target iter ds := by
  intro β W s Q E S q
  refine he β W s _ E S fun v s₁ k₁ r => ?_
  obtain ⟨a, vs, rfl, hl, rr⟩ := r.list hb
  refine wpAny_pyIter_list hl ?_
  have hne : a ≠ s₁.heap.objs.size := by obtain ⟨o, ho, _⟩ := hl; exact Nat.ne_of_lt (Heap.lt_size ho)
  have Wk := Walks.list (prog := PySem.Challenge.pw_bb0058_01) (w := w) hh s₁.heap.objs.size a hne vs.toArray
  rw [show vs.toArray.size = ds.length from rr.length] at Wk
  have hcl : ∀ i (h : Heap), (h.IsListIter s₁.heap.objs.size a i ∧ h.IsList a vs.toArray) → ∃ o, h.get? s₁.heap.objs.size = some o ∧ (o.cls = .type "list_iterator" ∨ o.cls = .type "range_iterator") := by
    rintro i h ⟨⟨o, ho, hc, _⟩, _⟩
    exact ⟨o, ho, .inl hc⟩
  have h0 : (s₁.heap.push { cls := .type "list_iterator", data := .fields #[.ref a, .int 0 0] }).IsListIter s₁.heap.objs.size a 0 ∧ (s₁.heap.push { cls := .type "list_iterator", data := .fields #[.ref a, .int 0 0] }).IsList a vs.toArray :=
    ⟨⟨_, Heap.get?_push_size _ rfl, rfl, rfl⟩, hl.push _⟩
  refine q s₁.heap.objs.size s₁ _ _ [s₁.heap.objs.size] _ k₁ (Keeps.push s₁ _) ⟨fun i h hs b hb => (let ⟨o, e, _⟩ := hcl i h hs; ⟨o, by rw [List.mem_singleton.mp hb]; exact e⟩), Wk.frame, fun i s' K E' hi hs hk k => ?_, Wk.done, Wk.self⟩ h0 (fun b hb => ?_) fun b hb => ?_
  · refine Wk.item i s' _ _ hi hs fun v h' tk hPv hst' hk' => ⟨v, rfl, ?_⟩
    refine go_any (hcl _ _ hst') (k v h' tk hst' hk' fun U'' hU => ?_)
    obtain ⟨u, hu, hr⟩ := rr.get (i := i) (d := ds[i]) (by simp [hi])
    have hv' : vs[i]? = some v := by simpa using hPv
    rw [hv'] at hu; cases hu
    refine ⟨ds[i], by simp [hi], ?_⟩
    have r1 : Rep s₁.heap ((W ++ β.V) ++ U'') ds[i] v := Rep.fresh (fun u m => by
      rcases List.mem_append.mp m with m | m
      · exact .inl m
      · exact (hU u m).2) hr
    exact (r1.mono fun b o hb e => hk' b o (by simpa using (fun (q : b = s₁.heap.objs.size) => by rw [q, size_none] at e; cases e)) (hk b o (fun m => hb (List.mem_append_left _ m)) e)).weaken fun u m => List.mem_append_right _ m
  · rw [List.mem_singleton.mp hb]; exact ⟨size_none _, _, Heap.get?_push_size _ rfl⟩
  · rcases List.mem_cons.mp hb with rfl | hb
    · exact ⟨_, Heap.get?_push_size _ rfl⟩
    · rw [List.mem_singleton.mp hb]; obtain ⟨o, e, _⟩ := hl; exact ⟨o, Heap.get?_push_of_some _ e⟩

/-! ### while -/
theorem x_while {test : Expr} {body : List Stmt} {pos : Pos} {Q : Flow → Shared → Prop} (S : St w β env W Γ s) (Inv : Nat → Gm → Prop) (b : Nat → Bool) (N : Nat) (h0 : Inv 0 Γ) (hN : b N = false) (hb : ∀ i, i < N → b i = true)
    (ht : ∀ i Γ', Inv i Γ' → EvT w A env Γ' test (b i))
    (turn : ∀ (β' : Bs) i W' Γ' s' (Q' : Flow → Shared → Prop) (E' : Value → Shared → Prop), i < N → Inv i Γ' → St w β' env W' Γ' s' →
      (∀ W'' Γ'' s'', Inv (i + 1) Γ'' → St w β' env W'' Γ'' s'' → Q' .next s'') → wpAny (M w) A (execs body env) Q' E' s')
    (done : ∀ W' Γ' s', Inv N Γ' → St w β env W' Γ' s' → wpAny (M w) A (execs rest env) Q E s') :
    wpAny (M w) A (execs (.While test body [] pos :: rest) env) Q E s := by
  refine wpAny_execs_cons (wpAny_While ?_)
  refine codeAny_whileLoop (fun k s' => ∃ i W' Γ', k = N - i ∧ i ≤ N ∧ Inv i Γ' ∧ St w β env W' Γ' s') ?_ N ⟨0, W, Γ, rfl, Nat.zero_le _, h0, S⟩
  rintro k s' ⟨i, W', Γ', rfl, hi, hI, S'⟩
  refine ht i Γ' hI β W' s' _ _ S' fun s₂ k₂ => ?_
  by_cases hlt : i < N
  · rw [hb i hlt, if_pos rfl]
    refine turn β i W' Γ' s₂ _ _ hlt hI (S'.le k₂) fun W'' Γ'' s'' hI' S'' => ?_
    exact ⟨N - (i + 1), by omega, i + 1, W'', Γ'', rfl, hlt, hI', S''⟩
  · have : i = N := by omega
    subst this
    rw [hN, if_neg (by decide)]
    exact wpAny_execs_nil (done W' Γ' s₂ hI (S'.le k₂))
end
end Mine

/-! ## part M10 -/
namespace Mine
open PySem PySem.W PyProof.Rows PySem.Calls

section
variable {w : World} {A : Around} {env : Env} {Γ : Gm} {β : Bs} {W : List Addr} {s s' : Shared} {E : Value → Shared → Prop} {rest : List Stmt} {Q : Flow → Shared → Prop}

theorem preSum_ints (ns : List Int) : ∀ n, n ≤ ns.length → preSum (fun i => ns.getD i 0) n = (ns.take n).sum
  | 0, _ => rfl
  | n + 1, h => by
    have h1 : n < ns.length := by omega
    show preSum _ n + ns.getD n 0 = _
    rw [preSum_ints ns n (by omega), List.take_add_one, List.sum_append]
    simp [List.getD, h1]
theorem call_sum {b : B} {ns : List Int} (hh : A.handled = none) (hb : b.isL (ns.map .int)) : CallB w A (.builtin "sum") [b] (.fro (.int ns.sum)) := by
  intro W V s vs Q E G dm r q
  obtain ⟨v, rfl, r1⟩ := r.one
  obtain ⟨a, us, rfl, l, rr⟩ := r1.list hb
  refine call_sum_walkG ?_
  refine wpAny_pyIter_list l ?_
  have hne : a ≠ s.heap.objs.size := by obtain ⟨o, ho, _⟩ := l; exact Nat.ne_of_lt (Heap.lt_size ho)
  have Wk := Walks.list (prog := PySem.Challenge.pw_bb0058_01) (w := w) (A := A.in1) hh s.heap.objs.size a hne us.toArray
  have hlen : us.toArray.size = ns.length := by rw [List.size_toArray, rr.length, List.length_map]
  refine ⟨_, _, _, _, _, _, fun i => ns.getD i 0, rfl, Wk, ⟨⟨_, Heap.get?_push_size _ rfl, rfl, rfl⟩, l.push _⟩, fun b hb => ?_, fun i v hv => ?_, fun h' tk t' hk => ?_⟩
  · rcases List.mem_cons.mp hb with rfl | hb
    · show _ < (s.heap.push _).objs.size; rw [Heap.size_push]; exact Nat.lt_succ_self _
    · rw [List.mem_singleton.mp hb]; show _ < (s.heap.push _).objs.size; rw [Heap.size_push]; obtain ⟨o, ho, _⟩ := l; exact Nat.lt_succ_of_lt (Heap.lt_size ho)
  · have hv' : us[i]? = some v := by simpa using hv
    have hi : i < ns.length := by
      have := (List.getElem?_eq_some_iff.mp hv').1
      rw [← hlen]; simpa using this
    obtain ⟨u, hu, hr⟩ := rr.get (i := i) (d := .int ns[i]) (by simp [hi])
    rw [hv'] at hu; cases hu
    obtain ⟨t, rfl⟩ := hr.int
    exact ⟨t, by simp [List.getD, hi]⟩
  · rw [hlen, preSum_ints ns ns.length (Nat.le_refl _), List.take_length]
    refine q _ _ (Keeps.of ⟨h', tk, rfl⟩ fun b o e => hk b o (by simpa using (fun (q : b = s.heap.objs.size) => by rw [q, size_none] at e; cases e)) (Heap.get?_push_of_some _ e)) (RepB.mkInt _ _)

/-! ### tuples of targets -/
theorem S_two {x y : Str} {d e : D} {u t : Value} {Q : Unit → Shared → Prop} {f g : Value → Sem Unit} (S : St w β env W Γ s) (hx : Stored env x) (hy : Stored env y) (ru : Rep s.heap (W ++ β.V) d u) (rt : Rep s.heap (W ++ β.V) e t)
    (hf : ∀ s Q, wpAny (M w) A (storeName env x u) Q E s → wpAny (M w) A (f u) Q E s) (hg : ∀ s Q, wpAny (M w) A (storeName env y t) Q E s → wpAny (M w) A (g t) Q E s)
    (k : ∀ s', St w β env W ((y, .fro e) :: (x, .fro d) :: Γ) s' → Q () s') : wpAny (M w) A (assignInOrder [f, g] [u, t]) Q E s := by
  refine assignInOrder_cons ?_
  refine hf _ _ ?_
  refine S.here.storeB (b := .fro d) hx (Rep.b ru) (fun ds a e => by cases e) fun s₂ S₂ => ?_
  refine assignInOrder_cons ?_
  refine hg _ _ ?_
  have kk : LeO (W ++ β.V) s.heap s₂.heap := fun b o hb e => S₂.k1 b o (fun m => hb (List.mem_append_left _ m)) e
  refine (S.back S₂).storeB (b := .fro e) hy (Rep.b (rt.mono kk)) (fun ds a e => by cases e) fun s₃ S₃ => ?_
  exact assignInOrder_nil (k s₃ S₃)

theorem x_tup2s {x y : Str} {px py tp pos : Pos} {kk : Nat} {e : Expr} {d₁ d₂ : D} (hh : A.handled = none) (S : St w β env W Γ s) (he : Ev w A env Γ e (.fro (.tup [d₁, d₂]))) (hx : Stored env x) (hy : Stored env y)
    (k : ∀ s', St w β env W ((x, .fro d₁) :: (y, .fro d₂) :: Γ) s' → wpAny (M w) A (execs rest env) Q E s')
    (hs : swapsWithSole [.Tuple [.Name x px, .Name y py] kk tp] e pos.line env = pure false := by rfl)
    (hw : swappedStores [.Tuple [.Name x px, .Name y py] kk tp] e env = pure (some [x, y]) := by with_unfolding_all rfl) :
    wpAny (M w) A (execs (.Assign [.Tuple [.Name x px, .Name y py] kk tp] e pos :: rest) env) Q E s := by
  refine x_next (Assign_Tuple_swapped ?_ hs hw)
  refine he β W s _ E S fun v s₁ k₁ r => ?_
  obtain ⟨a, vs, rfl, ha, ht, rr⟩ := r.tup
  obtain ⟨u, r1, rfl, ru, r2⟩ := rr.cons_inv
  obtain ⟨t, r3, rfl, rt, r4⟩ := r2.cons_inv
  rw [r4.nil_inv] at ht
  refine unpackItems_tuple (items := #[u, t]) hh ht fun h₁ he₁ => ?_
  have k2 : Keeps s₁ { s₁ with heap := h₁ } := ⟨h₁, s₁.toks, rfl, fun c o e => he₁ c o (Nat.ne_of_lt (Heap.lt_size e)) e⟩
  have S2 := (S.le k₁).le k2
  show wpAny _ _ (assignInOrder [fun v => bindName env y v, fun v => bindName env x v] [t, u]) _ _ _
  exact S_two S2 hy hx (rt.mono (Keeps.le k2).o) (ru.mono (Keeps.le k2).o) (fun _ _ h => wpAny_bindName h) (fun _ _ h => wpAny_bindName h) fun s' S' => ⟨rfl, k s' S'⟩

theorem x_tup3 {x y z : Str} {px py pz tp pos : Pos} {kk : Nat} {e : Expr} {d₁ d₂ d₃ : D} (hh : A.handled = none) (S : St w β env W Γ s) (he : Ev w A env Γ e (.fro (.tup [d₁, d₂, d₃]))) (hx : Stored env x) (hy : Stored env y) (hz : Stored env z)
    (k : ∀ s', St w β env W ((z, .fro d₃) :: (y, .fro d₂) :: (x, .fro d₁) :: Γ) s' → wpAny (M w) A (execs rest env) Q E s')
    (hs : swapsWithSole [.Tuple [.Name x px, .Name y py, .Name z pz] kk tp] e pos.line env = pure false := by rfl)
    (hw : swappedStores [.Tuple [.Name x px, .Name y py, .Name z pz] kk tp] e env = pure none := by with_unfolding_all rfl) :
    wpAny (M w) A (execs (.Assign [.Tuple [.Name x px, .Name y py, .Name z pz] kk tp] e pos :: rest) env) Q E s := by
  refine x_next (Assign_Tuple ?_ hs hw)
  refine he β W s _ E S fun v s₁ k₁ r => ?_
  obtain ⟨a, vs, rfl, ha, ht, rr⟩ := r.tup
  obtain ⟨u, r1, rfl, ru, r2⟩ := rr.cons_inv
  obtain ⟨t, r3, rfl, rt, r4⟩ := r2.cons_inv
  obtain ⟨o, r5, rfl, ro, r6⟩ := r4.cons_inv
  rw [r6.nil_inv] at ht
  refine wpAny_assign_Tuple hh ht rfl rfl fun h₁ he₁ => ?_
  have k2 : Keeps s₁ { s₁ with heap := h₁ } := ⟨h₁, s₁.toks, rfl, fun c o e => he₁ c o (Nat.ne_of_lt (Heap.lt_size e)) e⟩
  have S2 := (S.le k₁).le k2
  show wpAny _ _ (assignInOrder [assign (.Name x px) env, assign (.Name y py) env, assign (.Name z pz) env] [u, t, o]) _ _ _
  refine assignInOrder_cons ?_
  refine wpAny_assign_Name ?_
  refine S2.here.storeB (b := .fro d₁) hx (Rep.b (ru.mono (Keeps.le k2).o)) (fun ds a e => by cases e) fun s₂ S₂ => ?_
  have kk : LeO (W ++ β.V) s₁.heap s₂.heap := fun b o hb e => S₂.k1 b o (fun m => hb (List.mem_append_left _ m)) (Keeps.le k2 _ _ e)
  exact S_two (S2.back S₂) hy hz (rt.mono kk) (ro.mono kk) (fun _ _ h => wpAny_assign_Name h) (fun _ _ h => wpAny_assign_Name h) fun s' S' => ⟨rfl, k s' S'⟩

theorem St.takeV {b : Addr} (S : St w { β with V := b :: β.V } env W Γ s) (h0 : β.s₀.heap.get? b = none) (h1 : b ∈ β.W₁ ∨ β.s₁.heap.get? b = none) (hV : b ∉ β.V) : St w β env (b :: W) Γ s := by
  have kk : ∀ u ∈ (b :: W) ++ β.V, u ∈ W ++ (b :: β.V) := fun u m => by
    rcases List.mem_cons.mp m with rfl | m
    · exact List.mem_append_right _ (.head _)
    · rcases List.mem_append.mp m with m | m
      · exact List.mem_append_left _ m
      · exact List.mem_append_right _ (List.mem_cons_of_mem _ m)
  refine ⟨S.G, S.kf, S.glob, S.blt, S.kp, S.mv, S.k1, fun u m => ?_, fun u m => ?_, fun u m => S.dom u (kk u m), fun u m h => ?_, S.d1, List.mem_cons_of_mem _ S.lu, fun n c e => List.mem_cons_of_mem _ (S.cu n c e), S.apart, S.ns, S.cx, ⟨fun y d e => ?_, S.ty.sep⟩⟩
  · rcases List.mem_cons.mp m with rfl | m
    · exact h0
    · exact S.w0 u m
  · rcases List.mem_cons.mp m with rfl | m
    · exact h1
    · exact S.w1 u m
  · rcases List.mem_cons.mp m with rfl | m
    · exact hV h
    · exact S.dj u m (List.mem_cons_of_mem _ h)
  · obtain ⟨v, l, r⟩ := S.ty.val y d e
    refine ⟨v, l, ?_⟩
    cases d with
    | fro d => exact Rep.weaken kk r
    | own ds =>
      obtain ⟨a', vs, rfl, ha', hp, q⟩ := r
      exact ⟨a', vs, rfl, List.mem_cons_of_mem _ ha', hp, q.weaken kk⟩

/-- a list, a list and a frozen value, under three names -/
theorem x_tup3N {x y z : Str} {px py pz tp ep pos : Pos} {kk k₂ : Nat} {e₁ e₂ e₃ : Expr} {ds es : List D} {d : D} (hh : A.handled = none) (S : St w β env W Γ s) (h₁ : EvN w A env Γ e₁ ds) (h₂ : EvN w A env Γ e₂ es) (h₃ : Ev w A env Γ e₃ (.fro d)) (hx : Stored env x) (hy : Stored env y) (hz : Stored env z)
    (k : ∀ a b s', St w β env (b :: a :: W) ((z, .fro d) :: (y, .own es) :: (x, .own ds) :: Γ) s' → wpAny (M w) A (execs rest env) Q E s')
    (hs1 : starEach [e₁, e₂, e₃] env = (false, eval e₁ env) :: starEach [e₂, e₃] env := by rfl) (hs2 : starEach [e₂, e₃] env = (false, eval e₂ env) :: starEach [e₃] env := by rfl) (hs3 : starEach [e₃] env = [(false, eval e₃ env)] := by rfl)
    (hs : swapsWithSole [.Tuple [.Name x px, .Name y py, .Name z pz] kk tp] (.Tuple [e₁, e₂, e₃] k₂ ep) pos.line env = pure false := by rfl)
    (hw : swappedStores [.Tuple [.Name x px, .Name y py, .Name z pz] kk tp] (.Tuple [e₁, e₂, e₃] k₂ ep) env = pure none := by with_unfolding_all rfl) :
    wpAny (M w) A (execs (.Assign [.Tuple [.Name x px, .Name y py, .Name z pz] kk tp] (.Tuple [e₁, e₂, e₃] k₂ ep) pos :: rest) env) Q E s := by
  refine x_next (Assign_Tuple ?_ hs hw)
  refine Tuple_ ?_
  refine args_cons (rest := [e₂, e₃]) ?_ hs1
  refine h₁ β W s _ E S fun a vs s₁ k₁ n₁ l₁ r₁ => ?_
  have S1 := S.adopt k₁ n₁ (let ⟨n, e⟩ := l₁; ⟨_, e⟩)
  refine args_cons (rest := [e₃]) ?_ hs2
  refine h₂ β (a :: W) s₁ _ E S1 fun b us s₂ k₂ n₂ l₂ r₂ => ?_
  have S2 := S1.adopt k₂ n₂ (let ⟨n, e⟩ := l₂; ⟨_, e⟩)
  refine args_cons (rest := []) ?_ hs3
  refine h₃ β (b :: a :: W) s₂ _ E S2 fun v s₃ k₃ r₃ => ?_
  refine args_nil ?_
  have S3 := S2.le k₃
  refine wpAny_newObj_type ?_ (by show 3 ≤ sizeLine; rw [sizeLine_eq]; omega)
  refine wpAny_assign_Tuple (items := #[.ref a, .ref b, v]) hh ⟨_, Heap.get?_push_size _ rfl, rfl, _, rfl⟩ rfl rfl fun h₄ he₄ => ?_
  have k4 : Keeps s₃ { s₃ with heap := h₄ } := ⟨h₄, s₃.toks, rfl, fun c o e => he₄ c o (Nat.ne_of_lt (Heap.lt_size (Heap.get?_push_of_some _ e))) (Heap.get?_push_of_some _ e)⟩
  have k04 : Keeps s { s₃ with heap := h₄ } := Keeps.trans' k₁ (Keeps.trans' k₂ (Keeps.trans' k₃ k4))
  have nb : s.heap.get? b = none := none_back k₁ n₂
  have kl : Le s₁.heap h₄ := fun b o e => Keeps.le k4 _ _ (Keeps.le k₃ _ _ (Keeps.le k₂ _ _ e))
  have k24 : Le s₂.heap h₄ := fun b o e => Keeps.le k4 _ _ (Keeps.le k₃ _ _ e)
  have L1 : h₄.PlainList a vs.toArray := l₁.at fun o e => kl _ o e
  have L2 : h₄.PlainList b us.toArray := l₂.at fun o e => k24 _ o e
  have hab : a ≠ b := fun q => by obtain ⟨n, e⟩ := l₁; rw [q, n₂] at e; cases e
  have R1 : RepL h₄ ((b :: a :: W) ++ β.V) ds vs := (r₁.fresh (V := (b :: a :: W) ++ β.V) fun u m => by
    rcases List.mem_cons.mp m with rfl | m
    · exact .inr n₂
    · exact .inl m).mono kl.o
  have R2 : RepL h₄ ((b :: a :: W) ++ β.V) es us := r₂.mono k24.o
  have R3 : Rep h₄ ((b :: a :: W) ++ β.V) d v := r₃.frz.mono (Keeps.le k4).o
  -- no other name holds either of the two lists
  have off : ∀ c, s.heap.get? c = none → ∀ (y : Str) (fs : List D), Γ.get y = some (.own fs) → look env h₄ y ≠ some (.ref c) := fun c hc y fs e l => by
    obtain ⟨u, l', r'⟩ := S.ty.val y _ e
    have := look_le (fun b o e => kl _ _ (Keeps.le k₁ _ _ e)) l'
    rw [l] at this; cases this
    obtain ⟨a', us, e3, ha', _⟩ := r'
    cases e3
    exact none_of_dom S.dom hc (List.mem_append_left _ ha')
  show wpAny _ _ (assignInOrder [assign (.Name x px) env, assign (.Name y py) env, assign (.Name z pz) env] [.ref a, .ref b, v]) _ _ _
  have S4 := S.grow k04 [a] [b] (fun u m => by
    rw [List.mem_singleton.mp m]
    exact ⟨n₁, let ⟨n, e⟩ := L1; ⟨_, e⟩, fun q => hab (List.mem_singleton.mp q)⟩) (fun u m => by
    rw [List.mem_singleton.mp m]
    exact ⟨nb, let ⟨n, e⟩ := L2; ⟨_, e⟩⟩)
  have sw : ∀ u, u ∈ (a :: W) ++ (b :: β.V) → u ∈ (b :: a :: W) ++ β.V := fun u m => by
    rcases List.mem_append.mp m with m | m
    · exact .tail _ (List.mem_append_left _ m)
    · rcases List.mem_cons.mp m with rfl | m
      · exact .head _
      · exact .tail _ (List.mem_append_right _ m)
  have nW : ∀ c, s.heap.get? c = none → c ∉ W ++ β.V := fun c h => none_of_dom S.dom h
  refine assignInOrder_cons ?_
  refine wpAny_assign_Name ?_
  refine S4.here.storeB (b := .own ds) hx ⟨a, vs, rfl, .head _, L1, R1.weaken sw⟩ (fun es' a' e1 e2 y' fs hy' e l => ?_) fun s₅ S₅ => ?_
  · cases e2; exact off _ n₁ y' fs e l
  have hbW : b ∉ a :: W := fun m => by
    rcases List.mem_cons.mp m with q | m
    · exact hab q.symm
    · exact nW b nb (List.mem_append_left _ m)
  have haV : ∀ u, u ∈ (b :: a :: W) ++ β.V → u ∈ (a :: W) ++ (b :: β.V) := fun u m => by
    rcases List.mem_cons.mp m with rfl | m
    · exact List.mem_append_right _ (.head _)
    · rcases List.mem_append.mp m with m | m
      · exact List.mem_append_left _ m
      · exact List.mem_append_right _ (.tail _ m)
  have k45 : LeO ((b :: a :: W) ++ β.V) h₄ s₅.heap := fun c o hc e => S₅.k1 c o (fun m => hc (.tail _ (List.mem_append_left _ m))) e
  have L2' : s₅.heap.PlainList b us.toArray := L2.at fun o e => S₅.k1 b o hbW e
  obtain ⟨hn1, hnW1⟩ := none_in (U := []) S.k1 S.d1 nb
  have S5 : St w β env (b :: a :: W) ((x, .own ds) :: Γ) s₅ := (show St w { β with V := b :: β.V } env (a :: W) ((x, .own ds) :: Γ) s₅ from S4.back S₅).takeV (none_back S.kp nb) (.inr hn1) (fun m => nW b nb (List.mem_append_right _ m))
  refine assignInOrder_cons ?_
  refine wpAny_assign_Name ?_
  refine S5.here.storeB (b := .own es) hy ⟨b, us, rfl, .head _, L2', R2.mono k45⟩ (fun es' a' e1 e2 y' fs hy' e l => ?_) fun s₆ S₆ => ?_
  · cases e2
    by_cases hxy : y' = x
    · subst hxy
      obtain ⟨u, l', r'⟩ := S₅.ty.val y' _ get_cons_eq
      rw [l] at l'; cases l'
      obtain ⟨a', us', e3, ha', _⟩ := r'
      cases e3
      exact hbW ha'
    · rw [get_cons_ne hxy] at e
      obtain ⟨u, l', r'⟩ := S₅.ty.val y' _ ((get_cons_ne hxy).trans e)
      rw [l] at l'; cases l'
      obtain ⟨a', us', e3, ha', _⟩ := r'
      cases e3
      exact hbW ha'
  refine assignInOrder_cons ?_
  refine wpAny_assign_Name ?_
  refine (S5.back S₆).storeB (b := .fro d) hz (Rep.b ((R3.mono k45).mono fun c o hc e => S₆.k1 c o (fun m => hc (List.mem_append_left _ m)) e)) (fun ds a e => by cases e) fun s₇ S₇ => ?_
  exact assignInOrder_nil ⟨rfl, k a b s₇ S₇⟩

/-! ### places of a list -/
theorem St.setsub {x : Str} {px xp : Pos} {i : Expr} {ds : List D} {d : D} {k : Int} {v : Value} {Q : Unit → Shared → Prop} (S : St w β env W Γ s) (rv : Rep s.heap (W ++ β.V) d v) (hx : Γ.get x = some (.own ds)) (hkx : Kind env x) (hdx : (x == ("__debug__" : Str)) = false)
    (hi : Ev w A env Γ i (.fro (.int k))) (h0 : 0 ≤ k) (h1 : k < ds.length) (hz : ds.length ≤ 1000)
    (q : ∀ s', St w β env W ((x, .own (ds.set k.toNat d)) :: Γ) s' → Q () s') : wpAny (M w) A (assign (.Subscript (.Name x px) i xp) env v) Q E s := by
  rw [assign_Subscript]
  refine wpAny_bind (wpAny_holding ?_)
  refine wpAny_Name ?_ hdx
  refine S.name hx hkx fun v' l r => ?_
  refine wpAny_bind (wpAny_holding ?_)
  refine hi β W s _ E S fun j s₂ k₂ r₂ => ?_
  have S2 := S.le k₂
  obtain ⟨a, vs, rfl, ha, ⟨n, hp⟩, rr⟩ := r
  obtain ⟨t, rfl⟩ := r₂.int
  have e : vs.length = ds.length := rr.length
  have hp2 := Keeps.le k₂ _ _ hp
  refine wpAny_bind (wpAny_standAt ?_)
  refine wpAny_bind (wpAny_holding ?_)
  refine ki_setAt (items := vs.toArray) (n := n) hp2 h0 (by omega) (by rw [List.size_toArray]; omega) ?_
  have e2 : vs.toArray.setIfInBounds k.toNat v = (vs.set k.toNat v).toArray := by simp
  have up : (s₂.heap.update a (Obj.mapSeq fun x => x.setIfInBounds k.toNat v)).PlainList a (vs.set k.toNat v).toArray := by
    refine ⟨n, ?_⟩
    rw [Heap.get?_update_self _ hp2 rfl]
    simp [Obj.mapSeq]
  refine wpAny_release ?_
  exact q _ (S2.mutate (s' := { s₂ with heap := s₂.heap.update a (Obj.mapSeq fun x => x.setIfInBounds k.toNat v) }) hx (look_le (Keeps.le k₂) l) ⟨_, s₂.toks, rfl⟩ (Heap.SameBut.update ..) up
    ((rr.mono (Keeps.le k₂).o).set _ (rv.mono ((Keeps.le k₂).o))))

/-- two places of one list, exchanged -/
theorem x_swap {x : Str} {px₁ px₂ xp₁ xp₂ tp pos : Pos} {kk : Nat} {i₁ i₂ e : Expr} {ds : List D} {d₁ d₂ : D} {j₁ j₂ : Int} (hh : A.handled = none) (S : St w β env W Γ s) (he : Ev w A env Γ e (.fro (.tup [d₁, d₂]))) (hx : Γ.get x = some (.own ds)) (hkx : Kind env x) (hdx : (x == ("__debug__" : Str)) = false)
    (h₁ : Ev w A env Γ i₁ (.fro (.int j₁))) (h₂ : ∀ b, Ev w A env ((x, b) :: Γ) i₂ (.fro (.int j₂))) (l1 : 0 ≤ j₁) (m1 : j₁ < ds.length) (l2 : 0 ≤ j₂) (m2 : j₂ < ds.length) (hz : ds.length ≤ 1000)
    (k : ∀ s', St w β env W ((x, .own ((ds.set j₁.toNat d₁).set j₂.toNat d₂)) :: (x, .own (ds.set j₁.toNat d₁)) :: Γ) s' → wpAny (M w) A (execs rest env) Q E s')
    (hs : swapsWithSole [.Tuple [.Subscript (.Name x px₁) i₁ xp₁, .Subscript (.Name x px₂) i₂ xp₂] kk tp] e pos.line env = pure false := by rfl)
    (hw : swappedStores [.Tuple [.Subscript (.Name x px₁) i₁ xp₁, .Subscript (.Name x px₂) i₂ xp₂] kk tp] e env = pure none := by with_unfolding_all rfl) :
    wpAny (M w) A (execs (.Assign [.Tuple [.Subscript (.Name x px₁) i₁ xp₁, .Subscript (.Name x px₂) i₂ xp₂] kk tp] e pos :: rest) env) Q E s := by
  refine x_next (Assign_Tuple ?_ hs hw)
  refine he β W s _ E S fun v s₁ k₁ r => ?_
  obtain ⟨a, vs, rfl, ha, ht, rr⟩ := r.tup
  obtain ⟨u, r1, rfl, ru, r2⟩ := rr.cons_inv
  obtain ⟨t, r3, rfl, rt, r4⟩ := r2.cons_inv
  rw [r4.nil_inv] at ht
  refine wpAny_assign_Tuple hh ht rfl rfl fun h₁' he₁ => ?_
  have k2 : Keeps s₁ { s₁ with heap := h₁' } := ⟨h₁', s₁.toks, rfl, fun c o e => he₁ c o (Nat.ne_of_lt (Heap.lt_size e)) e⟩
  have S2 := (S.le k₁).le k2
  show wpAny _ _ (assignInOrder [assign (.Subscript (.Name x px₁) i₁ xp₁) env, assign (.Subscript (.Name x px₂) i₂ xp₂) env] [u, t]) _ _ _
  refine assignInOrder_cons ?_
  refine S2.here.setsub (ru.mono (Keeps.le k2).o) hx hkx hdx h₁ l1 m1 hz fun s₂ S₂ => ?_
  have kk : LeO (W ++ β.V) s₁.heap s₂.heap := fun b o hb e => S₂.k1 b o (fun m => hb (List.mem_append_left _ m)) (Keeps.le k2 _ _ e)
  refine assignInOrder_cons ?_
  refine (S2.back S₂).setsub (rt.mono kk) get_cons_eq hkx hdx (h₂ _) l2 (by rw [List.length_set]; exact m2) (by rw [List.length_set]; exact hz) fun s₃ S₃ => ?_
  exact assignInOrder_nil ⟨rfl, k s₃ S₃⟩
end
end Mine

/-! ## part M11 -/
namespace Mine
open PySem PySem.W PyProof.Rows PySem.Calls

section
variable {w : World} {A : Around} {env : Env} {Γ : Gm} {β : Bs} {s s' : Shared} {E : Value → Shared → Prop} {rest : List Stmt} {Q : Flow → Shared → Prop}

theorem bindL_not {kindOf : Str → Option NameKind} {x : Str} : ∀ (l : List (Str × Value)) (m : Str → Option Value), (∀ p ∈ l, p.1 ≠ x) → bindL kindOf l m x = m x
  | [], _, _ => rfl
  | (n, v) :: r, m, h => by
    show bindL kindOf r _ x = _
    rw [bindL_not r _ fun p hp => h p (List.mem_cons_of_mem _ hp)]
    have hn : x ≠ n := fun e => h (n, v) (.head _) e.symm
    split
    · exact if_neg hn
    · rfl
theorem bindC_not {kindOf : Str → Option NameKind} {x : Str} : ∀ (l : List (Str × Value)) (m : Str → Option Value), (∀ p ∈ l, p.1 ≠ x) → bindC kindOf l m x = m x
  | [], _, _ => rfl
  | (n, v) :: r, m, h => by
    show bindC kindOf r _ x = _
    rw [bindC_not r _ fun p hp => h p (List.mem_cons_of_mem _ hp)]
    have hn : x ≠ n := fun e => h (n, v) (.head _) e.symm
    split
    · rfl
    · exact if_neg hn
theorem args_get {h : Heap} {U : List Addr} {kindOf : Str → Option NameKind} {x : Str} {b : B} : ∀ (ps : List Str) (ds : List D) (vs : List Value), RepL h U ds vs → ps.Nodup → Gm.get (ps.zip (ds.map B.fro)) x = some b →
    ∃ d v, b = .fro d ∧ Rep h U d v ∧ ∀ m, (kindOf x = some .local → bindL kindOf (ps.zip vs) m x = some v) ∧ (kindOf x ≠ some .local → bindC kindOf (ps.zip vs) m x = some v)
  | [], _, _, _, _, e => by cases e
  | p :: ps, [], _, _, _, e => by cases e
  | p :: ps, d :: ds, vs, r, nd, e => by
    obtain ⟨v, vs, rfl, rv, rr⟩ := r.cons_inv
    have hnp := (List.nodup_cons.mp nd).1
    have e : (match x == p with | true => some (B.fro d) | false => Gm.get (ps.zip (ds.map B.fro)) x) = some b := e
    cases hb : x == p with
    | true =>
      rw [hb] at e; cases e
      have hx := beq_iff_eq.mp hb
      subst hx
      have off : ∀ q ∈ ps.zip vs, q.1 ≠ x := fun q hq e => hnp (e ▸ (List.of_mem_zip hq).1)
      refine ⟨d, v, rfl, rv, fun m => ⟨fun hk => ?_, fun hk => ?_⟩⟩
      · show bindL kindOf (ps.zip vs) _ x = _
        rw [bindL_not _ _ off, if_pos hk]; exact if_pos rfl
      · show bindC kindOf (ps.zip vs) _ x = _
        rw [bindC_not _ _ off, if_neg hk]; exact if_pos rfl
    | false =>
      rw [hb] at e
      obtain ⟨d', v', e', r', h'⟩ := args_get ps ds vs rr (List.nodup_cons.mp nd).2 e
      exact ⟨d', v', e', r', fun m => ⟨fun hk => (h' _).1 hk, fun hk => (h' _).2 hk⟩⟩
theorem apart_of {cs : List (Str × Addr)} (hp : cs.Pairwise fun x y => x.2 ≠ y.2) : ∀ n n' c, cs.lookup n = some c → cs.lookup n' = some c → n = n' := by
  intro n n' c e e'
  exact name_of_addr hp (mem_of_lookup e) (mem_of_lookup e')

theorem cells_some {x : Str} : ∀ (names : List (Str × NameKind)) (n : Nat) (acc : List (Str × Addr)), ((x, NameKind.cell) ∈ names ∨ (acc.lookup x).isSome = true) → ((cellsFrom n names acc).lookup x).isSome = true
  | [], n, acc, h => by
    rcases h with h | h
    · cases h
    · exact h
  | (y, k) :: r, n, acc, h => by
    show ((if (k == .cell) = true then cellsFrom (n + 1) r ((y, n) :: acc) else cellsFrom n r acc).lookup x).isSome = true
    by_cases hk : (k == .cell) = true
    · rw [if_pos hk]
      refine cells_some r _ _ ?_
      rcases h with h | h
      · rcases List.mem_cons.mp h with e | h
        · cases e; right; simp
        · exact .inl h
      · right
        rw [List.lookup_cons]
        cases x == y with
        | true => rfl
        | false => exact h
    · rw [if_neg hk]
      refine cells_some r _ _ ?_
      rcases h with h | h
      · rcases List.mem_cons.mp h with e | h
        · cases e; exact absurd rfl hk
        · exact .inl h
      · exact .inr h
/-- a call of a function of the text's -/
theorem fn_call {f : Addr} {oc : Value} {od : Option Addr} {osl : Array (Option Value)} {fd : FuncData} {body : List Stmt} {ps : List Str} {ds : List D} {d : D}
    (ho : (hd.heap_39 w.params).lookup f = some ⟨oc, od, .func fd, osl⟩) (hcd : codeIn (hd.heap_39 w.params) fd.code fd.qualname = true) (hr : A.depth < 1000)
    (hbind : ∀ vs : List Value, vs.length = ps.length → bindArgs fd ⟨vs, []⟩ = pure (ps.zip vs)) (hlen : ps.length = ds.length)
    (hkind' : ∀ x ∈ ps, fd.scope.names.lookup x = some .local ∨ fd.scope.names.lookup x = some .cell)
    (walk : ∀ (L : Addr) (β : Bs) (W : List Addr) (s : Shared) (Q : Flow → Shared → Prop) (E : Value → Shared → Prop), St w β (callEnvC fd L f) W (ps.zip (ds.map B.fro)) s →
      (∀ v W' Γ' s', St w β (callEnvC fd L f) W' Γ' s' → RepB s'.heap W' β.V (.fro d) v → Q (.ret v) s') → wpAny (M w) (A.deeper (callEnvC fd L f)) (execs body (callEnvC fd L f)) Q E s)
    (hbody : fd.body = .stmts body := by with_unfolding_all rfl) (hnd : ps.Nodup := by decide) (hclo : fd.closure = [] := by rfl) (hg : fd.globals = mainGlobals := by rfl) (hbl : fd.builtins = builtinsNs := by rfl)
    (hco : fd.scope.isCoroutine = false := by rfl) (hgen : fd.scope.isGenerator = false := by rfl) (hk : fd.scope.kind = .function := by rfl) :
    CallB w A (.ref f) (ds.map B.fro) (.fro d) := by
  intro W V s vs Q E G dm r q
  have rr : RepL s.heap (W ++ V) ds vs := r.frz
  have hkind : ∀ n, ∀ x ∈ ps, fd.scope.names.lookup x = some .local ∨ (fd.scope.names.lookup x = some .cell ∧ ((cellsFrom n fd.scope.names []).lookup x).isSome = true) := fun n x hx => by
    rcases hkind' x hx with h | h
    · exact .inl h
    · exact .inr ⟨h, cells_some _ _ _ (.inl (mem_of_lookup h))⟩
  refine wpAny_call ?_
  refine codeAny_call_cells (binds := ps.zip vs) hr (G.X _ _ ho) rfl G.nolimit (codeRec_of G.X hcd) hbody (hbind vs (by rw [rr.length, hlen])) hclo (fun x hx => hkind _ x.1 (List.of_mem_zip hx).1) (fun s₁ I => ?_) hco hgen hk
  obtain ⟨h₁, tk, e₁, hk₁⟩ := I.done
  have kp : Keeps s s₁ := ⟨h₁, tk, e₁, hk₁⟩
  have hL : (callEnvC fd s.heap.objs.size f).locals = s.heap.objs.size := rfl
  have nL : s.heap.get? s.heap.objs.size = none := size_none _
  generalize hcs : (callEnvC fd s.heap.objs.size f).cells = cs at I
  obtain ⟨Wc, hWc⟩ : ∃ Wc : List Addr, ∀ u, u ∈ Wc ↔ ∃ n, (n, u) ∈ cs ∧ cs.lookup n = some u := ⟨cs.filterMap fun p => if cs.lookup p.1 = some p.2 then some p.2 else none, fun u => by
    rw [List.mem_filterMap]
    constructor
    · rintro ⟨p, hp, e⟩
      split at e
      · cases e; exact ⟨p.1, hp, by assumption⟩
      · cases e
    · rintro ⟨n, hp, e⟩
      exact ⟨(n, u), hp, if_pos e⟩⟩
  have nc : ∀ c ∈ Wc, s.heap.get? c = none := fun c hc => by
    obtain ⟨n, hp, _⟩ := (hWc c).mp hc
    exact Heap.get?_none_of_le (Nat.le_of_lt (I.above _ _ hp))
  have nW : ∀ u ∈ s.heap.objs.size :: Wc, s.heap.get? u = none := fun u m => by
    rcases List.mem_cons.mp m with rfl | m
    · exact nL
    · exact nc u m
  have xW : ∀ u ∈ s.heap.objs.size :: Wc, ∃ o, s₁.heap.get? u = some o := fun u m => by
    rcases List.mem_cons.mp m with rfl | m
    · obtain ⟨o, _, _, e, _⟩ := I.toInCall.ns; exact ⟨o, e⟩
    · obtain ⟨n, hp, e⟩ := (hWc u).mp m
      obtain ⟨o, e', _⟩ := I.cell n u e
      exact ⟨o, e'⟩
  have kk : ∀ u ∈ (s.heap.objs.size :: Wc) ++ (W ++ V), u ∈ W ++ V ∨ s.heap.get? u = none := fun u m => by
    rcases List.mem_append.mp m with m | m
    · exact .inr (nW u m)
    · exact .inl m
  have r1 := (rr.fresh kk).mono (Keeps.le kp).o
  have noown : ∀ x es, Gm.get (ps.zip (ds.map B.fro)) x ≠ some (.own es) := fun x es e => by
    obtain ⟨d', v', e', _⟩ := args_get (kindOf := fun _ => none) ps ds vs rr hnd e
    cases e'
  refine walk s.heap.objs.size ⟨s, s₁, s.heap.objs.size :: Wc, W ++ V⟩ (s.heap.objs.size :: Wc) s₁ _ _
    ⟨G, hk, hg, hbl, kp, Mv.refl _, fun _ _ _ e => e, nW, fun u m => .inl m, fun u m => ?_, fun u m h => none_of_dom dm (nW u m) h, xW, .head _, fun n c e => ?_, fun n n' c e e' => ?_, ⟨_, I.toInCall.ns⟩, fun n c e => ⟨_, I.cell n c (hcs ▸ e)⟩, ⟨fun x b e => ?_, fun x y ds' es a hne e1 => absurd e1 (noown _ _)⟩⟩
    fun v W' Γ' s' S' rv => ?_
  · rcases List.mem_append.mp m with m | m
    · exact xW u m
    · obtain ⟨o, e⟩ := dm u m; exact ⟨o, Keeps.le kp _ _ e⟩
  · rw [hcs] at e
    exact List.mem_cons_of_mem _ ((hWc c).mpr ⟨n, mem_of_lookup e, e⟩)
  · rw [hcs] at e e'
    exact apart_of I.apart _ _ _ e e'
  · obtain ⟨d', v, rfl, r', h'⟩ := args_get (kindOf := (callEnvC fd s.heap.objs.size f).kindOf) ps ds vs r1 hnd e
    refine ⟨v, ?_, Rep.b r'⟩
    by_cases hl : (callEnvC fd s.heap.objs.size f).kindOf x = some .local
    · rw [look_local I.toInCall.ns hl]
      exact (h' _).1 hl
    · have hx : x ∈ ps := by
        have : ∀ (ps : List Str) (bs : List B) b, Gm.get (ps.zip bs) x = some b → x ∈ ps := fun ps => by
          induction ps with
          | nil => intro bs b e; cases e
          | cons p ps ih =>
            intro bs b e
            cases bs with
            | nil => cases e
            | cons c bs =>
              have e : (match x == p with | true => some c | false => Gm.get (ps.zip bs) x) = some b := e
              cases hb : x == p with
              | true => rw [beq_iff_eq.mp hb]; exact .head _
              | false => rw [hb] at e; exact .tail _ (ih bs b e)
        exact this ps _ _ e
      rcases hkind (s.heap.objs.size + 1) x hx with h | ⟨_, h⟩
      · exact absurd h hl
      · obtain ⟨c, hc⟩ := Option.isSome_iff_exists.mp h
        have hc : (callEnvC fd s.heap.objs.size f).cells.lookup x = some c := hc
        rw [look_cell (I.cell x c (hcs ▸ hc)) hl hc]
        exact (h' _).2 hl
  · exact q v s' S'.kp (Rep.b (rv.frz.weaken fun u m => List.mem_append_right _ m))
end
end Mine

/-! ## part M12 -/
namespace Mine
open PySem PySem.W PyProof.Rows PySem.Calls

section
variable {w : World} {A : Around} {env : Env} {Γ : Gm}

/-- a name, its place found by computing -/
theorem nm {x : Str} {pos : Pos} {b : B} (h : Γ.get x = some b := by rfl) (hk : Kind env x := by first | exact .inl rfl | exact .inr ⟨.inl rfl, rfl⟩ | exact .inr ⟨.inr ⟨rfl, rfl⟩, rfl⟩)
    (hd : (x == ("__debug__" : Str)) = false := by rfl) : Ev w A env Γ (.Name x pos) b := ev_name h hk hd
theorem li {i : Int} {k : Nat} {pos : Pos} : Ev w A env Γ (.Constant (.int i) k pos) (.fro (.int i)) := ev_const

abbrev parts (x y : Int) (m : Int) : List Int := [1, x, y, x * x, x * y, x * x * x].take m.toNat

theorem mul_bound {a b c d : Int} (ha : -c ≤ a ∧ a ≤ c) (hb : -d ≤ b ∧ b ≤ d) : -(c * d) ≤ a * b ∧ a * b ≤ c * d := by
  have h : (a * b).natAbs ≤ c.natAbs * d.natAbs := by
    rw [Int.natAbs_mul]
    exact Nat.mul_le_mul (by omega) (by omega)
  have h2 : (c * d).natAbs = c.natAbs * d.natAbs := Int.natAbs_mul c d
  have h3 : 0 ≤ c * d := Int.mul_nonneg (by omega) (by omega)
  omega

theorem law_parts {x y m : Int} (hh : A.handled = none) (hA : A.depth < 1000) (hx : -100 ≤ x ∧ x ≤ 100) (hy : -100 ≤ y ∧ y ≤ 100) (hm : 0 ≤ m) : CallB w A (.ref 224) ([D.int x, .int y, .int m].map B.fro) (.fro (.lst ((parts x y m).map .int))) := by
  refine fn_call (ps := ["x", "y", "many"]) (by k_is) (by k_is) hA (fun vs h => ?_) rfl (by decide) fun L β W s Q E S q => ?_
  · match vs, h with
    | [a, b, c], _ => with_unfolding_all rfl
  · have h2 := mul_bound hx hx
    refine x_ret (b := .fro (.lst ((parts x y m).map .int))) S (ev_new ?_) fun v s' S' r => q v W _ s' S' r
    rw [List.map_take]
    refine evn_slice (ds := [D.int 1, .int x, .int y, .int (x * x), .int (x * y), .int (x * x * x)]) (ev_new (evn_list ?_ (Nat.le_of_ble_eq_true rfl))) isL_fro part_none (part_some nm) (Nat.le_of_ble_eq_true rfl) (pick_upto hm)
    exact evl_cons li (evl_cons nm (evl_cons nm (evl_cons (ev_bin nm nm (op_mul _ _ (by omega))) (evl_cons (ev_bin nm nm (op_mul _ _ (by omega))) (evl_cons (ev_bin (ev_bin nm nm (op_mul _ _ (by omega))) nm (op_mul _ _ (by omega))) evl_nil)))))
end
end Mine

/-! ## part M13 -/
namespace Mine
open PySem PySem.W PyProof.Rows PySem.Calls

section
variable {w : World} {A : Around} {env : Env} {Γ : Gm}
open Builtin

abbrev fqEs (h1 h2 : Int) (t1 t2 t3 t4 : Nat) (p n : Int) : List DictEntry := [⟨h1, .str (Str.ofString "field_modulus") t1, .int p t2⟩, ⟨h2, .str (Str.ofString "n") t3, .int n t4⟩]
theorem IsFQ.inst {h : Heap} {U : List Addr} {a : Addr} {p n : Int} (x : IsFQ h U a p n) : ∃ d h1 h2 t1 t2 t3 t4 k, InstAt h a (instObj 207 d) 207 (some (dictOf (fqEs h1 h2 t1 t2 t3 t4 p n) k)) := by
  obtain ⟨d, k, t1, t2, t3, t4, h1, h2, _, _, e1, e2⟩ := x
  exact ⟨d, h1, h2, t1, t2, t3, t4, k, e1, rfl, rfl, e2⟩
theorem getL_mod {h1 h2 : Int} {t1 t2 t3 t4 : Nat} {p n : Int} : getL (Str.ofString "field_modulus") (fqEs h1 h2 t1 t2 t3 t4 p n) = some (some (.int p t2)) := by rfl
theorem getL_n {h1 h2 : Int} {t1 t2 t3 t4 : Nat} {p n : Int} : getL (Str.ofString "n") (fqEs h1 h2 t1 t2 t3 t4 p n) = some (some (.int n t4)) := by rfl

theorem attr_mod {U : List Addr} {s : Shared} {a : Addr} {p n : Int} {Q : Value → Shared → Prop} {E : Value → Shared → Prop} (G : GC w s.heap) (x : IsFQ s.heap U a p n) (q : ∀ t, Q (.int p t) { s with toks := s.toks + 1 }) : wpAny (M w) A (getAttr (.ref a) (Str.ofString "field_modulus") true) Q E s := by
  obtain ⟨d, h1, h2, t1, t2, t3, t4, k, I⟩ := x.inst
  exact get_value G.X I (by k_is) (findObj_own (attr := none) (by k_is) (by k_is) (by k_is) (getL_mod (h1 := h1) (h2 := h2) (t1 := t1) (t2 := t2) (t3 := t3) (t4 := t4) (p := p) (n := n))) rfl (q t2)
theorem attr_n {U : List Addr} {s : Shared} {a : Addr} {p n : Int} {Q : Value → Shared → Prop} {E : Value → Shared → Prop} (G : GC w s.heap) (x : IsFQ s.heap U a p n) (q : ∀ t, Q (.int n t) { s with toks := s.toks + 1 }) : wpAny (M w) A (getAttr (.ref a) (Str.ofString "n") true) Q E s := by
  obtain ⟨d, h1, h2, t1, t2, t3, t4, k, I⟩ := x.inst
  exact get_value G.X I (by k_is) (findObj_own (attr := none) (by k_is) (by k_is) (by k_is) (getL_n (h1 := h1) (h2 := h2) (t1 := t1) (t2 := t2) (t3 := t3) (t4 := t4) (p := p) (n := n))) rfl (q t4)
theorem ev_mod {e : Expr} {pos : Pos} {p n : Int} (h : Ev w A env Γ e (.fro (.fq p n)))
    (he : eval (.Attribute e (Str.ofString "field_modulus") pos) env = (do
      let o ← eval e env
      standAt pos.atName
      let r ← holding [o] (getAttr o (Str.ofString "field_modulus") true)
      letTemporaryGo e o r
      pure r) := by rfl) : Ev w A env Γ (.Attribute e (Str.ofString "field_modulus") pos) (.fro (.int p)) := fun β W s Q E S q =>
  Attribute_any_ (h β W s _ E S fun v s₁ k₁ r => by
    obtain ⟨a, rfl, x⟩ := r.fq
    exact attr_mod (S.le k₁).gc x fun t => q _ _ (Keeps.trans' k₁ (Keeps.tok s₁ _)) (RepB.mkInt _ _)) he
theorem ev_n {e : Expr} {pos : Pos} {p n : Int} (h : Ev w A env Γ e (.fro (.fq p n)))
    (he : eval (.Attribute e (Str.ofString "n") pos) env = (do
      let o ← eval e env
      standAt pos.atName
      let r ← holding [o] (getAttr o (Str.ofString "n") true)
      letTemporaryGo e o r
      pure r) := by rfl) : Ev w A env Γ (.Attribute e (Str.ofString "n") pos) (.fro (.int n)) := fun β W s Q E S q =>
  Attribute_any_ (h β W s _ E S fun v s₁ k₁ r => by
    obtain ⟨a, rfl, x⟩ := r.fq
    exact attr_n (S.le k₁).gc x fun t => q _ _ (Keeps.trans' k₁ (Keeps.tok s₁ _)) (RepB.mkInt _ _)) he

theorem ev_gl {x : Str} {pos : Pos} {f : Value} (hg : GlobV w x f) (hx : env.kindOf x = some .globalImplicit := by rfl) (hd : (x == ("__debug__" : Str)) = false := by rfl) : Ev w A env Γ (.Name x pos) (.fro (.val f)) := fun β W s Q E S q =>
  ev_glob hg hx hd S (q f s (Keeps.rfl' s) (Rep.b (Rep.mkVal f)))

theorem isi_fq {p n : Int} : CallB w A (.builtin "isinstance") [.fro (.fq p n), .fro (.val (.ref 207))] (.fro (.bool true)) := by
  intro W V s vs Q E G dm r q
  obtain ⟨v, u, rfl, h1, h2⟩ := r.two
  obtain rfl := h2.val
  obtain ⟨a, rfl, x⟩ := h1.fq
  obtain ⟨d, h1, h2, t1, t2, t3, t4, k, I⟩ := x.inst
  exact isi_call G.X (fun M => I.type) (by k_is) (by intro e; cases e) (q _ s (Keeps.rfl' s) (RepB.mkBool _))
theorem isi_int_fq {n : Int} : CallB w A (.builtin "isinstance") [.fro (.int n), .fro (.val (.ref 207))] (.fro (.bool false)) := by
  intro W V s vs Q E G dm r q
  obtain ⟨v, u, rfl, h1, h2⟩ := r.two
  obtain rfl := h2.val
  obtain ⟨t, rfl⟩ := h1.int
  exact isn_call (P := fun _ => True) G.X (fun M => Looks.of_pure rfl) (by k_not) (by intro e; cases e) trivial int_cls (q _ _ (Keeps.tok s _) (RepB.mkBool _))
theorem isi_int {n : Int} : CallB w A (.builtin "isinstance") [.fro (.int n), .fro (.val (.type "int"))] (.fro (.bool true)) := by
  intro W V s vs Q E G dm r q
  obtain ⟨v, u, rfl, h1, h2⟩ := r.two
  obtain rfl := h2.val
  obtain ⟨t, rfl⟩ := h1.int
  exact call_isinstance_yes (typeIs_int s n t) PySem.F.isi_meta_int PySem.F.isi_self_int (q _ s (Keeps.rfl' s) (RepB.mkBool _))
theorem evt_of {e : Expr} {b : Bool} (h : Ev w A env Γ e (.fro (.bool b))) (he : ∀ whole, isTrue e env whole = (do let v ← whole; standAt e.pos; holding [v] (truthy v)) := by intro _; rfl) : EvT w A env Γ e b := fun β W s Q E S q => by
  refine isTrue_plain ?_ (he _)
  refine h β W s _ E S fun v s₁ k₁ r => ?_
  obtain rfl := r.bool
  exact wpAny_truthy_bool (q s₁ k₁)

theorem ev_meth0 {e : Expr} {name : Str} {ap pos : Pos} {f : Addr} {p n : Int} {b : B} (h : Ev w A env Γ e (.fro (.fq p n))) (hk : keepIn (hd.heap_39 w.params) (.ref f) = true) (hf : findIn (hd.heap_39 w.params) (.ref 207) name = some (some (.ref f))) (ht : typeIn (hd.heap_39 w.params) (.ref f) = some (.type "function"))
    (hs : ∀ h1 h2 t1 t2 t3 t4, getL name (fqEs h1 h2 t1 t2 t3 t4 p n) = some none)
    (hc : CallB w A (.ref f) [.fro (.fq p n)] b) {pl : Sem Bool} (he : eval (.Call (.Attribute e name ap) [] [] pos) env = (do
      let ov ← eval e env
      standAt ap.atName
      let (f, first) ← holding [ov] (getMethod ov name pl)
      callWith pos f first (backTo pos (starEach [] env)) []) := by rfl) : Ev w A env Γ (.Call (.Attribute e name ap) [] [] pos) b := by
  intro β W s Q E S q
  refine MethodCall_ (pl := pl) ?_ he
  refine h β W s _ E S fun v s₁ k₁ r => ?_
  obtain ⟨a, rfl, x⟩ := r.fq
  obtain ⟨d, h1, h2, t1, t2, t3, t4, k, I⟩ := x.inst
  refine method_fn (S.le k₁).gc.X I (by k_is) (by k_is) hf ht ((congrArg (Option.map _) (hs h1 h2 t1 t2 t3 t4)).trans rfl) ?_
  refine callWith_of (P := fun h => (hd.heap_39 w.params).In h) rfl (keeps_K hk) (evalArgs_nil3 ⟨(S.le k₁).gc.X, ?_⟩)
  refine hc W β.V s₁ [.ref a] Q E (S.le k₁).gc (S.le k₁).dom (.cons r .nil) fun v s₂ k₂ r₂ => q v s₂ (Keeps.trans' k₁ k₂) r₂
theorem ev_meth1 {e e' : Expr} {name : Str} {ap pos : Pos} {f : Addr} {p n : Int} {b c : B} (h : Ev w A env Γ e (.fro (.fq p n))) (h' : Ev w A env Γ e' c) (hk : keepIn (hd.heap_39 w.params) (.ref f) = true) (hf : findIn (hd.heap_39 w.params) (.ref 207) name = some (some (.ref f))) (ht : typeIn (hd.heap_39 w.params) (.ref f) = some (.type "function"))
    (hs : ∀ h1 h2 t1 t2 t3 t4, getL name (fqEs h1 h2 t1 t2 t3 t4 p n) = some none)
    (hc : CallB w A (.ref f) [.fro (.fq p n), c] b) (h0 : starEach [e'] env = [(false, eval e' env)] := by rfl) {pl : Sem Bool} (he : eval (.Call (.Attribute e name ap) [e'] [] pos) env = (do
      let ov ← eval e env
      standAt ap.atName
      let (f, first) ← holding [ov] (getMethod ov name pl)
      callWith pos f first (backTo pos (starEach [e'] env)) []) := by rfl) : Ev w A env Γ (.Call (.Attribute e name ap) [e'] [] pos) b := by
  intro β W s Q E S q
  refine MethodCall_ (pl := pl) ?_ he
  refine h β W s _ E S fun v s₁ k₁ r => ?_
  obtain ⟨a, rfl, x⟩ := r.fq
  obtain ⟨d, h1, h2, t1, t2, t3, t4, k, I⟩ := x.inst
  refine method_fn (S.le k₁).gc.X I (by k_is) (by k_is) hf ht ((congrArg (Option.map _) (hs h1 h2 t1 t2 t3 t4)).trans rfl) ?_
  refine callWith_K (S.le k₁).gc.X hk ?_ h0 rfl
  refine args_cons (rest := []) ?_ h0
  refine h' β W s₁ _ E (S.le k₁) fun u s₂ k₂ r₂ => ?_
  refine args_nil ⟨((S.le k₁).le k₂).gc.X, ?_⟩
  refine hc W β.V s₂ [.ref a, u] Q E ((S.le k₁).le k₂).gc ((S.le k₁).le k₂).dom (.cons (r.le (Keeps.le k₂)) (.cons r₂ .nil)) fun v s₃ k₃ r₃ => q v s₃ (Keeps.trans' k₁ (Keeps.trans' k₂ k₃)) r₃
end
end Mine

/-! ## part M14 -/
namespace Mine
open PySem PySem.W PyProof.Rows PySem.Calls

section
variable {w : World} {A : Around} {env : Env} {Γ : Gm}

theorem g_isinstance : GlobV w "isinstance" (.builtin "isinstance") := .inr ⟨by k_is, by kernel_rfl, by decide⟩
theorem g_int : GlobV w "int" (.type "int") := .inr ⟨by k_is, by kernel_rfl, by decide⟩
theorem g_FQ : GlobV w "FQ" (.ref 207) := .inl (by k_is)

theorem st_ofF {base s : Shared} {m : Str → Option Value} {news : List (Addr × Obj)} {V : List Addr} (G : GC w base.heap) (F : Fr base.heap env.locals s.heap m) (N : News base.heap env.locals s.heap news) (hm : Mv base s)
    (hV : ∀ u ∈ V, ∃ o, base.heap.get? u = some o) (hk : env.scope.kind = .function) (hg : env.globals = mainGlobals) (hb : env.builtins = builtinsNs) (hc : env.cells = [])
    (hty : ∀ x b, Γ.get x = some b → env.kindOf x = some .local ∧ ∃ d v, b = .fro d ∧ m x = some v ∧ Rep s.heap ((env.locals :: news.map (·.1)) ++ V) d v) :
    St w ⟨base, s, env.locals :: news.map (·.1), V⟩ env (env.locals :: news.map (·.1)) Γ s := by
  have nL : base.heap.get? env.locals = none := Heap.get?_none_of_le F.above
  have nW : ∀ u ∈ env.locals :: news.map (·.1), base.heap.get? u = none := fun u m => by
    rcases List.mem_cons.mp m with rfl | m
    · exact nL
    · obtain ⟨p, hp, rfl⟩ := List.mem_map.mp m; exact (N p hp).2.2
  have xW : ∀ u ∈ env.locals :: news.map (·.1), ∃ o, s.heap.get? u = some o := fun u m => by
    rcases List.mem_cons.mp m with rfl | m
    · obtain ⟨o, _, _, e, _⟩ := F.ns; exact ⟨o, e⟩
    · obtain ⟨p, hp, rfl⟩ := List.mem_map.mp m; exact ⟨_, (N p hp).1⟩
  refine ⟨G, hk, hg, hb, Keeps.of hm F.keep, Mv.refl _, fun _ _ _ e => e, nW, fun u m => .inl m, fun u m => ?_, fun u m h => none_of_dom hV (nW u m) h, xW, .head _, fun n c e => (by rw [hc] at e; cases e), fun n n' c e => (by rw [hc] at e; cases e), ⟨_, F.ns⟩, fun n c e => (by rw [hc] at e; cases e), ⟨fun x b e => ?_, fun x y ds' es a hne e1 => ?_⟩⟩
  · rcases List.mem_append.mp m with m | m
    · exact xW u m
    · obtain ⟨o, e⟩ := hV u m; exact ⟨o, F.keep _ _ e⟩
  · obtain ⟨hl, d, v, rfl, hv, r⟩ := hty x b e
    exact ⟨v, (look_local F.ns hl).trans hv, Rep.b r⟩
  · obtain ⟨hl, d, v, e, _⟩ := hty x _ e1
    cases e

theorem two_get {x y z : Str} {a b c : B} (e : Gm.get [(x, a), (y, b)] z = some c) : (z = x ∧ c = a) ∨ (z = y ∧ c = b) := by
  by_cases h : z = x
  · subst h; rw [get_cons_eq] at e; cases e; exact .inl ⟨rfl, rfl⟩
  · rw [get_cons_ne h] at e
    by_cases h' : z = y
    · subst h'; rw [get_cons_eq] at e; cases e; exact .inr ⟨rfl, rfl⟩
    · rw [get_cons_ne h'] at e; cases e
theorem two_news {hp h : Heap} {L : Addr} {m : Str → Option Value} {o₁ o₂ : Obj} (F : Fr hp L h m) (hL : hp.objs.size + 2 ≤ L) (e1 : h.get? (hp.objs.size + 1) = some o₁) (e2 : h.get? hp.objs.size = some o₂) : News hp L h [(hp.objs.size + 1, o₁), (hp.objs.size, o₂)] := fun z hz => by
  rcases List.mem_cons.mp hz with rfl | hz
  · exact ⟨e1, Nat.ne_of_lt (by omega), Heap.get?_none_of_le (Nat.le_succ _)⟩
  · rw [List.mem_singleton.mp hz]
    exact ⟨e2, Nat.ne_of_lt (by omega), Heap.get?_none_of_le (Nat.le_refl _)⟩

theorem make_fq {v p : Int} (hp : p ≠ 0) (hh : A.handled = none) (hA : A.depth < 990) : CallB w A (.ref 207) [.fro (.int v), .fro (.int p)] (.fro (.fq p (v.fmod p))) := by
  intro W V s vs Q E G dm r q
  obtain ⟨a, b, rfl, h1, h2⟩ := r.two
  obtain ⟨tv, rfl⟩ := h1.int
  obtain ⟨tp, rfl⟩ := h2.int
  obtain ⟨hp₀, g, dr, tk, os⟩ := s
  refine wpAny_call ?_
  refine make_core (makes_of G.X (by k_is)) (looks_findIn G.X (show findIn (hd.heap_39 w.params) (.ref 207) "__init__" = some (some (.ref 63)) by k_is)) (fun self => bind_fn G.X self (by k_is)) (.inl (by decide)) ?_
  dsimp only at G dm
  have kpush : Le hp₀ ((hp₀.push emptyDict).push (instObj 207 hp₀.objs.size)) := fun b o e => Heap.get?_push_of_some _ (Heap.get?_push_of_some _ e)
  have G0 := G.le kpush
  have hx0 : ((hp₀.push emptyDict).push (instObj 207 hp₀.objs.size)).get? (hp₀.objs.size + 1) = some (instObj 207 hp₀.objs.size) := by
    have := Heap.get?_push_size (hp₀.push emptyDict) (o := instObj 207 hp₀.objs.size) rfl
    rw [Heap.size_push] at this; exact this
  have hd0 : ((hp₀.push emptyDict).push (instObj 207 hp₀.objs.size)).get? hp₀.objs.size = some emptyDict := Heap.get?_push_of_some _ (Heap.get?_push_size _ rfl)
  refine codeAny_call_cells (binds := [("self", .ref (hp₀.objs.size + 1)), ("val", .int v tv), ("field_modulus", .int p tp)]) ?hroom (G0.X _ _ (by k_is)) rfl G0.nolimit (codeRec_of G0.X (by k_is)) rfl (by with_unfolding_all rfl) rfl (fun x hx => .inl (by simp at hx; rcases hx with rfl | rfl | rfl <;> rfl)) (fun s₁ I => ?_) rfl rfl rfl
  case hroom =>
    have hw : (Code.builtin "type.__call__" ⟨[Value.ref 207, Value.int v tv, Value.int p tp], []⟩).weight = 1 := by kernel_rfl
    show A.depth + _ < 1000
    rw [hw]
    omega
  obtain ⟨h₁, tk₁, rfl, hk₁⟩ := I.done
  have hsz : ((hp₀.push emptyDict).push (instObj 207 hp₀.objs.size)).objs.size = hp₀.objs.size + 2 := by rw [Heap.size_push, Heap.size_push]
  have hLsz := Nat.le_trans (Nat.le_of_eq hsz.symm) I.toInCall.fresh
  have F : Fr hp₀ _ h₁ _ := ⟨I.toInCall.ns, fun b o e => hk₁ b o (kpush b o e), Nat.le_trans (Nat.le_add_right _ 2) hLsz⟩
  have N := two_news F hLsz (hk₁ _ _ hx0) (hk₁ _ _ hd0)
  refine wpAny_execs_cons (plainObj_wpAny_Assign_Attribute ?_ rfl)
  refine wpAny_Name (wpAny_loadName_local rfl rfl F.ns rfl ?_) rfl
  refine wpAny_Name (wpAny_loadName_local rfl rfl F.ns rfl ?_) rfl
  have I0 : InstAt h₁ (hp₀.objs.size + 1) (instObj 207 hp₀.objs.size) 207 (some (dictOf [] 0)) := ⟨(N _ (.head _)).1, rfl, rfl, (N _ (.tail _ (.head _))).1⟩
  refine set_dict (K := hd.heap_39 w.params) F G.X N I0 rfl (by k_is) (by k_is) (by k_is) (by k_is) rfl rfl (Upd.tail (Nat.succ_ne_self _) (Upd.head (by simp))) (Nat.le_of_ble_eq_true rfl) fun h₂ F₂ N₂ => ?_
  refine wpAny_execs_cons (wpAny_If ?_)
  have S₂ := fun tk₂ => st_ofF (w := w) (base := ⟨hp₀, g, dr, tk, os⟩) (s := ⟨h₂, g, dr, tk₂, os⟩) (V := W ++ V) (Γ := [("val", .fro (.int v)), ("field_modulus", .fro (.int p))]) G F₂ N₂ ⟨h₂, _, rfl⟩ dm rfl rfl rfl rfl (fun x b e => by
    rcases two_get e with ⟨rfl, rfl⟩ | ⟨rfl, rfl⟩
    · exact ⟨rfl, _, _, rfl, rfl, Rep.mkInt _ _⟩
    · exact ⟨rfl, _, _, rfl, rfl, Rep.mkInt _ _⟩)
  refine (evt_of (ev_call g_isinstance rfl rfl (.inl ⟨_, rfl⟩) (evl_cons nm (evl_cons (ev_gl g_FQ) evl_nil)) isi_int_fq)) _ _ _ _ _ (S₂ _) fun s₃ k₃ => ?_
  rw [if_neg (by decide)]
  refine wpAny_execs_cons (wpAny_If ?_)
  have S₃ := (S₂ _).le k₃
  refine (evt_of (ev_call g_isinstance rfl rfl (.inl ⟨_, rfl⟩) (evl_cons nm (evl_cons (ev_gl g_int) evl_nil)) isi_int)) _ _ _ _ _ S₃ fun s₄ k₄ => ?_
  rw [if_pos rfl]
  obtain ⟨h₄, tk₄, rfl⟩ : ∃ h t, s₄ = ⟨h, g, dr, t, os⟩ := by
    obtain ⟨h, t, e⟩ := (Keeps.mv k₃).trans (Keeps.mv k₄); exact ⟨h, t, e⟩
  have k24 : Le h₂ h₄ := fun b o e => Keeps.le k₄ _ _ (Keeps.le k₃ _ _ e)
  have F₄ := F₂.keeps k24
  have N₄ := N₂.keeps k24
  have I4 : InstAt h₄ (hp₀.objs.size + 1) (instObj 207 hp₀.objs.size) 207 (some (dictOf _ _)) := ⟨(N₄ _ (.head _)).1, rfl, rfl, (N₄ _ (.tail _ (.head _))).1⟩
  refine wpAny_execs_cons (plainObj_wpAny_Assign_Attribute ?_ rfl)
  refine wpAny_BinOp ?_
  refine wpAny_Name (wpAny_loadName_local rfl rfl F₄.ns rfl ?_) rfl
  refine Attribute_any_ ?_ rfl
  refine wpAny_Name (wpAny_loadName_local rfl rfl F₄.ns rfl ?_) rfl
  refine get_value (G.X.keeps F₄.keep) I4 (by k_is) (findObj_own (attr := none) (by k_is) (by k_is) (by k_is) rfl) rfl ?_
  refine PyProof.Rows.mod_int' hp ?_
  refine wpAny_Name (wpAny_loadName_local rfl rfl F₄.ns rfl ?_) rfl
  refine set_dict (K := hd.heap_39 w.params) F₄ G.X N₄ I4 rfl (by k_is) (by k_is) (by k_is) (by k_is) rfl rfl (Upd.tail (Nat.succ_ne_self _) (Upd.head (by simp))) (Nat.le_of_ble_eq_true rfl) fun h₅ F₅ N₅ => ?_
  refine wpAny_execs_nil ?_
  refine wpAny_execs_nil ?_
  refine wpAny_execs_nil ?_
  refine ⟨rfl, ?_⟩
  have nV : ∀ u, hp₀.get? u = none → u ∉ W ++ V := fun u e => none_of_dom dm e
  refine q _ _ (Keeps.of ⟨h₅, _, rfl⟩ F₅.keep) (RepB.mkFq ⟨hp₀.objs.size, _, _, _, _, _, _, _, nV _ (Heap.get?_none_of_le (Nat.le_succ _)), nV _ (Heap.get?_none_of_le (Nat.le_refl _)), (N₅ _ (.head _)).1, (N₅ _ (.tail _ (.head _))).1⟩)
end
end Mine

/-! ## part M15 -/
namespace Mine
open PySem PySem.W PyProof.Rows PySem.Calls

section
variable {w : World} {A : Around} {env : Env} {Γ : Gm}

theorem c_FQ : Callee w (.ref 207) := .inr (.inr (by k_is))
theorem ff (a p : Int) : (a.fmod p).fmod p = a.fmod p := Int.fmod_fmod a p

theorem made_fq {p n v : Int} (hp : p ≠ 0) (hh : A.handled = none) (hA : A.depth < 980) : CallB w A (.ref 190) ([D.fq p n, .int v].map B.fro) (.fro (.fq p (v.fmod p))) := by
  refine fn_call (ps := ["self", "val"]) (by k_is) (by k_is) (by omega) (fun vs h => ?_) rfl (by decide) fun L β W s Q E S q => ?_
  · match vs, h with
    | [a, b], _ => with_unfolding_all rfl
  · exact x_ret S (ev_call g_FQ rfl rfl c_FQ (evl_cons nm (evl_cons (ev_mod nm) evl_nil)) (make_fq hp hh (by show A.depth + 1 < 990; omega))) fun v s' S' r => q v W _ s' S' r

theorem one_fq {p n : Int} (hp : p ≠ 0) (hh : A.handled = none) (hA : A.depth < 970) : CallB w A (.ref 197) ([D.fq p n].map B.fro) (.fro (.fq p ((1 : Int).fmod p))) := by
  refine fn_call (ps := ["self"]) (by k_is) (by k_is) (by omega) (fun vs h => ?_) rfl (by decide) fun L β W s Q E S q => ?_
  · match vs, h with
    | [a], _ => with_unfolding_all rfl
  · exact x_ret S (ev_meth1 (f := 190) nm li (by k_is) (by k_is) (by k_is) (by intro _ _ _ _ _ _; rfl) (made_fq hp hh (by show A.depth + 1 < 980; omega))) fun v s' S' r => q v W _ s' S' r
theorem zero_fq {p n : Int} (hp : p ≠ 0) (hh : A.handled = none) (hA : A.depth < 970) : CallB w A (.ref 204) ([D.fq p n].map B.fro) (.fro (.fq p ((0 : Int).fmod p))) := by
  refine fn_call (ps := ["self"]) (by k_is) (by k_is) (by omega) (fun vs h => ?_) rfl (by decide) fun L β W s Q E S q => ?_
  · match vs, h with
    | [a], _ => with_unfolding_all rfl
  · exact x_ret S (ev_meth1 (f := 190) nm li (by k_is) (by k_is) (by k_is) (by intro _ _ _ _ _ _; rfl) (made_fq hp hh (by show A.depth + 1 < 980; omega))) fun v s' S' r => q v W _ s' S' r

theorem mul_fq {p a b : Int} (hp : p ≠ 0) (ha : -(2 ^ 40) ≤ a ∧ a ≤ 2 ^ 40) (hh : A.handled = none) (hA : A.depth < 970) : CallB w A (.ref 77) ([D.fq p a, .fq p b].map B.fro) (.fro (.fq p ((a * b).fmod p))) := by
  refine fn_call (ps := ["self", "other"]) (by k_is) (by k_is) (by omega) (fun vs h => ?_) rfl (by decide) fun L β W s Q E S q => ?_
  · match vs, h with
    | [a, b], _ => with_unfolding_all rfl
  · refine x_if (b := true) S (evt_of (ev_call g_isinstance rfl rfl (.inl ⟨_, rfl⟩) (evl_cons nm (evl_cons (ev_gl g_FQ) evl_nil)) isi_fq)) fun s₁ S₁ => ?_
    refine x_assign (d := .int b) S₁ (ev_n nm) (.inl rfl) fun s₂ S₂ => ?_
    refine x_nil ?_
    refine x_ret (b := .fro (.fq p ((a * b).fmod p))) S₂ ?_ fun v s' S' r => q v W _ s' S' r
    rw [← ff (a * b) p]
    exact ev_meth1 (f := 190) nm (ev_bin (ev_bin (ev_n nm) nm (op_mul _ _ ha)) (ev_mod nm) (op_mod _ _ hp)) (by k_is) (by k_is) (by k_is) (by intro _ _ _ _ _ _; rfl) (made_fq hp hh (by show A.depth + 1 < 980; omega))
theorem mul_fq_int {p a b : Int} (hp : p ≠ 0) (ha : -(2 ^ 40) ≤ a ∧ a ≤ 2 ^ 40) (hh : A.handled = none) (hA : A.depth < 970) : CallB w A (.ref 77) ([D.fq p a, .int b].map B.fro) (.fro (.fq p ((a * b).fmod p))) := by
  refine fn_call (ps := ["self", "other"]) (by k_is) (by k_is) (by omega) (fun vs h => ?_) rfl (by decide) fun L β W s Q E S q => ?_
  · match vs, h with
    | [a, b], _ => with_unfolding_all rfl
  · refine x_if (b := false) S (evt_of (ev_call g_isinstance rfl rfl (.inl ⟨_, rfl⟩) (evl_cons nm (evl_cons (ev_gl g_FQ) evl_nil)) isi_int_fq)) fun s₁ S₁ => ?_
    refine x_if (b := true) S₁ (evt_of (ev_call g_isinstance rfl rfl (.inl ⟨_, rfl⟩) (evl_cons nm (evl_cons (ev_gl g_int) evl_nil)) isi_int)) fun s₁ S₁ => ?_
    refine x_assign (d := .int b) S₁ nm (.inl rfl) fun s₂ S₂ => ?_
    refine x_nil ?_
    refine x_nil ?_
    refine x_ret (b := .fro (.fq p ((a * b).fmod p))) S₂ ?_ fun v s' S' r => q v W _ s' S' r
    rw [← ff (a * b) p]
    exact ev_meth1 (f := 190) nm (ev_bin (ev_bin (ev_n nm) nm (op_mul _ _ ha)) (ev_mod nm) (op_mod _ _ hp)) (by k_is) (by k_is) (by k_is) (by intro _ _ _ _ _ _; rfl) (made_fq hp hh (by show A.depth + 1 < 980; omega))
theorem sub_fq {p a b : Int} (hp : p ≠ 0) (hh : A.handled = none) (hA : A.depth < 970) : CallB w A (.ref 105) ([D.fq p a, .fq p b].map B.fro) (.fro (.fq p ((a - b).fmod p))) := by
  refine fn_call (ps := ["self", "other"]) (by k_is) (by k_is) (by omega) (fun vs h => ?_) rfl (by decide) fun L β W s Q E S q => ?_
  · match vs, h with
    | [a, b], _ => with_unfolding_all rfl
  · refine x_if (b := true) S (evt_of (ev_call g_isinstance rfl rfl (.inl ⟨_, rfl⟩) (evl_cons nm (evl_cons (ev_gl g_FQ) evl_nil)) isi_fq)) fun s₁ S₁ => ?_
    refine x_assign (d := .int b) S₁ (ev_n nm) (.inl rfl) fun s₂ S₂ => ?_
    refine x_nil ?_
    refine x_ret (b := .fro (.fq p ((a - b).fmod p))) S₂ ?_ fun v s' S' r => q v W _ s' S' r
    rw [← ff (a - b) p]
    exact ev_meth1 (f := 190) nm (ev_bin (ev_bin (ev_n nm) nm (op_sub _ _)) (ev_mod nm) (op_mod _ _ hp)) (by k_is) (by k_is) (by k_is) (by intro _ _ _ _ _ _; rfl) (made_fq hp hh (by show A.depth + 1 < 980; omega))
theorem eq_fq {p a b : Int} (hh : A.handled = none) (hA : A.depth < 970) : CallB w A (.ref 140) ([D.fq p a, .fq p b].map B.fro) (.fro (.bool (a == b))) := by
  refine fn_call (ps := ["self", "other"]) (by k_is) (by k_is) (by omega) (fun vs h => ?_) rfl (by decide) fun L β W s Q E S q => ?_
  · match vs, h with
    | [a, b], _ => with_unfolding_all rfl
  · refine x_if (b := true) S (evt_of (ev_call g_isinstance rfl rfl (.inl ⟨_, rfl⟩) (evl_cons nm (evl_cons (ev_gl g_FQ) evl_nil)) isi_fq)) fun s₁ S₁ => ?_
    exact x_ret S₁ (ev_cmp (ev_n nm) (ev_n nm) (cmp_eq _ _)) fun v s' S' r => q v W _ s' S' r

/-! ### the operators -/
open Builtin
theorem int_mul_inst (a : Int) (t : Tok) (l d : Addr) :
    Meets (Builtin.«int.__mul__» ⟨[.int a t, .ref l], []⟩) (fun _ R s => s.heap.get? l = some (instObj 207 d) ∧ R (.ok (.ret Value.notImplemented)) s) :=
  .of_wp fun prog w A R s h => by obtain ⟨hp, g, d, tk, os⟩ := s; obtain ⟨hl, h⟩ := h; wp_walk; exact ⟨_, rfl, h⟩
end
end Mine

/-! ## part M16 -/
namespace Mine
open PySem PySem.W PyProof.Rows PySem.Calls

section
variable {w : World} {A : Around} {E : Value → Shared → Prop} {s : Shared} {x y : Addr} {ox oy : Obj} {od od' : Option Obj} {f : Addr}

theorem call_back {f : Value} {vs : List Value} {Q : Value → Shared → Prop} (h : wpAny (M w) A (call f vs) (fun v s' => v ≠ .notImplemented ∧ Q v s') E s) : wpAny (M w) A (call f vs) (PySem.W.CmpBack Q) E s :=
  post h fun v s' z => by
    cases v <;> first | exact absurd rfl z.1 | exact z.2

theorem fq_try {Q : Value → Shared → Prop} {name : Str} {b : Value} (X : (hd.heap_39 w.params).In s.heap) (I : InstAt s.heap x ox 207 od) (hs : findIn (hd.heap_39 w.params) (.ref 207) name = some (some (.ref f))) (hf : isFn (hd.heap_39 w.params) (.ref f) = true)
    (h : wpAny (M w) A (call (.ref f) [.ref x, b]) (fun v s' => v ≠ .notImplemented ∧ Q v s') E s) : wpAny (M w) A (tryMethod (.ref x) name b) (fun r s' => ∃ v, r = some v ∧ Q v s') E s :=
  ksp_try X I hs hf (call_back h)

theorem fq_bin {op : Operator} {Q : Value → Shared → Prop} (X : (hd.heap_39 w.params).In s.heap) (I : InstAt s.heap x ox 207 od) (I' : InstAt s.heap y oy 207 od')
    (hs : findIn (hd.heap_39 w.params) (.ref 207) (PySem.dunder op.info.2) = some (some (.ref f))) (hf : isFn (hd.heap_39 w.params) (.ref f) = true)
    (h : wpAny (M w) A (call (.ref f) [.ref x, .ref y]) (fun v s' => v ≠ .notImplemented ∧ Q v s') E s) : wpAny (M w) A (binaryOp op (.ref x) (.ref y)) Q E s := by
  obtain ⟨cd, rest, hcd, hm⟩ := ksp_first (K := hd.heap_39 w.params) (C := 207) (by k_is)
  have one := fq_try X I hs hf h
  unfold binaryOp
  refine wpAny_holding (wpAny_bind ?_)
  unfold binaryOp1
  have L1 := (I.type (M := M w))
  have L2 := (I'.type (M := M w))
  have L3 : Looks (M w) s.heap (fillsNumberSlot (.ref 207) op.info.2) true := fills_K (f := f) X hcd hm hs
  refine wpAny_bind ?_
  refine L1.here ?_
  refine wpAny_bind ?_
  refine L2.here ?_
  refine wpAny_bind ?_
  refine L3.here ?_
  simp only [beq_self_eq_true, if_true]
  refine wpAny_bind (wpAny_pure ?_)
  simp only [Bool.and_false, Bool.false_eq_true, if_false, Bool.false_and]
  refine wpAny_bind (wpAny_pure ?_)
  simp only [Bool.false_eq_true, if_false]
  refine wpAny_bind (m := tryMethod (.ref x) _ (.ref y)) ?_
  refine post one fun r s' hr => ?_
  obtain ⟨v, rfl, hq⟩ := hr
  exact wpAny_pure (wpAny_pure hq)

theorem int_declines {k : Int} {t : Tok} {dx : Addr} {Q : Value → Shared → Prop} (hx : s.heap.get? x = some (instObj 207 dx)) (q : Q .notImplemented s) : wpAny (M w) A (call (.builtin "int.__mul__") [.int k t, .ref x]) Q E s :=
  @call_meets PySem.Challenge.pw_bb0058_01 w A E s "int" (PySem.dunder "mul") "int.__mul__" Builtin.«int.__mul__» (.int k t) [.ref x] _ Q PySem.F.slot_int_mul (typeIs_int s k t) PySem.F.entry_int_mul (PySem.F.args_int_mul_2 _ _) (int_mul_inst k t x dx) ⟨hx, q⟩
theorem int_try {Q : Option Value → Shared → Prop} {k : Int} {t : Tok} {dx : Addr} (hx : s.heap.get? x = some (instObj 207 dx)) (q : Q none s) : wpAny (M w) A (tryMethod (.int k t) (PySem.dunder "mul") (.ref x)) Q E s :=
  @wpAny_tryMethod_declines (M w) A E s (.int k t) (.ref x) "int" (PySem.dunder "mul") "int.__mul__" Q (typeIs_int s k t) PySem.F.slot_int_mul (int_declines hx ⟨rfl, q⟩)

set_option maxHeartbeats 4000000 in
theorem int_fq_mul {k : Int} {t : Tok} {dx : Addr} {Q : Value → Shared → Prop} (X : (hd.heap_39 w.params).In s.heap) (I : InstAt s.heap x (instObj 207 dx) 207 od)
    (h : wpAny (M w) A (call (.ref 84) [.ref x, .int k t]) (fun v s' => v ≠ .notImplemented ∧ Q v s') E s) : wpAny (M w) A (binaryOp .Mult (.int k t) (.ref x)) Q E s := by
  obtain ⟨cd, rest, hcd, hm⟩ := ksp_first (K := hd.heap_39 w.params) (C := 207) (by k_is)
  have one := fq_try (name := dunderR "mul") X I (by k_is) (by k_is) h
  have L2 := (I.type (M := M w))
  have L3 : Looks (M w) s.heap (fillsNumberSlot (.ref 207) "mul") true := fills_K X hcd hm (f := 77) (by k_is)
  have L5 : Looks (M w) s.heap (isSubtype (.ref 207) (.type "int")) false := looks_subIn X (by k_is)
  unfold binaryOp
  refine wpAny_holding (wpAny_bind ?_)
  show wpAny _ _ (binaryOp1 "mul" _ _) _ _ _
  unfold binaryOp1
  refine wpAny_bind (wpAny_typeOf (typeIs_int s k t) ?_)
  refine wpAny_bind (L2.here ?_)
  refine wpAny_bind (wpAny_of_eq PySem.F.fills_int_mul ?_)
  have hne : (Value.type "int" == Value.ref 207) = false := by decide
  simp only [hne, Bool.false_eq_true, if_false]
  refine wpAny_bind (L3.here ?_)
  simp only [Bool.and_self, if_true]
  refine wpAny_bind (L5.here ?_)
  simp only [Bool.false_eq_true, if_false, Bool.not_false, Bool.and_self, if_true]
  refine wpAny_bind (wpAny_of_eq (show numberSlotInPython (.type "int") "mul" = pure false from rfl) ?_)
  simp only [Bool.false_eq_true, if_false]
  refine wpAny_bind ?_
  refine int_try I.at_ ?_
  dsimp only
  refine wpAny_bind ?_
  refine post one fun r s' hr => ?_
  obtain ⟨v, rfl, hq⟩ := hr
  exact wpAny_bind (wpAny_rule (wpAny_pure (wpAny_pure hq)))

set_option maxHeartbeats 4000000 in
theorem fq_int_mul {k : Int} {t : Tok} {dx : Addr} {Q : Value → Shared → Prop} (X : (hd.heap_39 w.params).In s.heap) (I : InstAt s.heap x (instObj 207 dx) 207 od)
    (h : wpAny (M w) A (call (.ref 77) [.ref x, .int k t]) (fun v s' => v ≠ .notImplemented ∧ Q v s') E s) : wpAny (M w) A (binaryOp .Mult (.ref x) (.int k t)) Q E s := by
  obtain ⟨cd, rest, hcd, hm⟩ := ksp_first (K := hd.heap_39 w.params) (C := 207) (by k_is)
  have one := fq_try (name := PySem.dunder "mul") X I (by k_is) (by k_is) h
  have L2 := (I.type (M := M w))
  have L3 : Looks (M w) s.heap (fillsNumberSlot (.ref 207) "mul") true := fills_K X hcd hm (f := 77) (by k_is)
  have L5 : Looks (M w) s.heap (isSubtype (.type "int") (.ref 207)) false := looks_subIn X (by k_is)
  have L6 : Looks (M w) s.heap (numberSlotInPython (.ref 207) "mul") true := ksp_inPy (f := 77) (rc := some (.ref 84)) X (by k_is) (by k_is) (.inr ⟨84, rfl⟩)
  unfold binaryOp
  refine wpAny_holding (wpAny_bind ?_)
  show wpAny _ _ (binaryOp1 "mul" _ _) _ _ _
  unfold binaryOp1
  refine wpAny_bind ?_
  refine L2.here ?_
  refine wpAny_bind (wpAny_typeOf (typeIs_int s k t) ?_)
  refine wpAny_bind ?_
  refine L3.here ?_
  have hne : (Value.ref 207 == Value.type "int") = false := by decide
  simp only [hne, Bool.false_eq_true, if_false]
  refine wpAny_bind (wpAny_of_eq PySem.F.fills_int_mul ?_)
  simp only [Bool.and_self, if_true]
  refine wpAny_bind ?_
  refine L5.here ?_
  simp only [Bool.false_eq_true, if_false, Bool.not_false, Bool.and_self, if_true]
  refine wpAny_bind ?_
  refine L6.here ?_
  simp only [if_true]
  refine wpAny_bind (wpAny_of_eq (show numberSlotInPython (.type "int") "mul" = pure false from rfl) ?_)
  simp only [Bool.not_false, if_true]
  refine wpAny_bind (wpAny_of_eq PySem.F.slot_int_rmul.lookup ?_)
  refine wpAny_bind ?_
  refine post one fun r s' hr => ?_
  obtain ⟨v, rfl, hq⟩ := hr
  exact wpAny_pure (wpAny_pure hq)

theorem fq_eq {Q : Value → Shared → Prop} (hu : A.units < 9900) (X : (hd.heap_39 w.params).In s.heap) (I : InstAt s.heap x ox 207 od) (I' : InstAt s.heap y oy 207 od')
    (h : wpAny (M w) A (call (.ref 140) [.ref x, .ref y]) (fun v s' => v ≠ .notImplemented ∧ Q v s') E s) : wpAny (M w) A (compareOp .Eq (.ref x) (.ref y)) Q E s := by
  have one : wpAny (M w) A (tryCompare (.ref x) "__eq__" (.ref y)) (fun r s' => ∃ v, r = some v ∧ Q v s') E s := by
    unfold tryCompare
    refine wpAny_bind ?_
    refine ifBound_K (f := 140) X I (by k_is) (by k_is) ?_
    refine post h fun v s' hv => ?_
    obtain ⟨hn, hv⟩ := hv
    cases v <;> first | exact absurd rfl hn | exact wpAny_pure ⟨_, rfl, hv⟩
  have L1 := (I.type (M := M w))
  have L2 := (I'.type (M := M w))
  show wpAny _ _ (richCompare .Eq _ _) _ _ _
  unfold richCompare
  simp only [oneThing_ref]
  refine wpAny_holding (wpAny_bind (wpAny_cRoomFor hu ?_))
  refine wpAny_bind ?_
  refine L1.here ?_
  refine wpAny_bind ?_
  refine L2.here ?_
  rw [if_neg (by simp)]
  refine wpAny_bind (wpAny_pure ?_)
  simp only [Bool.false_eq_true, if_false]
  refine wpAny_bind ?_
  refine post one fun r s' z => ?_
  obtain ⟨v, rfl, hq⟩ := z
  exact wpAny_pure hq
end

section
variable {w : World} {A : Around} {env : Env} {Γ : Gm}
theorem op_fq_mul {p a b : Int} (hp : p ≠ 0) (ha : -(2 ^ 40) ≤ a ∧ a ≤ 2 ^ 40) (hh : A.handled = none) (hA : A.depth < 970) : Op2 w A .Mult (.fro (.fq p a)) (.fro (.fq p b)) (.fro (.fq p ((a * b).fmod p))) := by
  intro W V s v u Q E G dm hv hu q
  obtain ⟨x, rfl, i⟩ := hv.fq
  obtain ⟨y, rfl, j⟩ := hu.fq
  obtain ⟨_, _, _, _, _, _, _, _, I⟩ := i.inst
  obtain ⟨_, _, _, _, _, _, _, _, I'⟩ := j.inst
  refine fq_bin (f := 77) G.X I I' (by k_is) (by k_is) ?_
  refine mul_fq hp ha hh hA W V s _ _ E G dm (.cons hv (.cons hu .nil)) fun r s' k r' => ?_
  obtain ⟨z, rfl, _⟩ := r'.fq
  exact ⟨by simp, q _ s' k r'⟩
theorem op_fq_sub {p a b : Int} (hp : p ≠ 0) (hh : A.handled = none) (hA : A.depth < 970) : Op2 w A .Sub (.fro (.fq p a)) (.fro (.fq p b)) (.fro (.fq p ((a - b).fmod p))) := by
  intro W V s v u Q E G dm hv hu q
  obtain ⟨x, rfl, i⟩ := hv.fq
  obtain ⟨y, rfl, j⟩ := hu.fq
  obtain ⟨_, _, _, _, _, _, _, _, I⟩ := i.inst
  obtain ⟨_, _, _, _, _, _, _, _, I'⟩ := j.inst
  refine fq_bin (f := 105) G.X I I' (by k_is) (by k_is) ?_
  refine sub_fq hp hh hA W V s _ _ E G dm (.cons hv (.cons hu .nil)) fun r s' k r' => ?_
  obtain ⟨z, rfl, _⟩ := r'.fq
  exact ⟨by simp, q _ s' k r'⟩
theorem op_fq_int {p a b : Int} (hp : p ≠ 0) (ha : -(2 ^ 40) ≤ a ∧ a ≤ 2 ^ 40) (hh : A.handled = none) (hA : A.depth < 970) : Op2 w A .Mult (.fro (.fq p a)) (.fro (.int b)) (.fro (.fq p ((a * b).fmod p))) := by
  intro W V s v u Q E G dm hv hu q
  obtain ⟨x, rfl, i⟩ := hv.fq
  obtain ⟨t, rfl⟩ := hu.int
  obtain ⟨_, _, _, _, _, _, _, _, I⟩ := i.inst
  refine fq_int_mul G.X I ?_
  refine mul_fq_int hp ha hh hA W V s _ _ E G dm (.cons hv (.cons hu .nil)) fun r s' k r' => ?_
  obtain ⟨z, rfl, _⟩ := r'.fq
  exact ⟨by simp, q _ s' k r'⟩
theorem rmul_fq {p a b : Int} (hp : p ≠ 0) (ha : -(2 ^ 40) ≤ a ∧ a ≤ 2 ^ 40) (hh : A.handled = none) (hA : A.depth < 960) : CallB w A (.ref 84) ([D.fq p a, .int b].map B.fro) (.fro (.fq p ((a * b).fmod p))) := by
  refine fn_call (ps := ["self", "other"]) (by k_is) (by k_is) (by omega) (fun vs h => ?_) rfl (by decide) fun L β W s Q E S q => ?_
  · match vs, h with
    | [a, b], _ => with_unfolding_all rfl
  · exact x_ret S (ev_bin nm nm (op_fq_int hp ha hh (by show A.depth + 1 < 970; omega))) fun v s' S' r => q v W _ s' S' r
theorem op_int_fq {p a b : Int} (hp : p ≠ 0) (ha : -(2 ^ 40) ≤ a ∧ a ≤ 2 ^ 40) (hh : A.handled = none) (hA : A.depth < 960) : Op2 w A .Mult (.fro (.int b)) (.fro (.fq p a)) (.fro (.fq p ((a * b).fmod p))) := by
  intro W V s v u Q E G dm hv hu q
  obtain ⟨x, rfl, i⟩ := hu.fq
  obtain ⟨t, rfl⟩ := hv.int
  obtain ⟨_, _, _, _, _, _, _, _, I⟩ := i.inst
  refine int_fq_mul G.X I ?_
  refine rmul_fq hp ha hh hA W V s _ _ E G dm (.cons hu (.cons hv .nil)) fun r s' k r' => ?_
  obtain ⟨z, rfl, _⟩ := r'.fq
  exact ⟨by simp, q _ s' k r'⟩
theorem cmp_fq {p a b : Int} (hh : A.handled = none) (hA : A.depth < 970) (hu : A.units < 9900) : Cmp2 w A .Eq (.fro (.fq p a)) (.fro (.fq p b)) (a == b) := by
  intro W V s v u Q E G dm hv hu' q
  obtain ⟨x, rfl, i⟩ := hv.fq
  obtain ⟨y, rfl, j⟩ := hu'.fq
  obtain ⟨_, _, _, _, _, _, _, _, I⟩ := i.inst
  obtain ⟨_, _, _, _, _, _, _, _, I'⟩ := j.inst
  refine fq_eq hu G.X I I' ?_
  refine eq_fq hh hA W V s _ _ E G dm (.cons hv (.cons hu' .nil)) fun r s' k r' => ?_
  obtain rfl := r'.bool
  exact ⟨by simp, q s' k⟩
end
end Mine

/-! ## part M17 -/
namespace Mine
open PySem PySem.W PyProof.Rows PySem.Calls

section
variable {w : World} {A : Around} {env : Env} {Γ : Gm}

theorem bnd {a p : Int} (hp : 0 < p ∧ p ≤ 1000) : -(2 ^ 40) ≤ a.fmod p ∧ a.fmod p ≤ 2 ^ 40 := by
  have := Int.fmod_nonneg_of_pos a hp.1
  have := Int.fmod_lt_of_pos a hp.1
  omega
theorem bnd' {a p : Int} (hp : 0 < p ∧ p ≤ 1000) (h : 0 ≤ a ∧ a < p) : -(2 ^ 40) ≤ a ∧ a ≤ 2 ^ 40 := by omega

abbrev ptD (p x y z : Int) : D := .tup [.fq p x, .fq p y, .fq p z]
abbrev Trip := Int × Int × Int
abbrev ptT (p : Int) (t : Trip) : D := ptD p t.1 t.2.1 t.2.2

def dblW (p x : Int) : Int := ((x * 3).fmod p * x).fmod p
def dblB (p x y s : Int) : Int := ((x * y).fmod p * s).fmod p
def dblH (p W B : Int) : Int := ((W * W).fmod p - (B * 8).fmod p).fmod p
def dblX (p H S : Int) : Int := ((H * 2).fmod p * S).fmod p
def dblY (p W B H y S2 : Int) : Int := ((W * ((B * 4).fmod p - H).fmod p).fmod p - (((y * 8).fmod p * y).fmod p * S2).fmod p).fmod p
def dblZ (p S S2 : Int) : Int := ((S * 8).fmod p * S2).fmod p
def dbl (p x y z : Int) : Trip :=
  (dblX p (dblH p (dblW p x) (dblB p x y ((y * z).fmod p))) ((y * z).fmod p),
   dblY p (dblW p x) (dblB p x y ((y * z).fmod p)) (dblH p (dblW p x) (dblB p x y ((y * z).fmod p))) y (((y * z).fmod p * (y * z).fmod p).fmod p),
   dblZ p ((y * z).fmod p) (((y * z).fmod p * (y * z).fmod p).fmod p))

theorem is_inf_call {p x y z : Int} (hp : p ≠ 0) (hh : A.handled = none) (hA : A.depth < 950) (hu : A.units < 9000) : CallB w A (.ref 28) ([ptD p x y z].map B.fro) (.fro (.bool (z == (0 : Int).fmod p))) := by
  refine fn_call (ps := ["pt"]) (by k_is) (by k_is) (by omega) (fun vs h => ?_) rfl (by decide) fun L β W s Q E S q => ?_
  · match vs, h with
    | [a], _ => with_unfolding_all rfl
  · exact x_ret S (ev_cmp (ev_itemT (ds := [.fq p x, .fq p y, .fq p z]) (k := -1) (j := 2) nm (ev_neg li) (by decide) (by decide) rfl rfl)
      (ev_meth0 (f := 204) (n := z) (ev_itemT (ds := [.fq p x, .fq p y, .fq p z]) (k := -1) (j := 2) nm (ev_neg li) (by decide) (by decide) rfl rfl) (by k_is) (by k_is) (by k_is) (by intro _ _ _ _ _ _; rfl) (zero_fq hp hh (by show A.depth + 1 < 970; omega)))
      (cmp_fq hh (by show A.depth + 1 < 970; omega) (by show A.units + 3 < 9900; omega))) fun v s' S' r => q v W _ s' S' r

set_option maxHeartbeats 4000000 in
theorem double_call {p x y z : Int} (hp : 0 < p ∧ p ≤ 1000) (hx : 0 ≤ x ∧ x < p) (hy : 0 ≤ y ∧ y < p) (hz : 0 ≤ z ∧ z < p) (hh : A.handled = none) (hA : A.depth < 940) : CallB w A (.ref 35) ([ptD p x y z].map B.fro) (.fro (ptT p (dbl p x y z))) := by
  have hp0 : p ≠ 0 := by omega
  have bx := bnd' hp hx
  have bY := bnd' hp hy
  refine fn_call (ps := ["pt"]) (by k_is) (by k_is) (by omega) (fun vs h => ?_) rfl (by decide) fun L β W s Q E S q => ?_
  · match vs, h with
    | [a], _ => with_unfolding_all rfl
  · have hd1 : ∀ env, (A.deeper env).depth < 960 := fun env => (show A.depth + 1 < 960 by omega)
    have hd2 : ∀ env, (A.deeper env).depth < 970 := fun env => (show A.depth + 1 < 970 by omega)
    have hh' : ∀ env, (A.deeper env).handled = none := fun env => hh
    refine x_tup3 (hh' _) S nm (.inl rfl) (.inl rfl) (.inl rfl) fun s S => ?_
    refine x_assign (d := .fq p (dblW p x)) S (ev_bin (ev_bin li nm (op_int_fq hp0 bx (hh' _) (hd1 _))) nm (op_fq_mul hp0 (bnd hp) (hh' _) (hd2 _))) (.inl rfl) fun s S => ?_
    refine x_assign (d := .fq p ((y * z).fmod p)) S (ev_bin nm nm (op_fq_mul hp0 bY (hh' _) (hd2 _))) (.inl rfl) fun s S => ?_
    refine x_assign (d := .fq p (dblB p x y ((y * z).fmod p))) S (ev_bin (ev_bin nm nm (op_fq_mul hp0 bx (hh' _) (hd2 _))) nm (op_fq_mul hp0 (bnd hp) (hh' _) (hd2 _))) (.inl rfl) fun s S => ?_
    refine x_assign (d := .fq p (dblH p (dblW p x) (dblB p x y ((y * z).fmod p)))) S (ev_bin (ev_bin nm nm (op_fq_mul hp0 (bnd hp) (hh' _) (hd2 _))) (ev_bin li nm (op_int_fq hp0 (bnd hp) (hh' _) (hd1 _))) (op_fq_sub hp0 (hh' _) (hd2 _))) (.inl rfl) fun s S => ?_
    refine x_assign (d := .fq p (((y * z).fmod p * (y * z).fmod p).fmod p)) S (ev_bin nm nm (op_fq_mul hp0 (bnd hp) (hh' _) (hd2 _))) (.inl rfl) fun s S => ?_
    refine x_assign (d := .fq p (dblX p (dblH p (dblW p x) (dblB p x y ((y * z).fmod p))) ((y * z).fmod p))) S (ev_bin (ev_bin li nm (op_int_fq hp0 (bnd hp) (hh' _) (hd1 _))) nm (op_fq_mul hp0 (bnd hp) (hh' _) (hd2 _))) (.inl rfl) fun s S => ?_
    refine x_assign (d := .fq p (dblY p (dblW p x) (dblB p x y ((y * z).fmod p)) (dblH p (dblW p x) (dblB p x y ((y * z).fmod p))) y (((y * z).fmod p * (y * z).fmod p).fmod p))) S
      (ev_bin (ev_bin nm (ev_bin (ev_bin li nm (op_int_fq hp0 (bnd hp) (hh' _) (hd1 _))) nm (op_fq_sub hp0 (hh' _) (hd2 _))) (op_fq_mul hp0 (bnd hp) (hh' _) (hd2 _))) (ev_bin (ev_bin (ev_bin li nm (op_int_fq hp0 bY (hh' _) (hd1 _))) nm (op_fq_mul hp0 (bnd hp) (hh' _) (hd2 _))) nm (op_fq_mul hp0 (bnd hp) (hh' _) (hd2 _))) (op_fq_sub hp0 (hh' _) (hd2 _))) (.inl rfl) fun s S => ?_
    refine x_assign (d := .fq p (dblZ p ((y * z).fmod p) (((y * z).fmod p * (y * z).fmod p).fmod p))) S (ev_bin (ev_bin li nm (op_int_fq hp0 (bnd hp) (hh' _) (hd1 _))) nm (op_fq_mul hp0 (bnd hp) (hh' _) (hd2 _))) (.inl rfl) fun s S => ?_
    exact x_ret S (ev_tuple (ds := [.fq p (dbl p x y z).1, .fq p (dbl p x y z).2.1, .fq p (dbl p x y z).2.2]) (evl_cons nm (evl_cons nm (evl_cons nm evl_nil))) (Nat.le_of_ble_eq_true rfl)) fun v s' S' r => q v W _ s' S' r

theorem g_double : GlobV w "double" (.ref 35) := .inl (by k_is)
theorem c_double : Callee w (.ref 35) := .inr (.inr (by k_is))

def gA (p U W Vc V2t : Int) : Int := (((((U * U).fmod p * W).fmod p - Vc).fmod p) - (V2t * 2).fmod p).fmod p
def gY (p U V2t A Vc U2 : Int) : Int := ((U * (V2t - A).fmod p).fmod p - (Vc * U2).fmod p).fmod p
/-- the general sum, of U, V, V², V²V2, V³, W -/
def gSum (p U V Vs V2t Vc W U2 : Int) : Trip := ((V * gA p U W Vc V2t).fmod p, gY p U V2t (gA p U W Vc V2t) Vc U2, (Vc * W).fmod p)
def addG (p : Int) (U1 U2 V1 V2 z1 z2 : Int) : Trip :=
  gSum p ((U1 - U2).fmod p) ((V1 - V2).fmod p) (((V1 - V2).fmod p * (V1 - V2).fmod p).fmod p) ((((V1 - V2).fmod p * (V1 - V2).fmod p).fmod p * V2).fmod p) (((V1 - V2).fmod p * (((V1 - V2).fmod p * (V1 - V2).fmod p).fmod p)).fmod p) ((z1 * z2).fmod p) U2
def addI (p : Int) (t u : Trip) : Trip :=
  cond (t.2.2 == (0 : Int).fmod p || u.2.2 == (0 : Int).fmod p) (cond (u.2.2 == (0 : Int).fmod p) t u)
    (cond (((u.1 * t.2.2).fmod p == (t.1 * u.2.2).fmod p) && ((u.2.1 * t.2.2).fmod p == (t.2.1 * u.2.2).fmod p)) (dbl p t.1 t.2.1 t.2.2)
      (cond ((u.1 * t.2.2).fmod p == (t.1 * u.2.2).fmod p) ((1 : Int).fmod p, (1 : Int).fmod p, (0 : Int).fmod p)
        (addG p ((u.2.1 * t.2.2).fmod p) ((t.2.1 * u.2.2).fmod p) ((u.1 * t.2.2).fmod p) ((t.1 * u.2.2).fmod p) t.2.2 u.2.2)))

abbrev Red (p : Int) (t : Trip) : Prop := (0 ≤ t.1 ∧ t.1 < p) ∧ (0 ≤ t.2.1 ∧ t.2.1 < p) ∧ (0 ≤ t.2.2 ∧ t.2.2 < p)

set_option maxHeartbeats 4000000 in
theorem add_call {p : Int} {t u : Trip} (hp : 0 < p ∧ p ≤ 1000) (ht : Red p t) (hu : Red p u) (hh : A.handled = none) (hA : A.depth < 930) (hn : A.units < 9000) : CallB w A (.ref 42) ([ptT p t, ptT p u].map B.fro) (.fro (ptT p (addI p t u))) := by
  have hp0 : p ≠ 0 := by omega
  obtain ⟨x1, y1, z1⟩ := t
  obtain ⟨x2, y2, z2⟩ := u
  obtain ⟨hx1, hy1, hz1⟩ := ht
  obtain ⟨hx2, hy2, hz2⟩ := hu
  dsimp only at hx1 hy1 hz1 hx2 hy2 hz2
  have bx1 := bnd' hp hx1
  have by1 := bnd' hp hy1
  have bz1 := bnd' hp hz1
  have bx2 := bnd' hp hx2
  have by2 := bnd' hp hy2
  have hd1 : ∀ env, (A.deeper env).depth < 960 := fun env => (show A.depth + 1 < 960 by omega)
  have hd2 : ∀ env, (A.deeper env).depth < 970 := fun env => (show A.depth + 1 < 970 by omega)
  have hd0 : ∀ env, (A.deeper env).depth < 940 := fun env => (show A.depth + 1 < 940 by omega)
  have hh' : ∀ env, (A.deeper env).handled = none := fun env => hh
  have hn' : ∀ env, (A.deeper env).units < 9900 := fun env => (show A.units + 3 < 9900 by omega)
  refine fn_call (ps := ["p1", "p2"]) (by k_is) (by k_is) (by omega) (fun vs h => ?_) rfl (by decide) fun L β W s Q E S q => ?_
  · match vs, h with
    | [a, b], _ => with_unfolding_all rfl
  · refine x_tup2s (d₁ := .fq p ((1 : Int).fmod p)) (d₂ := .fq p ((0 : Int).fmod p)) (hh' _) S (ev_tuple (ds := [.fq p ((1 : Int).fmod p), .fq p ((0 : Int).fmod p)])
      (evl_cons (ev_meth0 (f := 197) (n := x1) (ev_itemT (ds := [.fq p x1, .fq p y1, .fq p z1]) (k := 0) (j := 0) nm li (by decide) (by decide) rfl rfl) (by k_is) (by k_is) (by k_is) (by intro _ _ _ _ _ _; rfl) (one_fq hp0 (hh' _) (hd2 _)))
        (evl_cons (ev_meth0 (f := 204) (n := x1) (ev_itemT (ds := [.fq p x1, .fq p y1, .fq p z1]) (k := 0) (j := 0) nm li (by decide) (by decide) rfl rfl) (by k_is) (by k_is) (by k_is) (by intro _ _ _ _ _ _; rfl) (zero_fq hp0 (hh' _) (hd2 _))) evl_nil)) (Nat.le_of_ble_eq_true rfl)) (.inl rfl) (.inl rfl) fun s S => ?_
    refine x_if (b := (z1 == (0 : Int).fmod p || z2 == (0 : Int).fmod p)) S (evt_or2 (evt_cmp (ev_itemT (ds := [.fq p x1, .fq p y1, .fq p z1]) (k := 2) (j := 2) nm li (by decide) (by decide) rfl rfl) nm (cmp_fq (hh' _) (hd2 _) (hn' _))) (evt_cmp (ev_itemT (ds := [.fq p x2, .fq p y2, .fq p z2]) (k := 2) (j := 2) nm li (by decide) (by decide) rfl rfl) nm (cmp_fq (hh' _) (hd2 _) (hn' _)))) fun s S => ?_
    cases hb : (z1 == (0 : Int).fmod p || z2 == (0 : Int).fmod p) with
    | true =>
      rw [if_pos rfl]
      have e : addI p (x1, y1, z1) (x2, y2, z2) = cond (z2 == (0 : Int).fmod p) (x1, y1, z1) (x2, y2, z2) := by unfold addI; simp only [hb, cond_true]
      rw [e] at q
      cases hc : (z2 == (0 : Int).fmod p) with
      | true =>
        rw [hc] at q
        exact x_ret S (ev_ifexp (c := true) (hc ▸ evt_cmp (ev_itemT (ds := [.fq p x2, .fq p y2, .fq p z2]) (k := 2) (j := 2) nm li (by decide) (by decide) rfl rfl) nm (cmp_fq (hh' _) (hd2 _) (hn' _))) (b := .fro (ptD p x1 y1 z1)) nm) fun v s' S' r => q v W _ s' S' r
      | false =>
        rw [hc] at q
        exact x_ret S (ev_ifexp (c := false) (hc ▸ evt_cmp (ev_itemT (ds := [.fq p x2, .fq p y2, .fq p z2]) (k := 2) (j := 2) nm li (by decide) (by decide) rfl rfl) nm (cmp_fq (hh' _) (hd2 _) (hn' _))) (b := .fro (ptD p x2 y2 z2)) nm) fun v s' S' r => q v W _ s' S' r
    | false =>
      rw [if_neg (by decide)]
      refine x_nil ?_
      refine x_tup3 (hh' _) S nm (.inl rfl) (.inl rfl) (.inl rfl) fun s S => ?_
      refine x_tup3 (hh' _) S nm (.inl rfl) (.inl rfl) (.inl rfl) fun s S => ?_
      refine x_assign (d := .fq p ((y2 * z1).fmod p)) S (ev_bin nm nm (op_fq_mul hp0 by2 (hh' _) (hd2 _))) (.inl rfl) fun s S => ?_
      refine x_assign (d := .fq p ((y1 * z2).fmod p)) S (ev_bin nm nm (op_fq_mul hp0 by1 (hh' _) (hd2 _))) (.inl rfl) fun s S => ?_
      refine x_assign (d := .fq p ((x2 * z1).fmod p)) S (ev_bin nm nm (op_fq_mul hp0 bx2 (hh' _) (hd2 _))) (.inl rfl) fun s S => ?_
      refine x_assign (d := .fq p ((x1 * z2).fmod p)) S (ev_bin nm nm (op_fq_mul hp0 bx1 (hh' _) (hd2 _))) (.inl rfl) fun s S => ?_
      refine x_if (b := (((x2 * z1).fmod p == (x1 * z2).fmod p) && ((y2 * z1).fmod p == (y1 * z2).fmod p))) S (evt_and2 (evt_cmp nm nm (cmp_fq (hh' _) (hd2 _) (hn' _))) (evt_cmp nm nm (cmp_fq (hh' _) (hd2 _) (hn' _)))) fun s S => ?_
      cases hb2 : (((x2 * z1).fmod p == (x1 * z2).fmod p) && ((y2 * z1).fmod p == (y1 * z2).fmod p)) with
      | true =>
        rw [if_pos rfl]
        have e : addI p (x1, y1, z1) (x2, y2, z2) = dbl p x1 y1 z1 := by unfold addI; dsimp only; rw [hb, hb2]; rfl
        rw [e] at q
        exact x_ret S (ev_call g_double rfl rfl c_double (evl_cons nm evl_nil) (double_call hp hx1 hy1 hz1 (hh' _) (hd0 _))) fun v s' S' r => q v W _ s' S' r
      | false =>
        rw [if_neg (by decide)]
        refine x_if (b := ((x2 * z1).fmod p == (x1 * z2).fmod p)) S (evt_cmp nm nm (cmp_fq (hh' _) (hd2 _) (hn' _))) fun s S => ?_
        cases hb3 : ((x2 * z1).fmod p == (x1 * z2).fmod p) with
        | true =>
          rw [if_pos rfl]
          have e : addI p (x1, y1, z1) (x2, y2, z2) = ((1 : Int).fmod p, (1 : Int).fmod p, (0 : Int).fmod p) := by unfold addI; dsimp only; rw [hb, hb2, hb3]; rfl
          rw [e] at q
          exact x_ret S (ev_tuple (ds := [.fq p ((1 : Int).fmod p), .fq p ((1 : Int).fmod p), .fq p ((0 : Int).fmod p)]) (evl_cons nm (evl_cons nm (evl_cons nm evl_nil))) (Nat.le_of_ble_eq_true rfl)) fun v s' S' r => q v W _ s' S' r
        | false =>
          rw [if_neg (by decide)]
          refine x_nil ?_
          refine x_nil ?_
          have e : addI p (x1, y1, z1) (x2, y2, z2) = addG p ((y2 * z1).fmod p) ((y1 * z2).fmod p) ((x2 * z1).fmod p) ((x1 * z2).fmod p) z1 z2 := by unfold addI; dsimp only; rw [hb, hb2, hb3]; rfl
          rw [e] at q
          unfold addG at q
          have hU2 : -(2 ^ 40) ≤ (y1 * z2).fmod p ∧ (y1 * z2).fmod p ≤ 2 ^ 40 := bnd hp
          generalize (y2 * z1).fmod p = U1 at S q
          generalize (y1 * z2).fmod p = U2 at S q hU2
          generalize (x2 * z1).fmod p = V1 at S q
          generalize (x1 * z2).fmod p = V2 at S q
          have oM : ∀ {a b : Int} env, Op2 w (A.deeper env) .Mult (.fro (.fq p (a.fmod p))) (.fro (.fq p b)) (.fro (.fq p ((a.fmod p * b).fmod p))) := fun env => op_fq_mul hp0 (bnd hp) (hh' _) (hd2 _)
          have oS : ∀ {a b : Int} env, Op2 w (A.deeper env) .Sub (.fro (.fq p a)) (.fro (.fq p b)) (.fro (.fq p ((a - b).fmod p))) := fun env => op_fq_sub hp0 (hh' _) (hd2 _)
          have oI : ∀ {a b : Int} env, Op2 w (A.deeper env) .Mult (.fro (.int b)) (.fro (.fq p (a.fmod p))) (.fro (.fq p ((a.fmod p * b).fmod p))) := fun env => op_int_fq hp0 (bnd hp) (hh' _) (hd1 _)
          refine x_assign (d := .fq p ((U1 - U2).fmod p)) S (ev_bin nm nm (oS _)) (.inl rfl) fun s S => ?_
          refine x_assign (d := .fq p ((V1 - V2).fmod p)) S (ev_bin nm nm (oS _)) (.inl rfl) fun s S => ?_
          refine x_assign (d := .fq p (((V1 - V2).fmod p * (V1 - V2).fmod p).fmod p)) S (ev_bin nm nm (oM _)) (.inl rfl) fun s S => ?_
          refine x_assign (d := .fq p ((((V1 - V2).fmod p * (V1 - V2).fmod p).fmod p * V2).fmod p)) S (ev_bin nm nm (oM _)) (.inl rfl) fun s S => ?_
          refine x_assign (d := .fq p (((V1 - V2).fmod p * (((V1 - V2).fmod p * (V1 - V2).fmod p).fmod p)).fmod p)) S (ev_bin nm nm (oM _)) (.inl rfl) fun s S => ?_
          refine x_assign (d := .fq p ((z1 * z2).fmod p)) S (ev_bin nm nm (op_fq_mul hp0 bz1 (hh' _) (hd2 _))) (.inl rfl) fun s S => ?_
          refine x_assign (d := .fq p (gA p ((U1 - U2).fmod p) ((z1 * z2).fmod p) (((V1 - V2).fmod p * (((V1 - V2).fmod p * (V1 - V2).fmod p).fmod p)).fmod p) ((((V1 - V2).fmod p * (V1 - V2).fmod p).fmod p * V2).fmod p))) S
            (ev_bin (ev_bin (ev_bin (ev_bin nm nm (oM _)) nm (oM _)) nm (oS _)) (ev_bin li nm (oI _)) (oS _)) (.inl rfl) fun s S => ?_
          unfold gSum at q
          have hA2 : ∀ a b c d, -(2 ^ 40) ≤ gA p a b c d ∧ gA p a b c d ≤ 2 ^ 40 := fun a b c d => bnd hp
          generalize gA p ((U1 - U2).fmod p) ((z1 * z2).fmod p) (((V1 - V2).fmod p * (((V1 - V2).fmod p * (V1 - V2).fmod p).fmod p)).fmod p) ((((V1 - V2).fmod p * (V1 - V2).fmod p).fmod p * V2).fmod p) = A' at S q
          refine x_assign (d := .fq p (((V1 - V2).fmod p * A').fmod p)) S (ev_bin nm nm (oM _)) (.inl rfl) fun s S => ?_
          refine x_assign (d := .fq p (gY p ((U1 - U2).fmod p) ((((V1 - V2).fmod p * (V1 - V2).fmod p).fmod p * V2).fmod p) A' (((V1 - V2).fmod p * (((V1 - V2).fmod p * (V1 - V2).fmod p).fmod p)).fmod p) U2)) S
            (ev_bin (ev_bin nm (ev_bin nm nm (oS _)) (oM _)) (ev_bin nm nm (oM _)) (oS _)) (.inl rfl) fun s S => ?_
          refine x_assign (d := .fq p ((((V1 - V2).fmod p * (((V1 - V2).fmod p * (V1 - V2).fmod p).fmod p)).fmod p * (z1 * z2).fmod p).fmod p)) S (ev_bin nm nm (oM _)) (.inl rfl) fun s S => ?_
          exact x_ret S (ev_tuple (ds := [.fq p _, .fq p _, .fq p _]) (evl_cons nm (evl_cons nm (evl_cons nm evl_nil))) (Nat.le_of_ble_eq_true rfl)) fun v s' S' r => q v W _ s' S' r
end
end Mine

/-! ## part M18 -/
namespace Mine
open PySem PySem.W PyProof.Rows PySem.Calls

/-! ### the elimination, in plain words -/
abbrev rowD (r : List Int) : D := .lst (r.map .int)
abbrev natD (n : Nat) : D := .int n
def ent (rows : List (List Int)) (k c : Nat) : Int := (rows.getD k []).getD c 0
def places (p : Int) (c at_ : Nat) (rows : List (List Int)) : List Nat := ((List.range (rows.length - at_)).map (at_ + ·)).filter fun k => (ent rows k c).fmod p != 0
def swapR (at_ j : Nat) (rows : List (List Int)) : List (List Int) := (rows.set at_ (rows.getD j [])).set j (rows.getD at_ [])
def normAt (p : Int) (c at_ : Nat) (rows : List (List Int)) : List (List Int) := rows.set at_ ((rows.getD at_ []).map fun e => (e * powm (ent rows at_ c) (p - 2) p).fmod p)
def elimN (p : Int) (c at_ : Nat) (rows : List (List Int)) : Nat → List (List Int)
  | 0 => rows
  | k + 1 => if k = at_ then elimN p c at_ rows k else (elimN p c at_ rows k).set k (List.zipWith (fun one two => (one - ent (elimN p c at_ rows k) k c * two).fmod p) ((elimN p c at_ rows k).getD k []) ((elimN p c at_ rows k).getD at_ []))
def gstep (p : Int) (c : Nat) (st : List (List Int) × List Nat) : List (List Int) × List Nat :=
  match places p c st.2.length st.1 with
  | [] => st
  | j :: _ => (elimN p c st.2.length (normAt p c st.2.length (swapR st.2.length j st.1)) st.1.length, st.2 ++ [c])
def gsteps (p : Int) (rows : List (List Int)) : Nat → List (List Int) × List Nat
  | 0 => (rows, [])
  | c + 1 => gstep p c (gsteps p rows c)
def freeOf (n : Nat) (leads : List Nat) : List Nat := (List.range n).filter fun c => !leads.contains c
def ansN (p : Int) (rows : List (List Int)) (leads : List Nat) (free n : Nat) : Nat → List Int
  | 0 => (List.replicate n 0).set free 1
  | k + 1 => (ansN p rows leads free n k).set (leads.getD k 0) ((-(ent rows k free)).fmod p)
def gauss (p : Int) (rows : List (List Int)) : List Int :=
  ansN p (gsteps p rows (rows.length + 1)).1 (gsteps p rows (rows.length + 1)).2 ((freeOf (rows.length + 1) (gsteps p rows (rows.length + 1)).2).headD 0) (rows.length + 1) (gsteps p rows (rows.length + 1)).2.length

/-- rows of one shape, with small entries -/
structure Shape (n : Nat) (rows : List (List Int)) : Prop where
  len : rows.length = n
  row : ∀ r ∈ rows, r.length = n + 1 ∧ ∀ e ∈ r, -(2 ^ 20) ≤ e ∧ e ≤ 2 ^ 20
theorem Shape.set {n : Nat} {rows : List (List Int)} (h : Shape n rows) (k : Nat) {r : List Int} (hr : r.length = n + 1 ∧ ∀ e ∈ r, -(2 ^ 20) ≤ e ∧ e ≤ 2 ^ 20) : Shape n (rows.set k r) :=
  ⟨by rw [List.length_set]; exact h.len, fun q hq => by
    rcases List.mem_or_eq_of_mem_set hq with h' | h'
    · exact h.row q h'
    · rw [h']; exact hr⟩
theorem Shape.get {n : Nat} {rows : List (List Int)} (h : Shape n rows) {k : Nat} (hk : k < n) : (rows.getD k []).length = n + 1 ∧ ∀ e ∈ rows.getD k [], -(2 ^ 20) ≤ e ∧ e ≤ 2 ^ 20 := by
  have hk' : k < rows.length := by rw [h.len]; exact hk
  have : rows.getD k [] ∈ rows := by
    rw [List.getD_eq_getElem?_getD, List.getElem?_eq_getElem hk']
    exact List.getElem_mem hk'
  exact h.row _ this
theorem Shape.ent {n : Nat} {rows : List (List Int)} (h : Shape n rows) {k c : Nat} (hk : k < n) (hc : c < n + 1) : -(2 ^ 20) ≤ ent rows k c ∧ ent rows k c ≤ 2 ^ 20 := by
  obtain ⟨hl, hb⟩ := h.get hk
  refine hb _ ?_
  unfold Mine.ent
  generalize rows.getD k [] = r at hl
  have hc' : c < r.length := by rw [hl]; exact hc
  rw [List.getD_eq_getElem?_getD, List.getElem?_eq_getElem hc']
  exact List.getElem_mem hc'
theorem fmod_small {a p : Int} (hp : 0 < p ∧ p ≤ 1000) : -(2 ^ 20) ≤ a.fmod p ∧ a.fmod p ≤ 2 ^ 20 := by
  have := Int.fmod_nonneg_of_pos a hp.1
  have := Int.fmod_lt_of_pos a hp.1
  omega
theorem Shape.swap {n : Nat} {rows : List (List Int)} (h : Shape n rows) {a j : Nat} (ha : a < n) (hj : j < n) : Shape n (swapR a j rows) := (h.set a (h.get hj)).set j (h.get ha)
theorem Shape.norm {n : Nat} {rows : List (List Int)} (h : Shape n rows) {p : Int} {c a : Nat} (hp : 0 < p ∧ p ≤ 1000) (ha : a < n) : Shape n (normAt p c a rows) :=
  h.set a ⟨by rw [List.length_map]; exact (h.get ha).1, fun e he => by
    obtain ⟨x, _, rfl⟩ := List.mem_map.mp he
    exact fmod_small hp⟩
theorem Shape.elim {n : Nat} {rows : List (List Int)} (h : Shape n rows) {p : Int} {c a : Nat} (hp : 0 < p ∧ p ≤ 1000) (ha : a < n) : ∀ k, k ≤ n → Shape n (elimN p c a rows k)
  | 0, _ => h
  | k + 1, hk => by
    have ih := h.elim (c := c) hp ha k (by omega)
    show Shape n (if k = a then _ else _)
    split
    · exact ih
    · refine ih.set k ⟨by rw [List.length_zipWith, (ih.get (by omega)).1, (ih.get ha).1, Nat.min_self], fun e he => ?_⟩
      obtain ⟨i, hi, rfl⟩ := List.mem_iff_getElem.mp he
      rw [List.getElem_zipWith]
      exact fmod_small hp
theorem mem_places {p : Int} {c a : Nat} {rows : List (List Int)} {j : Nat} (h : j ∈ places p c a rows) : a ≤ j ∧ j < rows.length ∧ (ent rows j c).fmod p ≠ 0 := by
  obtain ⟨h1, h2⟩ := List.mem_filter.mp h
  obtain ⟨i, hi, rfl⟩ := List.mem_map.mp h1
  have := List.mem_range.mp hi
  exact ⟨Nat.le_add_right _ _, by omega, by simpa using h2⟩
/-- what the columns leave -/
structure GOk (n i : Nat) (st : List (List Int) × List Nat) : Prop where
  sh : Shape n st.1
  le : st.2.length ≤ n
  lt : ∀ l ∈ st.2, l < i
theorem gok_step {n i : Nat} {st : List (List Int) × List Nat} (h : GOk n i st) {p : Int} (hp : 0 < p ∧ p ≤ 1000) : GOk n (i + 1) (gstep p i st) := by
  unfold gstep
  split
  · exact ⟨h.sh, h.le, fun l hl => Nat.lt_succ_of_lt (h.lt l hl)⟩
  · rename_i j r e
    have hj := mem_places (p := p) (c := i) (a := st.2.length) (rows := st.1) (j := j) (by rw [e]; exact .head _)
    rw [h.sh.len] at hj
    have ha : st.2.length < n := by omega
    refine ⟨?_, by rw [List.length_append, List.length_singleton]; exact ha, fun l hl => ?_⟩
    · rw [h.sh.len]; exact ((h.sh.swap ha hj.2.1).norm hp ha).elim hp ha n (Nat.le_refl _)
    · rcases List.mem_append.mp hl with hl | hl
      · exact Nat.lt_succ_of_lt (h.lt l hl)
      · rw [List.mem_singleton.mp hl]; exact Nat.lt_succ_self _
theorem gok {n : Nat} {rows : List (List Int)} (h : Shape n rows) {p : Int} (hp : 0 < p ∧ p ≤ 1000) : ∀ i, GOk n i (gsteps p rows i)
  | 0 => ⟨h, Nat.zero_le _, fun l hl => by cases hl⟩
  | i + 1 => gok_step (gok h hp i) hp
theorem pigeon : ∀ (l m : List Nat), l.Nodup → (∀ x ∈ l, x ∈ m) → l.length ≤ m.length
  | [], _, _, _ => Nat.zero_le _
  | x :: l, m, nd, h => by
    have hx := h x (.head _)
    have := pigeon l (m.erase x) (List.nodup_cons.mp nd).2 fun y hy => (List.mem_erase_of_ne (fun (e : y = x) => (List.nodup_cons.mp nd).1 (e ▸ hy))).mpr (h y (.tail _ hy))
    rw [List.length_erase_of_mem hx] at this
    have hpos : 0 < m.length := List.length_pos_of_mem hx
    simp only [List.length_cons]
    omega
theorem free_some {n : Nat} {leads : List Nat} (h : leads.length ≤ n) : ∃ f r, freeOf (n + 1) leads = f :: r ∧ f < n + 1 ∧ f ∉ leads := by
  cases e : freeOf (n + 1) leads with
  | nil =>
    have : (List.range (n + 1)).length ≤ leads.length := pigeon _ _ List.nodup_range fun x hx => by
      have := List.filter_eq_nil_iff.mp e x hx
      simpa using this
    rw [List.length_range] at this
    omega
  | cons f r =>
    have hm : f ∈ freeOf (n + 1) leads := by rw [e]; exact .head _
    obtain ⟨h1, h2⟩ := List.mem_filter.mp hm
    exact ⟨f, r, rfl, List.mem_range.mp h1, by simpa using h2⟩
end Mine

/-! ## part M19 -/
namespace Mine
open PySem PySem.W PyProof.Rows PySem.Calls

section
variable {w : World} {A : Around} {env : Env} {Γ : Gm} {β : Bs} {W : List Addr} {s s' : Shared} {E : Value → Shared → Prop} {rest : List Stmt} {Q : Flow → Shared → Prop}
theorem g_len : GlobV w "len" (.builtin "len") := .inr ⟨by k_is, by kernel_rfl, by decide⟩
theorem g_range : GlobV w "range" (.type "range") := .inr ⟨by k_is, by kernel_rfl, by decide⟩
theorem g_list : GlobV w "list" (.type "list") := .inr ⟨by k_is, by kernel_rfl, by decide⟩
theorem g_zip : GlobV w "zip" (.type "zip") := .inr ⟨by k_is, by kernel_rfl, by decide⟩
theorem g_pow : GlobV w "pow" (.builtin "pow") := .inr ⟨by k_is, by kernel_rfl, by decide⟩
theorem g_sum : GlobV w "sum" (.builtin "sum") := .inr ⟨by k_is, by kernel_rfl, by decide⟩

theorem evn_eq {e : Expr} {ds ds' : List D} (h : EvN w A env Γ e ds) (q : ds = ds') : EvN w A env Γ e ds' := q ▸ h
theorem ev_eq {e : Expr} {b b' : B} (h : Ev w A env Γ e b) (q : b = b') : Ev w A env Γ e b' := q ▸ h
theorem src_eq {e : Expr} {ds ds' : List D} (h : Src w A env Γ e ds) (q : ds = ds') : Src w A env Γ e ds' := q ▸ h

theorem src_rangeN {x : Str} {px pos : Pos} {e : Expr} {n : Nat} {n' : Int} (hh : A.handled = none) (he : Ev w A env Γ e (.fro (.int n'))) (hn : n' = n) (h1 : n ≤ 900) (hg : GlobV w x (.type "range")) (hx : env.kindOf x = some .globalImplicit := by rfl) (hd : (x == ("__debug__" : Str)) = false := by rfl)
    (hs : starEach [e] env = [(false, eval e env)] := by rfl)
    (hc : eval (.Call (.Name x px) [e] [] pos) env = (do let f ← eval (.Name x px) env; callWith pos f [] (backTo pos (starEach [e] env)) (backToKw pos (keywordEach [] env))) := by rfl) :
    Src w A env Γ (.Call (.Name x px) [e] [] pos) ((List.range n).map natD) :=
  src_eq (src_range1 hh hg hx hd he (by omega) (by omega) hs hc) (by subst hn; unfold intsFrom; simp)
theorem src_range2N {x : Str} {px pos : Pos} {e₁ e₂ : Expr} {a b : Nat} (hh : A.handled = none) (he : Ev w A env Γ e₁ (.fro (natD a))) (he' : Ev w A env Γ e₂ (.fro (natD b))) (h1 : a ≤ b) (h2 : b ≤ 900) (hg : GlobV w x (.type "range")) (hx : env.kindOf x = some .globalImplicit := by rfl) (hd : (x == ("__debug__" : Str)) = false := by rfl)
    (hs : starEach [e₁, e₂] env = (false, eval e₁ env) :: starEach [e₂] env := by rfl) (hs' : starEach [e₂] env = [(false, eval e₂ env)] := by rfl) (hp : (backTo pos (starEach [e₂] env)).any (·.1) = false := by rfl)
    (hc : eval (.Call (.Name x px) [e₁, e₂] [] pos) env = (do let f ← eval (.Name x px) env; callWith pos f [] (backTo pos (starEach [e₁, e₂] env)) (backToKw pos (keywordEach [] env))) := by rfl) :
    Src w A env Γ (.Call (.Name x px) [e₁, e₂] [] pos) (((List.range (b - a)).map (a + ·)).map natD) :=
  src_eq (src_range2 hh hg hx hd he he' (by omega) (by omega) (by omega) hs hs' hp hc) (by
    unfold intsFrom
    rw [show ((b : Int) - (a : Int)).toNat = b - a by omega, List.map_map]
    refine List.map_congr_left fun i _ => ?_
    show D.int _ = D.int _
    congr 1)
theorem ev_row {e i : Expr} {pos : Pos} {b : B} {rows : List (List Int)} {k : Nat} (he : Ev w A env Γ e b) (hb : b.isL (rows.map rowD)) (hi : Ev w A env Γ i (.fro (natD k))) (hk : k < rows.length) (hz : rows.length ≤ 900) (hsub : SubOk i := by intro _ _ _; with_unfolding_all rfl) :
    Ev w A env Γ (.Subscript e i pos) (.fro (rowD (rows.getD k []))) :=
  ev_item he hb hi (by omega) (by omega) (by
    rw [Int.toNat_natCast, List.getElem?_map, List.getElem?_eq_getElem hk, List.getD_eq_getElem?_getD, List.getElem?_eq_getElem hk]; rfl) hsub
theorem ev_ent {e i : Expr} {pos : Pos} {b : B} {r : List Int} {k : Nat} (he : Ev w A env Γ e b) (hb : b.isL (r.map .int)) (hi : Ev w A env Γ i (.fro (natD k))) (hk : k < r.length) (hz : r.length ≤ 900) (hsub : SubOk i := by intro _ _ _; with_unfolding_all rfl) :
    Ev w A env Γ (.Subscript e i pos) (.fro (.int (r.getD k 0))) :=
  ev_item he hb hi (by omega) (by omega) (by
    rw [Int.toNat_natCast, List.getElem?_map, List.getElem?_eq_getElem hk, List.getD_eq_getElem?_getD, List.getElem?_eq_getElem hk]; rfl) hsub
theorem ev_nat {e i : Expr} {pos : Pos} {b : B} {r : List Nat} {k : Nat} (he : Ev w A env Γ e b) (hb : b.isL (r.map natD)) (hi : Ev w A env Γ i (.fro (natD k))) (hk : k < r.length) (hz : r.length ≤ 900) (hsub : SubOk i := by intro _ _ _; with_unfolding_all rfl) :
    Ev w A env Γ (.Subscript e i pos) (.fro (natD (r.getD k 0))) :=
  ev_item he hb hi (by omega) (by omega) (by
    rw [Int.toNat_natCast, List.getElem?_map, List.getElem?_eq_getElem hk, List.getD_eq_getElem?_getD, List.getElem?_eq_getElem hk]; rfl) hsub
theorem x_setN {x : Str} {px xp pos : Pos} {i e : Expr} {ds : List D} {d : D} {k : Nat} (S : St w β env W Γ s) (he : Ev w A env Γ e (.fro d)) (hx : Γ.get x = some (.own ds)) (hkx : Kind env x) (hdx : (x == ("__debug__" : Str)) = false)
    (hi : Ev w A env Γ i (.fro (natD k))) (h1 : k < ds.length) (hz : ds.length ≤ 900)
    (q : ∀ s', St w β env W ((x, .own (ds.set k d)) :: Γ) s' → wpAny (M w) A (execs rest env) Q E s')
    (hs : swapsWith e (some (.Subscript (.Name x px) i xp)) pos.line env = pure false := by rfl) : wpAny (M w) A (execs (.Assign [.Subscript (.Name x px) i xp] e pos :: rest) env) Q E s :=
  x_setitem S he hx hkx hdx hi (by omega) (by omega) (by omega) (by rw [Int.toNat_natCast]; exact q) hs

abbrev tG (p : Int) (n : Nat) (rs : List (List Int)) (leads : List Nat) : Gm := [("rows", .own (rs.map rowD)), ("leads", .own (leads.map natD)), ("wide", .fro (.int ((n : Nat) + 1))), ("p", .fro (.int p))]

theorem len_rows {rows : List (List Int)} : (rows.map rowD).length = rows.length := List.length_map _

theorem ne_cell {k : Option NameKind} (h : k = some .cell) : k ≠ some .local := by rw [h]; decide
theorem range_get {n i : Nat} {d : D} (h : ((List.range n).map natD)[i]? = some d) : i < n ∧ d = natD i := by
  rw [List.getElem?_map] at h
  by_cases hi : i < n
  · rw [List.getElem?_range hi] at h; cases h; exact ⟨hi, rfl⟩
  · rw [List.getElem?_eq_none (by rw [List.length_range]; omega)] at h; cases h
def fPl (p : Int) (i : Nat) (rs : List (List Int)) : D → Option D
  | .int k => if (ent rs k.toNat i).fmod p != 0 then some (.int k) else none
  | _ => none
theorem fPl_eq (p : Int) (i a : Nat) (rs : List (List Int)) : ((((List.range (rs.length - a)).map (a + ·)).map natD).filterMap (fPl p i rs)) = (places p i a rs).map natD := by
  unfold places
  generalize (List.range (rs.length - a)).map (a + ·) = l
  induction l with
  | nil => rfl
  | cons k l ih =>
    have ef : fPl p i rs (natD k) = if (ent rs k i).fmod p != 0 then some (natD k) else none := by
      show (if (ent rs (((k : Nat) : Int)).toNat i).fmod p != 0 then _ else _) = _
      rw [Int.toNat_natCast]
    rw [List.map_cons, List.filterMap_cons, List.filter_cons, ih, ef]
    cases (ent rs k i).fmod p != 0 <;> rfl
def fMul (b p : Int) : D → Option D
  | .int e => some (.int ((e * b).fmod p))
  | _ => none
theorem fMul_eq (b p : Int) (l : List Int) : (l.map D.int).filterMap (fMul b p) = (l.map fun e => (e * b).fmod p).map D.int := by
  induction l with
  | nil => rfl
  | cons e l ih => rw [List.map_cons, List.filterMap_cons, ih]; rfl
def fElim (s p : Int) : D → Option D
  | .tup [.int a, .int b] => some (.int ((a - s * b).fmod p))
  | _ => none
theorem fElim_eq (s p : Int) : ∀ (l m : List Int), (List.zipWith (fun d e => D.tup [d, e]) (l.map D.int) (m.map D.int)).filterMap (fElim s p) = (List.zipWith (fun one two => (one - s * two).fmod p) l m).map D.int
  | [], m => by simp
  | _ :: _, [] => by simp
  | a :: l, b :: m => by
    have ih := fElim_eq s p l m
    simp only [List.map_cons, List.zipWith_cons_cons, List.filterMap_cons]
    rw [ih]; rfl

abbrev cG (p : Int) (n i a : Nat) (rs : List (List Int)) (leads : List Nat) : Gm := [("rows", .own (rs.map rowD)), ("at", .fro (natD a)), ("column", .fro (natD i)), ("leads", .own (leads.map natD)), ("wide", .fro (.int ((n : Nat) + 1))), ("p", .fro (.int p))]

abbrev aG (p : Int) (n f : Nat) (rs : List (List Int)) (leads : List Nat) (an : List Int) : Gm := [("answer", .own (an.map .int)), ("free", .fro (natD f)), ("rows", .own (rs.map rowD)), ("leads", .own (leads.map natD)), ("wide", .fro (.int ((n : Nat) + 1))), ("p", .fro (.int p))]
def fFree (leads : List Nat) : D → Option D
  | .int c => if !leads.contains c.toNat then some (.int c) else none
  | _ => none
theorem fFree_nat (leads : List Nat) (c : Nat) : fFree leads (natD c) = if !leads.contains c then some (natD c) else none := by
  show (if !leads.contains (((c : Nat) : Int)).toNat then _ else _) = _
  rw [Int.toNat_natCast]
theorem fFree_eq (leads : List Nat) (l : List Nat) : (l.map natD).filterMap (fFree leads) = (l.filter fun c => !leads.contains c).map natD := by
  induction l with
  | nil => rfl
  | cons c l ih =>
    rw [List.map_cons, List.filterMap_cons, List.filter_cons, ih, fFree_nat]
    cases !leads.contains c <;> rfl
theorem any_nat (leads : List Nat) (c : Nat) : (leads.map fun n : Nat => (n : Int)).any (· == (c : Int)) = leads.contains c := by
  induction leads with
  | nil => rfl
  | cons n l ih =>
    rw [List.map_cons, List.any_cons, ih, List.contains_cons]
    congr 1
    by_cases h : n = c
    · subst h; rw [beq_self_eq_true, beq_self_eq_true]
    · have h2 : ¬ ((n : Int) = c) := by omega
      have h3 : ¬ (c = n) := fun e => h e.symm
      rw [beq_eq_false_iff_ne.mpr h2, beq_eq_false_iff_ne.mpr h3]
theorem ansN_len {p : Int} {rows : List (List Int)} {leads : List Nat} {free n : Nat} : ∀ k, (ansN p rows leads free n k).length = n
  | 0 => by show ((List.replicate n (0 : Int)).set free 1).length = n; rw [List.length_set, List.length_replicate]
  | k + 1 => by show (List.set _ _ _).length = n; rw [List.length_set, ansN_len k]

set_option maxHeartbeats 4000000 in
theorem law_through {p : Int} {n : Nat} {rows : List (List Int)} (hS : Shape n rows) (hn : n ≤ 50) (hp : 2 ≤ p ∧ p ≤ 1000) (hh : A.handled = none) (hA : A.depth < 930) : CallB w A (.ref 217) ([D.lst (rows.map rowD), .int p].map B.fro) (.fro (.lst ((gauss p rows).map .int))) := by
  have hp0 : p ≠ 0 := by omega
  have hl := hS.len
  have hlr : (rows.map rowD).length ≤ 900 := by rw [List.length_map, hl]; omega
  have hh' : ∀ env, (A.deeper env).handled = none := fun env => hh
  refine fn_call (ps := ["rows", "p"]) (by k_is) (by k_is) (by omega) (fun vs h => ?_) rfl (by decide) fun L β W s Q E S q => ?_
  · match vs, h with
    | [a, b], _ => with_unfolding_all rfl
  refine x_tup3N (ds := rows.map rowD) (es := []) (d := .int ((n : Nat) + 1)) (hh' _) S ?h1 (evn_list evl_nil (by decide)) ?h3 (.inr ⟨rfl, rfl⟩) (.inr ⟨rfl, rfl⟩) (.inl rfl) fun a b s S => ?_
  case h1 =>
    refine evn_eq (ds := (rows.map rowD).filterMap some) ?_ List.filterMap_some
    refine evn_comp (hh' _) (srcC_list (hh' _) nm isL_fro) (by omega) (by with_unfolding_all rfl) (by exact trivial) (fun d => [("row", .fro d)]) some [] (fun C => trivial) (fun C d hd => assignL_name rfl) fun C d hd => ?_
    obtain ⟨r, hr, rfl⟩ := List.mem_map.mp hd
    refine ⟨_, rfl, ?_⟩
    refine ev_new (evn_call g_list rfl rfl (.inr (.inl ⟨_, rfl⟩)) (evl_cons nm evl_nil) (call_listOf isL_fro ?_))
    rw [List.length_map, (hS.row r hr).1]; omega
  case h3 =>
    refine ev_eq (ev_bin (ev_call g_len rfl rfl (.inl ⟨_, rfl⟩) (evl_cons nm evl_nil) (call_len isL_fro (by omega))) li (op_add _ _)) ?_
    rw [List.length_map, hl]
  replace S := S.sub (Γ' := tG p n (gsteps p rows 0).1 (gsteps p rows 0).2) (sub_cons rfl (sub_cons rfl (sub_cons rfl (sub_cons rfl sub_nil))))
  refine x_for (ds := (List.range (n + 1)).map natD) (hh' _) S (src_rangeN (hh' _) nm (by omega) (by omega) g_range) (fun d => [("column", .fro d)]) (fun i Γ => Γ = tG p n (gsteps p rows i).1 (gsteps p rows i).2) rfl (fun d _ => assign_name (.inr ⟨rfl, rfl⟩)) ?turn ?done
  case turn =>
    intro β' i d W' Γ' s' Q' E' hd hI S' k
    subst hI
    obtain ⟨hi, rfl⟩ := range_get hd
    have g := gok hS (p := p) (by omega) i
    have hgs : gsteps p rows (i + 1) = gstep p i (gsteps p rows i) := rfl
    rw [hgs] at k
    generalize gsteps p rows i = st at S' g k
    obtain ⟨rs, leads⟩ := st
    obtain ⟨gS, gle, glt⟩ := g
    dsimp only at gS gle glt S'
    have hrl := gS.len
    refine x_assign (d := natD leads.length) S' (ev_eq (ev_call g_len rfl rfl (.inl ⟨_, rfl⟩) (evl_cons nm evl_nil) (call_len isL_own (by rw [List.length_map]; omega))) (by rw [List.length_map])) (.inl rfl) fun s S => ?_
    refine x_comp (hh' _) S (srcC_of (src_range2N (a := leads.length) (b := rs.length) (hh' _) nm (ev_eq (ev_call g_len rfl rfl (.inl ⟨_, rfl⟩) (evl_cons nm evl_nil) (call_len isL_own (by rw [List.length_map]; omega))) (by rw [List.length_map])) (by omega) (by omega) g_range))
      (by rw [List.length_map, List.length_map, List.length_range]; omega) (by with_unfolding_all rfl) (by exact ⟨rfl, rfl, rfl, trivial⟩) (fun d => [("k", .fro d)]) (fPl p i rs) [("column", .fro (natD i)), ("p", .fro (.int p)), ("rows", .own (rs.map rowD))]
      (by exact fun C => ⟨rfl, ne_cell rfl, ne_cell rfl, ⟨_, rfl, rfl⟩, rfl, ne_cell rfl, ne_cell rfl, ⟨_, rfl, rfl⟩, rfl, ne_cell rfl, ne_cell rfl, ⟨_, rfl, rfl⟩, trivial⟩) (fun C d hd => assignL_name rfl) (fun C d hd => ?hturn) (.inl rfl) fun a s S => ?_
    case hturn =>
      obtain ⟨k', hk', rfl⟩ := List.mem_map.mp hd
      obtain ⟨j', hj', rfl⟩ := List.mem_map.mp hk'
      have hj2 := List.mem_range.mp hj'
      have hlt : leads.length + j' < n := by omega
      refine ⟨(ent rs (leads.length + j') i).fmod p != 0, evt_cmp (ev_bin (ev_ent (r := rs.getD (leads.length + j') []) (ev_row nm isL_own nm (by omega) (by omega)) isL_fro nm (by rw [(gS.get hlt).1]; omega) (by rw [(gS.get hlt).1]; omega)) nm (op_mod _ _ hp0)) li (cmp_ne _ _), ?_⟩
      have ef : fPl p i rs (natD (leads.length + j')) = if (ent rs (leads.length + j') i).fmod p != 0 then some (natD (leads.length + j')) else none := by
        show (if (ent rs (((leads.length + j' : Nat) : Int)).toNat i).fmod p != 0 then _ else _) = _
        rw [Int.toNat_natCast]
      rw [ef]
      cases (ent rs (leads.length + j') i).fmod p != 0 with
      | true => exact ⟨_, rfl, nm⟩
      | false => rfl
    rw [fPl_eq] at S
    refine x_if S (evt_name (ds := (places p i leads.length rs).map natD) rfl isL_own (.inl rfl) rfl (by
      rw [List.length_map]
      exact Nat.le_trans (List.length_filter_le _ _) (by rw [List.length_map, List.length_range]; omega))) fun s S => ?_
    cases hpl : places p i leads.length rs with
    | nil =>
      rw [if_neg (by decide)]
      refine x_nil ?_
      refine x_nil ?_
      refine k _ _ s ?_ (S.sub (Γ' := tG p n rs leads) (sub_cons rfl (sub_cons rfl (sub_cons rfl (sub_cons rfl sub_nil)))))
      unfold gstep
      dsimp only
      rw [hpl]
    | cons j r =>
      rw [if_pos (by rfl)]
      rw [hpl] at S
      have hj := mem_places (p := p) (c := i) (a := leads.length) (rows := rs) (j := j) (by rw [hpl]; exact .head _)
      have hjn : j < n := by omega
      have ha : leads.length < n := by omega
      have hjz : ∀ {Γ : Gm} {b : B} {env : Env} {A : Around}, Γ.get "places" = some (.own ((j :: r).map natD)) → True := fun _ => trivial
      have hrz : (j :: r).length ≤ 900 := by
        rw [← hpl]
        exact Nat.le_trans (List.length_filter_le _ _) (by rw [List.length_map, List.length_range]; omega)
      have gst : gstep p i (rs, leads) = (elimN p i leads.length (normAt p i leads.length (swapR leads.length j rs)) rs.length, leads ++ [i]) := by
        unfold gstep
        dsimp only
        rw [hpl]
      rw [gst] at k
      refine x_swap (d₁ := rowD (rs.getD j [])) (d₂ := rowD (rs.getD leads.length [])) (j₁ := (leads.length : Nat)) (j₂ := (j : Nat)) (hh' _) S
        (ev_tuple (ds := [rowD (rs.getD j []), rowD (rs.getD leads.length [])]) (evl_cons (ev_row nm isL_own (ev_nat (r := j :: r) (k := 0) nm isL_own li (by simp) hrz) (by omega) (by omega)) (evl_cons (ev_row nm isL_own nm (by omega) (by omega)) evl_nil)) (Nat.le_of_ble_eq_true rfl))
        rfl (.inr ⟨.inl rfl, rfl⟩) rfl nm (fun b => ev_nat (r := j :: r) (k := 0) nm isL_own li (by simp) hrz) (by omega) (by rw [List.length_map]; omega) (by omega) (by rw [List.length_map]; omega) (by rw [List.length_map]; omega) fun s S => ?_
      have e1 : (((rs.map rowD).set ((leads.length : Nat) : Int).toNat (rowD (rs.getD j []))).set ((j : Nat) : Int).toNat (rowD (rs.getD leads.length []))) = (swapR leads.length j rs).map rowD := by
        unfold swapR
        rw [Int.toNat_natCast, Int.toNat_natCast, List.map_set, List.map_set]
      rw [e1] at S
      have g1 := gS.swap ha hjn
      replace S := S.sub (Γ' := cG p n i leads.length (swapR leads.length j rs) leads) (sub_cons rfl (sub_cons rfl (sub_cons rfl (sub_cons rfl (sub_cons rfl (sub_cons rfl sub_nil))))))
      generalize swapR leads.length j rs = r1 at S g1 k
      have l1 := g1.len
      refine x_assign (d := .int (powm (ent r1 leads.length i) (p - 2) p)) S (ev_call g_pow rfl rfl (.inl ⟨_, rfl⟩) (evl_cons (ev_ent (r := r1.getD leads.length []) (ev_row nm isL_own nm (by omega) (by omega)) isL_fro nm (by rw [(g1.get ha).1]; omega) (by rw [(g1.get ha).1]; omega)) (evl_cons (ev_bin nm li (op_sub _ _)) (evl_cons nm evl_nil))) (call_pow3 _ _ _ (by omega) (by omega))) (.inr ⟨rfl, rfl⟩) fun s S => ?_
      have br : ∀ e ∈ r1.getD leads.length [], -(2 ^ 40) ≤ e ∧ e ≤ 2 ^ 40 := fun e he => by have := (g1.get ha).2 e he; omega
      refine x_setN (k := leads.length) (d := rowD ((r1.getD leads.length []).map fun e => (e * powm (ent r1 leads.length i) (p - 2) p).fmod p)) S (ev_new (evn_eq (ds := ((r1.getD leads.length []).map D.int).filterMap (fMul (powm (ent r1 leads.length i) (p - 2) p) p)) ?hval (fMul_eq _ _ _))) rfl (.inr ⟨.inl rfl, rfl⟩) rfl nm (by rw [List.length_map]; omega) (by rw [List.length_map]; omega) fun s S => ?_
      case hval =>
        refine evn_comp (hh' _) (srcC_list (hh' _) (ev_row nm isL_own nm (by omega) (by omega)) isL_fro) (by rw [List.length_map, (g1.get ha).1]; omega) (by with_unfolding_all rfl) (by exact ⟨rfl, rfl, trivial⟩) (fun d => [("one", .fro d)]) _ [("back", .fro (.int (powm (ent r1 leads.length i) (p - 2) p))), ("p", .fro (.int p))]
          (by exact fun C => ⟨rfl, ne_cell rfl, ne_cell rfl, ⟨_, rfl, rfl⟩, rfl, ne_cell rfl, ne_cell rfl, ⟨_, rfl, rfl⟩, trivial⟩) (fun C d hd => assignL_name rfl) (fun C d hd => ?_)
        obtain ⟨e, he, rfl⟩ := List.mem_map.mp hd
        exact ⟨_, rfl, ev_bin (ev_bin nm nm (op_mul _ _ (br e he))) nm (op_mod _ _ hp0)⟩
      have e2 : (r1.map rowD).set leads.length (rowD ((r1.getD leads.length []).map fun e => (e * powm (ent r1 leads.length i) (p - 2) p).fmod p)) = (normAt p i leads.length r1).map rowD := by
        unfold normAt
        rw [List.map_set]
      rw [e2] at S
      have g2 := g1.norm (p := p) (c := i) (by omega) ha
      replace S := S.sub (Γ' := cG p n i leads.length (normAt p i leads.length r1) leads) (sub_cons rfl (sub_cons rfl (sub_cons rfl (sub_cons rfl (sub_cons rfl (sub_cons rfl sub_nil))))))
      generalize normAt p i leads.length r1 = r2 at S g2 k
      have l2 := g2.len
      refine x_for (ds := (List.range rs.length).map natD) (hh' _) S (src_rangeN (hh' _) (ev_call g_len rfl rfl (.inl ⟨_, rfl⟩) (evl_cons nm evl_nil) (call_len isL_own (by rw [List.length_map]; omega))) (by rw [List.length_map]; omega) (by omega) g_range) (fun d => [("k", .fro d)]) (fun m Γ => Γ = cG p n i leads.length (elimN p i leads.length r2 m) leads) rfl (fun d _ => assign_name (.inl rfl)) ?turn2 ?done2
      case turn2 =>
        intro β2 m d W2 Γ2 s2 Q2 E2 hd2 hI2 S k2
        subst hI2
        obtain ⟨hm, rfl⟩ := range_get hd2
        have g3 := g2.elim (p := p) (c := i) (by omega) ha m (by omega)
        have hel : elimN p i leads.length r2 (m + 1) = if m = leads.length then elimN p i leads.length r2 m else (elimN p i leads.length r2 m).set m (List.zipWith (fun one two => (one - ent (elimN p i leads.length r2 m) m i * two).fmod p) ((elimN p i leads.length r2 m).getD m []) ((elimN p i leads.length r2 m).getD leads.length [])) := rfl
        rw [hel] at k2
        generalize elimN p i leads.length r2 m = r3 at S g3 k2
        have l3 := g3.len
        have hmn : m < n := by omega
        refine x_if S (evt_cmp nm nm (cmp_ne _ _)) fun s S => ?_
        by_cases hma : m = leads.length
        · rw [if_pos hma] at k2
          have hb : (((m : Nat) : Int) != ((leads.length : Nat) : Int)) = false := by simp [hma]
          rw [hb, if_neg (by decide)]
          refine x_nil ?_
          refine x_nil ?_
          exact k2 _ _ s rfl (S.sub (sub_cons rfl (sub_cons rfl (sub_cons rfl (sub_cons rfl (sub_cons rfl (sub_cons rfl sub_nil)))))))
        · rw [if_neg hma] at k2
          have hb : (((m : Nat) : Int) != ((leads.length : Nat) : Int)) = true := by simp; omega
          rw [hb, if_pos rfl]
          have bs := g3.ent (c := i) hmn (by omega)
          refine x_assign (d := .int (ent r3 m i)) S (ev_ent (r := r3.getD m []) (ev_row nm isL_own nm (by omega) (by omega)) isL_fro nm (by rw [(g3.get hmn).1]; omega) (by rw [(g3.get hmn).1]; omega)) (.inr ⟨rfl, rfl⟩) fun s S => ?_
          refine x_setN (k := m) (d := rowD (List.zipWith (fun one two => (one - ent r3 m i * two).fmod p) (r3.getD m []) (r3.getD leads.length []))) S (ev_new (evn_eq (ds := (List.zipWith (fun d e => D.tup [d, e]) ((r3.getD m []).map D.int) ((r3.getD leads.length []).map D.int)).filterMap (fElim (ent r3 m i) p)) ?hval2 (fElim_eq _ _ _ _))) rfl (.inr ⟨.inl rfl, rfl⟩) rfl nm (by rw [List.length_map]; omega) (by rw [List.length_map]; omega) fun s S => ?_
          case hval2 =>
            refine evn_comp (hh' _) (src_zip (hh' _) g_zip rfl rfl (ev_row nm isL_own nm (by omega) (by omega)) isL_fro (ev_row nm isL_own nm (by omega) (by omega)) isL_fro) (by rw [List.length_zipWith, List.length_map, (g3.get hmn).1]; omega) (by with_unfolding_all rfl) (by exact ⟨rfl, rfl, trivial⟩) (fun d => match d with | .tup [a, b] => [("two", .fro b), ("one", .fro a)] | _ => []) _ [("p", .fro (.int p)), ("share", .fro (.int (ent r3 m i)))]
              (by exact fun C => ⟨rfl, ne_cell rfl, ne_cell rfl, ⟨_, rfl, rfl⟩, rfl, ne_cell rfl, ne_cell rfl, ⟨_, rfl, rfl⟩, trivial⟩) (fun C d hd => ?_) (fun C d hd => ?_)
            · obtain ⟨q, hq, e⟩ := List.mem_iff_getElem.mp hd
              rw [List.getElem_zipWith] at e
              subst e
              exact assignL_two (hh' _) rfl rfl
            · obtain ⟨q, hq, e⟩ := List.mem_iff_getElem.mp hd
              rw [List.getElem_zipWith, List.getElem_map, List.getElem_map] at e
              subst e
              exact ⟨_, rfl, ev_bin (ev_bin nm (ev_bin nm nm (op_mul _ _ (by omega))) (op_sub _ _)) nm (op_mod _ _ hp0)⟩
          refine x_nil ?_
          refine x_nil ?_
          have e3 : (r3.map rowD).set m (rowD (List.zipWith (fun one two => (one - ent r3 m i * two).fmod p) (r3.getD m []) (r3.getD leads.length []))) = (r3.set m (List.zipWith (fun one two => (one - ent r3 m i * two).fmod p) (r3.getD m []) (r3.getD leads.length []))).map rowD := by
            rw [List.map_set]
          rw [e3] at S
          exact k2 _ _ s rfl (S.sub (sub_cons rfl (sub_cons rfl (sub_cons rfl (sub_cons rfl (sub_cons rfl (sub_cons rfl sub_nil)))))))
      case done2 =>
        intro W2 Γ2 s2 hI2 S
        subst hI2
        rw [List.length_map, List.length_range] at S
        refine x_append S rfl (.inr ⟨.inl rfl, rfl⟩) rfl (d := natD i) nm (by rw [List.length_map]; omega) fun s S => ?_
        refine x_nil ?_
        refine x_nil ?_
        have e4 : leads.map natD ++ [natD i] = (leads ++ [i]).map natD := by simp
        rw [e4] at S
        exact k _ _ s rfl (S.sub (sub_cons rfl (sub_cons rfl (sub_cons rfl (sub_cons rfl sub_nil)))))
  case done =>
    intro W' Γ' s' hI S
    subst hI
    rw [List.length_map, List.length_range] at S
    have g := gok hS (p := p) (by omega) (n + 1)
    have hG : gauss p rows = ansN p (gsteps p rows (n + 1)).1 (gsteps p rows (n + 1)).2 ((freeOf (n + 1) (gsteps p rows (n + 1)).2).headD 0) (n + 1) (gsteps p rows (n + 1)).2.length := by unfold gauss; rw [hl]
    rw [hG] at q
    generalize gsteps p rows (n + 1) = st at S g q
    obtain ⟨rs, leads⟩ := st
    obtain ⟨gS, gle, glt⟩ := g
    dsimp only at gS gle glt S q
    have hrl := gS.len
    obtain ⟨f, r, hf, hfn, hfl⟩ := free_some gle
    rw [hf] at q
    have hfz : (freeOf (n + 1) leads).length ≤ 900 := Nat.le_trans (List.length_filter_le _ _) (by rw [List.length_range]; omega)
    refine x_assign (d := natD f) S (ev_eq (ev_nat (r := freeOf (n + 1) leads) (k := 0) (ev_new (evn_eq (ds := ((List.range (n + 1)).map natD).filterMap (fFree leads)) ?hval (fFree_eq _ _))) isL_fro li (by rw [hf]; simp) hfz) (by rw [hf]; rfl)) (.inl rfl) fun s S => ?_
    case hval =>
      refine evn_comp (hh' _) (srcC_of (src_rangeN (hh' _) nm (by omega) (by omega) g_range)) (by rw [List.length_map, List.length_range]; omega) (by with_unfolding_all rfl) (by exact ⟨rfl, trivial⟩) (fun d => [("column", .fro d)]) _ [("leads", .own (leads.map natD))]
        (by exact fun C => ⟨rfl, ne_cell rfl, ne_cell rfl, ⟨_, rfl, rfl⟩, trivial⟩) (fun C d hd => assignL_name rfl) (fun C d hd => ?_)
      obtain ⟨c, hc, rfl⟩ := List.mem_map.mp hd
      refine ⟨!leads.contains c, any_nat leads c ▸ evt_cmp nm nm (cmp_notin_ints _ (ns := leads.map fun n : Nat => (n : Int)) (.inr (by rw [List.map_map]; rfl))), ?_⟩
      rw [fFree_nat]
      cases !leads.contains c with
      | true => exact ⟨_, rfl, nm⟩
      | false => rfl
    have erep : List.replicate (((n : Nat) : Int) + 1).toNat (D.int 0) = (List.replicate (n + 1) (0 : Int)).map D.int := by
      rw [List.map_replicate, show (((n : Nat) : Int) + 1).toNat = n + 1 by omega]
    refine x_assignN (ds := (List.replicate (n + 1) (0 : Int)).map D.int) S (evn_eq (ds := List.replicate (((n : Nat) : Int) + 1).toNat (D.int 0)) (evn_mul (ds := []) (d := D.int 0) (n := (n : Nat) + 1) (evn_list (ds := [D.int 0]) (evl_cons li evl_nil) (Nat.le_of_ble_eq_true rfl)) nm (by omega) (by omega)) erep) (.inl rfl) fun a s S => ?_
    refine x_setN (k := f) (d := .int 1) S li rfl (.inl rfl) rfl nm (by rw [List.length_map, List.length_replicate]; omega) (by rw [List.length_map, List.length_replicate]; omega) fun s S => ?_
    have e5 : ((List.replicate (n + 1) (0 : Int)).map D.int).set f (.int 1) = (ansN p rs leads f (n + 1) 0).map D.int := by
      show _ = ((List.replicate (n + 1) (0 : Int)).set f 1).map D.int
      rw [List.map_set]
    rw [e5] at S
    replace S := S.sub (Γ' := aG p n f rs leads (ansN p rs leads f (n + 1) 0)) (sub_cons rfl (sub_cons rfl (sub_cons rfl (sub_cons rfl (sub_cons rfl (sub_cons rfl sub_nil))))))
    refine x_for (ds := (List.range leads.length).map natD) (hh' _) S (src_rangeN (hh' _) (ev_call g_len rfl rfl (.inl ⟨_, rfl⟩) (evl_cons nm evl_nil) (call_len isL_own (by rw [List.length_map]; omega))) (by rw [List.length_map]) (by omega) g_range) (fun d => [("at", .fro d)]) (fun m Γ => Γ = aG p n f rs leads (ansN p rs leads f (n + 1) m)) rfl (fun d _ => assign_name (.inl rfl)) ?turn3 ?done3
    case turn3 =>
      intro β2 m d W2 Γ2 s2 Q2 E2 hd2 hI2 S k2
      subst hI2
      obtain ⟨hm, rfl⟩ := range_get hd2
      have hel : ansN p rs leads f (n + 1) (m + 1) = (ansN p rs leads f (n + 1) m).set (leads.getD m 0) ((-(ent rs m f)).fmod p) := rfl
      rw [hel] at k2
      have hlen := ansN_len (p := p) (rows := rs) (leads := leads) (free := f) (n := n + 1) m
      generalize ansN p rs leads f (n + 1) m = an at S hlen k2
      have hmn : m < n := by omega
      have hld : leads.getD m 0 < n + 1 := glt _ (by
        rw [List.getD_eq_getElem?_getD, List.getElem?_eq_getElem hm]
        exact List.getElem_mem hm)
      refine x_setN (k := leads.getD m 0) (d := .int ((-(ent rs m f)).fmod p)) S (ev_bin (ev_neg (ev_ent (r := rs.getD m []) (ev_row nm isL_own nm (by omega) (by omega)) isL_fro nm (by rw [(gS.get hmn).1]; omega) (by rw [(gS.get hmn).1]; omega))) nm (op_mod _ _ hp0)) rfl (.inl rfl) rfl (ev_nat nm isL_own nm hm (by omega)) (by rw [List.length_map, hlen]; exact hld) (by rw [List.length_map]; omega) fun s S => ?_
      have e6 : (an.map D.int).set (leads.getD m 0) (.int ((-(ent rs m f)).fmod p)) = (an.set (leads.getD m 0) ((-(ent rs m f)).fmod p)).map D.int := by
        rw [List.map_set]
      rw [e6] at S
      refine x_nil ?_
      exact k2 _ _ s rfl (S.sub (sub_cons rfl (sub_cons rfl (sub_cons rfl (sub_cons rfl (sub_cons rfl (sub_cons rfl sub_nil)))))))
    case done3 =>
      intro W2 Γ2 s2 hI2 S
      subst hI2
      rw [List.length_map, List.length_range] at S
      obtain ⟨W3, _, S3⟩ := S.freeze (x := "answer") (Γ' := []) rfl (fun y b e => by cases e)
      exact x_ret S3 nm fun v s' S' r => q v W3 _ s' S' r
end
end Mine

/-! ## part M20 -/
namespace Mine
open PySem PySem.W PyProof.Rows PySem.Calls

/-! ### the law, in plain words -/
def restL : List Int := [0, 2, 1, 4, 9, 2, 7, 3, 5, 0]
def cellsOf (ns : List Int) : List Int := ns.take 10 ++ restL.drop (ns.take 10).length
def primesL : List Int := [7, 11, 19, 23, 31]
def pOf (cells : List Int) : Int := primesL.getD ((cells.getD 0 0).fmod 5).toNat 7
def cOf (cells : List Int) (p : Int) : Int := 1 + (cells.getD 1 0).fmod (p - 1)
def yOf (p c x : Int) : Int := powm (x ^ 3 + c) ((p + 1).fdiv 4) p
def ptsAt (p c x : Int) : List (Int × Int) := cond ((yOf p c x * yOf p c x - x ^ 3 - c).fmod p == 0) (cond (yOf p c x != 0) [(x, yOf p c x), (x, p - yOf p c x)] [(x, yOf p c x)]) []
def ptsN (p c : Int) : Nat → List (Int × Int)
  | 0 => []
  | k + 1 => ptsN p c k ++ ptsAt p c k
def points (p c : Int) : List (Int × Int) := ptsN p c p.toNat
def onC (p c : Int) (P : Int × Int) : Prop := (P.2 * P.2 - P.1 ^ 3 - c).fmod p = 0
def inR (p : Int) (P : Int × Int) : Prop := (0 ≤ P.1 ∧ P.1 < p) ∧ (0 ≤ P.2 ∧ P.2 < p)
def zOf (p sc : Int) (i : Nat) : Int := 1 + (sc * i + sc).fmod (p - 1)
def form (p z : Int) (P : Int × Int) : Trip := ((P.1 * z).fmod p, (P.2 * z).fmod p, z.fmod p)
def formsOf (p sc : Int) : Nat → List (Int × Int) → List Trip
  | _, [] => []
  | i, P :: r => form p (zOf p sc i) P :: formsOf p sc (i + 1) r
def stepT (p : Int) (b : Bool) (t f : Trip) : Trip := cond b (addI p t f) (addI p f t)
def totOf (p : Int) (b : Bool) : List Trip → Trip
  | [] => (0, 0, 0)
  | t :: r => r.foldl (stepT p b) t
def rowOf (m : Int) (P : Int × Int) : List Int := parts P.1 P.2 m
def dot (f g : List Int) : Int := (List.zipWith (fun one two => one * two) f g).sum
def fOf (p : Int) (tk : List (Int × Int)) : List Int := gauss p (tk.map (rowOf ((tk.length : Nat) + 1)))
def affT (p : Int) (R : Int × Int) : Trip := (R.1.fmod p, R.2.fmod p, (1 : Int).fmod p)
def PlainLaw : Prop := ∀ (p c sc : Int) (tk : List (Int × Int)) (b : Bool), p ∈ primesL → 1 ≤ c ∧ c < p → 1 ≤ sc ∧ sc < p → tk ≠ [] → tk.length ≤ 5 → tk.Nodup → (∀ P ∈ tk, inR p P ∧ onC p c P) →
  (((totOf p b (formsOf p sc 0 tk)).2.2 == (0 : Int).fmod p) = ((fOf p tk).getD ((fOf p tk).length - 1) 0 == 0)) ∧
  ∀ R, inR p R → onC p c R → R ∉ tk → ((addI p (totOf p b (formsOf p sc 0 tk)) (affT p R)).2.2 == (0 : Int).fmod p) = ((dot (fOf p tk) (parts R.1 R.2 ((tk.length : Nat) + 1))).fmod p == 0)

theorem p_mem (cells : List Int) : pOf cells ∈ primesL := by
  unfold pOf
  have h1 := Int.fmod_nonneg_of_pos (cells.getD 0 0) (show (0 : Int) < 5 by decide)
  have h2 := Int.fmod_lt_of_pos (cells.getD 0 0) (show (0 : Int) < 5 by decide)
  have : ((cells.getD 0 0).fmod 5).toNat < primesL.length := by show _ < 5; omega
  rw [List.getD_eq_getElem?_getD, List.getElem?_eq_getElem this]
  exact List.getElem_mem this
theorem p_bd {p : Int} (h : p ∈ primesL) : 7 ≤ p ∧ p ≤ 31 := by
  unfold primesL at h
  simp only [List.mem_cons, List.not_mem_nil, or_false] at h
  omega

theorem foldl_lt {m : Nat} {f : Nat → Nat → Nat} (hf : ∀ a b, f a b < m) : ∀ (l : List Nat) (a : Nat), a < m → l.foldl f a < m
  | [], _, h => h
  | b :: l, a, _ => foldl_lt hf l _ (hf a b)
theorem powMod_lt (b e m : Nat) (hm : 0 < m) : PySem.Builtin.powMod b e m < m := by
  unfold PySem.Builtin.powMod
  refine foldl_lt (fun p i => ?_) _ _ (Nat.mod_lt _ hm)
  split
  · exact Nat.mod_lt _ hm
  · exact Nat.mod_lt _ hm
theorem powm_bd (a e m : Int) (hm : 0 < m) : 0 ≤ powm a e m ∧ powm a e m < m := by
  unfold powm
  have := powMod_lt (a % m).toNat e.natAbs m.natAbs (by omega)
  omega
theorem ptsAt_len (p c x : Int) : (ptsAt p c x).length ≤ 2 := by
  unfold ptsAt
  cases (yOf p c x * yOf p c x - x ^ 3 - c).fmod p == 0
  · show 0 ≤ 2; omega
  · cases yOf p c x != 0
    · show 1 ≤ 2; omega
    · show 2 ≤ 2; omega
theorem ptsN_len (p c : Int) : ∀ i, (ptsN p c i).length ≤ 2 * i
  | 0 => Nat.le_refl _
  | i + 1 => by
    show (ptsN p c i ++ ptsAt p c i).length ≤ _
    rw [List.length_append]
    have := ptsN_len p c i
    have := ptsAt_len p c i
    omega
theorem onC_neg {p c x y : Int} (hp : 0 < p) (h : onC p c (x, y)) : onC p c (x, p - y) := by
  have h : (y * y - x ^ 3 - c).fmod p = 0 := h
  show ((p - y) * (p - y) - x ^ 3 - c).fmod p = 0
  rw [Int.fmod_eq_emod_of_nonneg _ (by omega)] at h ⊢
  have e : (p - y) * (p - y) - x ^ 3 - c = (y * y - x ^ 3 - c) + (p - 2 * y) * p := by
    rw [Int.sub_mul, Int.sub_mul, Int.mul_sub, Int.mul_sub, Int.mul_comm y p, Int.mul_assoc 2 y p, Int.mul_comm y p]
    omega
  rw [e, Int.add_mul_emod_self_right]
  exact h
theorem ptsAt_mem {p c : Int} {x : Int} {P : Int × Int} (hp : 0 < p) (hx : 0 ≤ x ∧ x < p) (h : P ∈ ptsAt p c x) : P.1 = x ∧ inR p P ∧ onC p c P := by
  have hy := powm_bd (x ^ 3 + c) ((p + 1).fdiv 4) p hp
  change 0 ≤ yOf p c x ∧ yOf p c x < p at hy
  unfold ptsAt at h
  cases hb : (yOf p c x * yOf p c x - x ^ 3 - c).fmod p == 0 with
  | false => rw [hb] at h; cases h
  | true =>
    rw [hb] at h
    have ho : onC p c (x, yOf p c x) := beq_iff_eq.mp hb
    cases hy0 : yOf p c x != 0 with
    | false =>
      rw [hy0] at h
      rw [List.mem_singleton.mp h]
      exact ⟨rfl, ⟨hx, hy⟩, ho⟩
    | true =>
      rw [hy0] at h
      have hne : yOf p c x ≠ 0 := by simpa using hy0
      rcases List.mem_cons.mp h with rfl | h
      · exact ⟨rfl, ⟨hx, hy⟩, ho⟩
      · rw [List.mem_singleton.mp h]
        exact ⟨rfl, ⟨hx, by constructor <;> (dsimp only; omega)⟩, onC_neg hp ho⟩
theorem ptsAt_nodup {p c x : Int} (hp : p % 2 = 1) : (ptsAt p c x).Nodup := by
  unfold ptsAt
  cases (yOf p c x * yOf p c x - x ^ 3 - c).fmod p == 0
  · exact List.nodup_nil
  · cases yOf p c x != 0
    · show [(x, yOf p c x)].Nodup
      simp
    · show [(x, yOf p c x), (x, p - yOf p c x)].Nodup
      refine List.nodup_cons.mpr ⟨fun h => ?_, by simp⟩
      have := congrArg Prod.snd (List.mem_singleton.mp h)
      dsimp only at this
      omega
theorem ptsN_ok {p c : Int} (hp : 0 < p) (hp2 : p % 2 = 1) : ∀ k : Nat, (k : Int) ≤ p → (ptsN p c k).Nodup ∧ ∀ P ∈ ptsN p c k, P.1 < k ∧ inR p P ∧ onC p c P
  | 0, _ => ⟨List.nodup_nil, fun P h => by cases h⟩
  | k + 1, hk => by
    obtain ⟨h1, h2⟩ := ptsN_ok hp hp2 k (by omega)
    have h3 : ∀ P ∈ ptsAt p c k, P.1 = (k : Int) ∧ inR p P ∧ onC p c P := fun P h => ptsAt_mem hp ⟨by omega, by omega⟩ h
    show (ptsN p c k ++ ptsAt p c k).Nodup ∧ ∀ P ∈ ptsN p c k ++ ptsAt p c k, _
    refine ⟨List.nodup_append.mpr ⟨h1, ptsAt_nodup hp2, fun a ha b hb e => ?_⟩, fun P h => ?_⟩
    · have e1 := (h2 a ha).1
      have e2 := (h3 b hb).1
      rw [e] at e1; omega
    · rcases List.mem_append.mp h with h | h
      · obtain ⟨a, b⟩ := h2 P h
        exact ⟨by omega, b⟩
      · obtain ⟨a, b⟩ := h3 P h
        exact ⟨by omega, b⟩
theorem ptsN_sub {p c : Int} {x : Nat} {P : Int × Int} (h : P ∈ ptsAt p c x) : ∀ k, x < k → P ∈ ptsN p c k
  | k + 1, hk => by
    show P ∈ ptsN p c k ++ ptsAt p c k
    by_cases e : x = k
    · subst e; exact List.mem_append_right _ h
    · exact List.mem_append_left _ (ptsN_sub h k (by omega))
/-- there is a point -/
def chk (p c : Int) : Bool := (List.range p.toNat).any fun x => (yOf p c x * yOf p c x - (x : Int) ^ 3 - c).fmod p == 0
def chkAll (p : Int) (n : Nat) : Bool := (List.range n).all fun c => chk p ((c : Nat) + 1)
theorem chk7 : chkAll 7 6 = true := by decide +kernel
theorem chk11 : chkAll 11 10 = true := by decide +kernel
theorem chk19 : chkAll 19 18 = true := by decide +kernel
theorem chk23 : chkAll 23 22 = true := by decide +kernel
theorem chk31 : chkAll 31 30 = true := by decide +kernel
theorem chk_get {p c : Int} {n : Nat} (h : chkAll p n = true) (hc : 1 ≤ c ∧ c ≤ n) : chk p c = true := by
  have := List.all_eq_true.mp h (c - 1).toNat (List.mem_range.mpr (by omega))
  rw [show (((c - 1).toNat : Nat) : Int) + 1 = c by omega] at this
  exact this
theorem chk_ne {p c : Int} (h : chk p c = true) : points p c ≠ [] := by
  obtain ⟨x, hx, hb⟩ := List.any_eq_true.mp h
  have hx := List.mem_range.mp hx
  have hm : ((x : Int), yOf p c x) ∈ ptsAt p c x := by
    unfold ptsAt
    rw [hb]
    cases yOf p c x != 0
    · exact .head _
    · exact .head _
  intro e
  have := ptsN_sub hm p.toNat hx
  unfold points at e
  rw [e] at this; cases this
theorem pts_ok {p c : Int} (hp : p ∈ primesL) (hc : 1 ≤ c ∧ c < p) : points p c ≠ [] ∧ (points p c).length ≤ 70 ∧ (points p c).Nodup ∧ ∀ P ∈ points p c, inR p P ∧ onC p c P := by
  have h : chk p c = true ∧ p % 2 = 1 := by
    unfold primesL at hp
    simp only [List.mem_cons, List.not_mem_nil, or_false] at hp
    rcases hp with rfl | rfl | rfl | rfl | rfl
    · exact ⟨chk_get chk7 (by omega), rfl⟩
    · exact ⟨chk_get chk11 (by omega), rfl⟩
    · exact ⟨chk_get chk19 (by omega), rfl⟩
    · exact ⟨chk_get chk23 (by omega), rfl⟩
    · exact ⟨chk_get chk31 (by omega), rfl⟩
  have hb := p_bd hp
  have hl := ptsN_len p c p.toNat
  obtain ⟨h1, h2⟩ := ptsN_ok (c := c) (show 0 < p by omega) h.2 p.toNat (by omega)
  exact ⟨chk_ne h.1, by unfold points; omega, h1, fun P hP => (h2 P hP).2⟩
end Mine

/-! ## part N1 -/
namespace Mine
open Lean.Grind (CommRing)

structure Crv (F A : Type) [CommRing F] [CommRing A] (c : F) where
  C : F → A
  x : A
  y : A
  C_add : ∀ a b, C (a + b) = C a + C b
  C_mul : ∀ a b, C (a * b) = C a * C b
  C_one : C 1 = 1
  curve : y * y = x * x * x + C c
  L : Nat → A → Prop
  L_add : ∀ {n u v}, L n u → L n v → L n (u + v)
  L_mul : ∀ {n m u v}, L n u → L m v → L (n + m) (u * v)
  L_mono : ∀ {n m u}, n ≤ m → L n u → L m u
  L_C : ∀ a, L 0 (C a)
  L_x : L 2 x
  L_y : L 3 y
  L_one : ∀ {u}, L 1 u → ∃ a, u = C a
  L_two : ∀ {u}, L 2 u → ∃ a b, u = C a + C b * x
  div_x : ∀ {a n N u}, L N u → L (n + 2) ((x - C a) * u) → L n u
  div_l : ∀ {a b n N u}, L N u → L (n + 3) ((y - (C a * x + C b)) * u) → L n u
  indep : ∀ {a b d}, C a + C b * x + C d * y = 0 → a = 0 ∧ b = 0 ∧ d = 0

/-- on the curve -/
def On {F : Type} [CommRing F] (c : F) (P : F × F) : Prop := P.2 * P.2 = P.1 * P.1 * P.1 + c

namespace Crv
variable {F A : Type} [CommRing F] [CommRing A] {c : F} (K : Crv F A c)

def Poly (u : A) : Prop := ∃ n, K.L n u
def In : List (F × F) → A → Prop
  | [], u => K.Poly u
  | P :: D, u => ∃ g h, In D g ∧ In D h ∧ u = (K.x - K.C P.1) * g + (K.y - K.C P.2) * h

theorem C_zero : K.C 0 = 0 := by
  have := K.C_add 0 0
  have e : (0 : F) + 0 = 0 := by grind
  rw [e] at this
  grind
theorem C_neg (a : F) : K.C (-a) = -K.C a := by
  have := K.C_add a (-a)
  have e : a + -a = 0 := by grind
  rw [e, K.C_zero] at this
  grind
theorem C_sub (a b : F) : K.C (a - b) = K.C a - K.C b := by
  have e : a - b = a + -b := by grind
  rw [e, K.C_add, K.C_neg]; grind
theorem C_inj {a : F} (h : K.C a = 0) : a = 0 := by
  refine (K.indep (a := a) (b := 0) (d := 0) ?_).1
  rw [h, K.C_zero]; grind
theorem L_neg {n : Nat} {u : A} (h : K.L n u) : K.L n (-u) := by
  have := K.L_mul (K.L_C (-1)) h
  rw [K.C_neg, K.C_one] at this
  rw [Nat.zero_add] at this
  have e : -u = -1 * u := by grind
  rw [e]; exact this
theorem L_sub {n : Nat} {u v : A} (h : K.L n u) (h' : K.L n v) : K.L n (u - v) := by
  have e : u - v = u + -v := by grind
  rw [e]; exact K.L_add h (K.L_neg h')
theorem L_zero (n : Nat) : K.L n 0 := by
  have := K.L_C 0
  rw [K.C_zero] at this
  exact K.L_mono (Nat.zero_le _) this
theorem poly_C (a : F) : K.Poly (K.C a) := ⟨0, K.L_C a⟩
theorem poly_x : K.Poly K.x := ⟨2, K.L_x⟩
theorem poly_y : K.Poly K.y := ⟨3, K.L_y⟩
theorem poly_add {u v : A} : K.Poly u → K.Poly v → K.Poly (u + v) := fun ⟨n, h⟩ ⟨m, h'⟩ => ⟨max n m, K.L_add (K.L_mono (Nat.le_max_left _ _) h) (K.L_mono (Nat.le_max_right _ _) h')⟩
theorem poly_mul {u v : A} : K.Poly u → K.Poly v → K.Poly (u * v) := fun ⟨n, h⟩ ⟨m, h'⟩ => ⟨n + m, K.L_mul h h'⟩
theorem poly_neg {u : A} : K.Poly u → K.Poly (-u) := fun ⟨n, h⟩ => ⟨n, K.L_neg h⟩
theorem poly_sub {u v : A} (h : K.Poly u) (h' : K.Poly v) : K.Poly (u - v) := by
  have e : u - v = u + -v := by grind
  rw [e]; exact K.poly_add h (K.poly_neg h')
theorem poly_xa (a : F) : K.Poly (K.x - K.C a) := K.poly_sub K.poly_x (K.poly_C a)
theorem poly_ya (a : F) : K.Poly (K.y - K.C a) := K.poly_sub K.poly_y (K.poly_C a)
theorem in_poly : ∀ {D : List (F × F)} {u : A}, K.In D u → K.Poly u
  | [], _, h => h
  | P :: D, u, ⟨g, h, hg, hh, e⟩ => by
    rw [e]
    exact K.poly_add (K.poly_mul (K.poly_xa _) (in_poly hg)) (K.poly_mul (K.poly_ya _) (in_poly hh))
theorem in_add : ∀ {D : List (F × F)} {u v : A}, K.In D u → K.In D v → K.In D (u + v)
  | [], _, _, h, h' => K.poly_add h h'
  | P :: D, u, v, ⟨g, h, hg, hh, e⟩, ⟨g', h', hg', hh', e'⟩ => ⟨g + g', h + h', in_add hg hg', in_add hh hh', by rw [e, e']; grind⟩
theorem in_mul : ∀ {D : List (F × F)} {u v : A}, K.Poly v → K.In D u → K.In D (v * u)
  | [], _, _, h, h' => K.poly_mul h h'
  | P :: D, u, v, p, ⟨g, h, hg, hh, e⟩ => ⟨v * g, v * h, in_mul p hg, in_mul p hh, by rw [e]; grind⟩
theorem in_neg {D : List (F × F)} {u : A} (h : K.In D u) : K.In D (-u) := by
  have := K.in_mul (K.poly_C (-1)) h
  rw [K.C_neg, K.C_one] at this
  have e : -u = -1 * u := by grind
  rw [e]; exact this
theorem in_sub {D : List (F × F)} {u v : A} (h : K.In D u) (h' : K.In D v) : K.In D (u - v) := by
  have e : u - v = u + -v := by grind
  rw [e]; exact K.in_add h (K.in_neg h')
theorem cancel {a : F} {u : A} (p : K.Poly u) (h : (K.x - K.C a) * u = 0) : u = 0 := by
  obtain ⟨N, hN⟩ := p
  have h0 : K.L 0 u := K.div_x (a := a) hN (by rw [h]; exact K.L_zero _)
  obtain ⟨k, rfl⟩ := K.L_one (K.L_mono (Nat.zero_le _) h0)
  have hk : k = 0 := by
    refine (K.indep (a := -(a * k)) (b := k) (d := 0) ?_).2.1
    rw [K.C_neg, K.C_mul, K.C_zero]
    grind
  rw [hk, K.C_zero]
theorem cancel' {a : F} {u v : A} (p : K.Poly u) (q : K.Poly v) (h : (K.x - K.C a) * u = (K.x - K.C a) * v) : u = v := by
  have := K.cancel (a := a) (K.poly_sub p q) (by grind)
  grind

theorem rg1 {A : Type} [CommRing A] (x y a b d g h : A) (hc : y * y = x * x * x + d) (hr : b * b = a * a * a + d) : (x - a) * ((y + b) * g + (x * x + x * a + a * a) * h) = (y + b) * ((x - a) * g + (y - b) * h) := by grind
theorem rg2 {A : Type} [CommRing A] (x y a b k k' i w : A) (hi : i * k = 1) (e : (x - a) * w = (y + b) * k) : (x - a) * (i * w) = y + b := by grind
theorem rg3 {A : Type} [CommRing A] (h : (-1 : A) = 0) : (1 : A) = 0 := by grind
theorem C_on {R : F × F} (hR : On c R) : K.C R.2 * K.C R.2 = K.C R.1 * K.C R.1 * K.C R.1 + K.C c := by
  rw [← K.C_mul, hR, K.C_add, K.C_mul, K.C_mul]
theorem no_one {R : F × F} (hR : On c R) (inv : ∀ a : F, a ≠ 0 → ∃ i, i * a = 1) (ne : (1 : F) ≠ 0) {k : F} (h : K.In [R] (K.C k)) : k = 0 := by
  apply Classical.byContradiction
  intro hk
  obtain ⟨i, hi⟩ := inv k hk
  obtain ⟨g, h, hg, hh, e⟩ := h
  obtain ⟨n, hn⟩ : K.Poly (K.C i * ((K.y + K.C R.2) * g + (K.x * K.x + K.x * K.C R.1 + K.C R.1 * K.C R.1) * h)) := by
    refine K.poly_mul (K.poly_C _) (K.poly_add (K.poly_mul (K.poly_add K.poly_y (K.poly_C _)) hg) (K.poly_mul (K.poly_add (K.poly_add (K.poly_mul K.poly_x K.poly_x) (K.poly_mul K.poly_x (K.poly_C _))) (K.poly_mul (K.poly_C _) (K.poly_C _))) hh))
  have hik : K.C i * K.C k = 1 := by rw [← K.C_mul, hi, K.C_one]
  have e1 := rg1 K.x K.y (K.C R.1) (K.C R.2) (K.C c) g h K.curve (K.C_on hR)
  rw [← e] at e1
  have e2 := rg2 _ _ _ _ _ (K.C k) _ _ hik e1
  have h1 := K.div_x (a := R.1) (n := 1) hn (by rw [e2]; exact K.L_add K.L_y (K.L_mono (Nat.zero_le _) (K.L_C _)))
  obtain ⟨k', hk'⟩ := K.L_one h1
  rw [hk'] at e2
  have := (K.indep (a := -(R.1 * k') - R.2) (b := k') (d := -1) (by
    rw [K.C_sub, K.C_neg, K.C_neg, K.C_mul, K.C_one]; clear e1 hk' h1 hn hik e; grind)).2.2
  exact ne (rg3 this)
end Crv
end Mine

/-! ## part N2 -/
namespace Mine
open Lean.Grind (CommRing)
section
variable {F : Type} [CommRing F]
/-- the slope of the line through two points, or of the tangent -/
structure Slope (P Q : F × F) (m : F) : Prop where
  on : Q.2 = P.2 + m * (Q.1 - P.1)
  tg : Q.1 * Q.1 + Q.1 * P.1 + P.1 * P.1 - 2 * P.2 * m - m * m * (Q.1 - P.1) = 0
  kind : (∃ i, i * (Q.1 - P.1) = 1) ∨ (Q.1 = P.1 ∧ ∃ i, i * (2 * P.2) = 1)
def AddR (P Q : F × F) : Option (F × F) → Prop
  | none => Q.1 = P.1 ∧ Q.2 = -P.2
  | some T => ∃ m, Slope P Q m ∧ T.1 = m * m - P.1 - Q.1 ∧ T.2 = m * (P.1 - T.1) - P.2
def AddO : Option (F × F) → F × F → Option (F × F) → Prop
  | none, Q, T => T = some Q
  | some P, Q, T => AddR P Q T
def SumR : Option (F × F) → List (F × F) → Option (F × F) → Prop
  | S, [], T => T = S
  | S, Q :: J, T => ∃ S', AddO S Q S' ∧ SumR S' J T

/-- the norm of the line: all rings -/
theorem nrm {A : Type} [CommRing A] (x y d a1 b1 a2 m t : A) (hc : y * y = x * x * x + d) (h1 : b1 * b1 = a1 * a1 * a1 + d) (tg : a2 * a2 + a2 * a1 + a1 * a1 - 2 * b1 * m - m * m * (a2 - a1) = 0) (ht : t = m * m - a1 - a2) :
    (y - (m * x + (b1 - m * a1))) * (y + (m * x + (b1 - m * a1))) = (x - a1) * (x - a2) * (x - t) := by
  have e : (y - (m * x + (b1 - m * a1))) * (y + (m * x + (b1 - m * a1))) = (x - a1) * (x - a2) * (x - (m * m - a1 - a2)) + (x - a1) * (a2 * a2 + a2 * a1 + a1 * a1 - 2 * b1 * m - m * m * (a2 - a1)) + (y * y - (x * x * x + d)) - (b1 * b1 - (a1 * a1 * a1 + d)) := by clear hc h1 tg ht; grind
  rw [e, tg, hc, h1, ht]
  clear e hc h1 tg ht
  grind
theorem on_id {A : Type} [CommRing A] (t s d a1 b1 a2 m : A) (h1 : b1 * b1 = a1 * a1 * a1 + d) (tg : a2 * a2 + a2 * a1 + a1 * a1 - 2 * b1 * m - m * m * (a2 - a1) = 0) (ht : t = m * m - a1 - a2) (hs : s = m * (a1 - t) - b1) : s * s = t * t * t + d := by
  have e : s * s = t * t * t + d - (t - a1) * (t - a2) * (t - (m * m - a1 - a2)) - (t - a1) * (a2 * a2 + a2 * a1 + a1 * a1 - 2 * b1 * m - m * m * (a2 - a1)) + (b1 * b1 - (a1 * a1 * a1 + d)) := by rw [hs]; clear h1 tg ht hs; grind
  rw [e, tg, h1, ← ht]
  clear e h1 tg ht hs
  grind
theorem on_T {c : F} {P Q T : F × F} {m : F} (hP : On c P) (h : Slope P Q m) (e1 : T.1 = m * m - P.1 - Q.1) (e2 : T.2 = m * (P.1 - T.1) - P.2) : On c T := on_id T.1 T.2 c P.1 P.2 Q.1 m hP h.tg e1 e2
theorem on_AddO {c : F} {S : Option (F × F)} {Q : F × F} {T : Option (F × F)} (hS : ∀ P, S = some P → On c P) (hQ : On c Q) (h : AddO S Q T) : ∀ P, T = some P → On c P := by
  intro P e
  subst e
  match S, h with
  | none, h => cases h; exact hQ
  | some P, ⟨m, hm, e1, e2⟩ => exact on_T (hS _ rfl) hm e1 e2
end

namespace Crv
variable {F A : Type} [CommRing F] [CommRing A] {c : F} (K : Crv F A c)

theorem in2 {P Q : F × F} {J : List (F × F)} {u : A} : K.In (P :: Q :: J) u ↔ ∃ j1 j2 j3 j4, K.In J j1 ∧ K.In J j2 ∧ K.In J j3 ∧ K.In J j4 ∧
    u = (K.x - K.C P.1) * (K.x - K.C Q.1) * j1 + (K.x - K.C P.1) * (K.y - K.C Q.2) * j2 + (K.y - K.C P.2) * (K.x - K.C Q.1) * j3 + (K.y - K.C P.2) * (K.y - K.C Q.2) * j4 := by
  constructor
  · rintro ⟨g, h, ⟨g1, g2, a1, a2, e1⟩, ⟨h1, h2, b1, b2, e2⟩, e⟩
    exact ⟨g1, g2, h1, h2, a1, a2, b1, b2, by rw [e, e1, e2]; grind⟩
  · rintro ⟨j1, j2, j3, j4, h1, h2, h3, h4, e⟩
    exact ⟨_, _, ⟨j1, j2, h1, h2, rfl⟩, ⟨j3, j4, h3, h4, rfl⟩, by rw [e]; grind⟩

/-- the line -/
abbrev line (P : F × F) (m : F) : A := K.y - (K.C m * K.x + K.C (P.2 - m * P.1))
abbrev lineT (P : F × F) (m : F) : A := K.y + (K.C m * K.x + K.C (P.2 - m * P.1))
theorem poly_line (P : F × F) (m : F) : K.Poly (K.line P m) := K.poly_sub K.poly_y (K.poly_add (K.poly_mul (K.poly_C _) K.poly_x) (K.poly_C _))

theorem nrmK {P Q T : F × F} {m : F} (hP : On c P) (h : Slope P Q m) (e1 : T.1 = m * m - P.1 - Q.1) : K.line P m * K.lineT P m = (K.x - K.C P.1) * (K.x - K.C Q.1) * (K.x - K.C T.1) := by
  have h0 := nrm K.x K.y (K.C c) (K.C P.1) (K.C P.2) (K.C Q.1) (K.C m) (K.C T.1) K.curve (K.C_on hP) (by
    have := congrArg K.C h.tg
    have e : (2 : F) * P.2 * m = P.2 * m + P.2 * m := by grind
    rw [e, K.C_zero, K.C_sub, K.C_sub, K.C_add, K.C_add, K.C_add, K.C_mul, K.C_mul, K.C_mul, K.C_mul, K.C_mul, K.C_mul, K.C_sub] at this
    clear e e1 h hP
    grind) (by rw [e1, K.C_sub, K.C_sub, K.C_mul])
  unfold line lineT
  rw [K.C_sub, K.C_mul]
  exact h0

theorem fwd_id {A : Type} [CommRing A] (x y a1 b1 a2 b2 t s m l n j1 j2 j3 j4 : A) (hn : l * n = (x - a1) * (x - a2) * (x - t)) (h1 : y - b1 = l + m * (x - a1)) (h2 : y - b2 = l + m * (x - a2)) (ht : n = (y - s) + m * (x - t)) :
    (x - t) * ((x - a1) * (x - a2) * j1 + (x - a1) * (y - b2) * j2 + (y - b1) * (x - a2) * j3 + (y - b1) * (y - b2) * j4) =
    l * ((x - t) * (m * (j1 + m * j2 + m * j3 + m * m * j4) + (x - a1) * j2 + (x - a2) * j3 + (l + m * (x - a1) + m * (x - a2)) * j4) + (y - s) * (j1 + m * j2 + m * j3 + m * m * j4)) := by
  rw [h1, h2]
  have e : (x - t) * (m * (j1 + m * j2 + m * j3 + m * m * j4) + (x - a1) * j2 + (x - a2) * j3 + (l + m * (x - a1) + m * (x - a2)) * j4) + (y - s) * (j1 + m * j2 + m * j3 + m * m * j4) = n * (j1 + m * j2 + m * j3 + m * m * j4) + (x - t) * ((x - a1) * j2 + (x - a2) * j3 + (l + m * (x - a1) + m * (x - a2)) * j4) := by rw [ht]; grind
  rw [e]
  clear e ht h1 h2
  have e : l * (n * (j1 + m * j2 + m * j3 + m * m * j4) + (x - t) * ((x - a1) * j2 + (x - a2) * j3 + (l + m * (x - a1) + m * (x - a2)) * j4)) = (l * n) * (j1 + m * j2 + m * j3 + m * m * j4) + l * (x - t) * ((x - a1) * j2 + (x - a2) * j3 + (l + m * (x - a1) + m * (x - a2)) * j4) := by grind
  rw [e, hn]
  clear e hn
  grind

theorem lin1 {P : F × F} {m : F} : K.y - K.C P.2 = K.line P m + K.C m * (K.x - K.C P.1) := by
  unfold line; rw [K.C_sub, K.C_mul]; grind
theorem lin2 {P Q : F × F} {m : F} (h : Slope P Q m) : K.y - K.C Q.2 = K.line P m + K.C m * (K.x - K.C Q.1) := by
  unfold line; rw [h.on, K.C_sub, K.C_mul, K.C_add, K.C_mul, K.C_sub]; clear h; grind
theorem lin3 {P T : F × F} {m : F} (e2 : T.2 = m * (P.1 - T.1) - P.2) : K.lineT P m = (K.y - K.C T.2) + K.C m * (K.x - K.C T.1) := by
  unfold lineT; rw [e2, K.C_sub, K.C_mul, K.C_sub, K.C_mul, K.C_sub]; clear e2; grind

theorem fwd {P Q T : F × F} {J : List (F × F)} {m : F} {u : A} (hP : On c P) (h : Slope P Q m) (e1 : T.1 = m * m - P.1 - Q.1) (e2 : T.2 = m * (P.1 - T.1) - P.2) (hu : K.In (P :: Q :: J) u) :
    ∃ v, K.In (T :: J) v ∧ (K.x - K.C T.1) * u = K.line P m * v := by
  obtain ⟨j1, j2, j3, j4, h1, h2, h3, h4, e⟩ := K.in2.mp hu
  have pm := K.poly_C m
  have s : K.In J (j1 + K.C m * j2 + K.C m * j3 + K.C m * K.C m * j4) := K.in_add (K.in_add (K.in_add h1 (K.in_mul pm h2)) (K.in_mul pm h3)) (K.in_mul (K.poly_mul pm pm) h4)
  have g := K.in_add (K.in_add (K.in_add (K.in_mul pm s) (K.in_mul (K.poly_xa P.1) h2)) (K.in_mul (K.poly_xa Q.1) h3)) (K.in_mul (K.poly_add (K.poly_add (K.poly_line P m) (K.poly_mul pm (K.poly_xa P.1))) (K.poly_mul pm (K.poly_xa Q.1))) h4)
  refine ⟨_, ⟨_, _, g, s, rfl⟩, ?_⟩
  rw [e]; exact fwd_id K.x K.y (K.C P.1) (K.C P.2) (K.C Q.1) (K.C Q.2) (K.C T.1) (K.C T.2) (K.C m) (K.line P m) (K.lineT P m) j1 j2 j3 j4 (K.nrmK hP h e1) K.lin1 (K.lin2 h) (K.lin3 e2)

theorem bwd_id {A : Type} [CommRing A] (x y a1 a2 t s m l n k1 k2 : A) (hn : l * n = (x - a1) * (x - a2) * (x - t)) (ht : n = (y - s) + m * (x - t)) :
    l * ((x - t) * k1 + (y - s) * k2) = (x - t) * (l * (k1 - m * k2) + (x - a1) * (x - a2) * k2) := by
  have e : y - s = n - m * (x - t) := by rw [ht]; grind
  rw [e]
  clear e ht
  grind
theorem bwd_k1 {A : Type} [CommRing A] (x y a1 b1 a2 b2 m l i w : A) (h1 : y - b1 = l + m * (x - a1)) (h2 : y - b2 = l + m * (x - a2)) (hi : i * (a2 - a1) = 1) :
    l * w = (x - a1) * (x - a2) * 0 + (x - a1) * (y - b2) * (i * w) + (y - b1) * (x - a2) * (-(i * w)) + (y - b1) * (y - b2) * 0 := by
  rw [h1, h2]
  have e : l * w = (i * (a2 - a1)) * (l * w) := by rw [hi]; grind
  rw [e]; clear e hi h1 h2; grind
theorem bwd_k2 {A : Type} [CommRing A] (x y a1 b1 t m l n i w : A) (h1 : y - b1 = l + m * (x - a1)) (hn : l * n = (x - a1) * (x - a1) * (x - t)) (hs : l + n = 2 * y) (hi : i * (2 * b1) = 1) :
    l * w = (x - a1) * (x - a1) * (i * w * ((x - t) + m * m)) + (x - a1) * (y - b1) * 0 + (y - b1) * (x - a1) * 0 + (y - b1) * (y - b1) * (-(i * w)) := by
  have hb : 2 * b1 = n - l - 2 * m * (x - a1) := by clear hi hn; grind
  have e : l * w = i * w * (l * n - l * l - 2 * m * (x - a1) * l) := by
    have e0 : l * w = (i * (2 * b1)) * (l * w) := by rw [hi]; clear hb hi hs hn h1; grind
    rw [e0, hb]; clear e0 hb hi hs hn h1; grind
  rw [e, hn, h1]
  clear e hb hi hs hn h1
  grind
/-- the line lies in the product of the ideals -/
theorem line_in {P Q T : F × F} {m : F} (hP : On c P) (h : Slope P Q m) (e1 : T.1 = m * m - P.1 - Q.1) {J : List (F × F)} {w : A} (hw : K.In J w) : K.In (P :: Q :: J) (K.line P m * w) := by
  have z : K.In J 0 := by
    have := K.in_mul (K.poly_C 0) hw
    rw [K.C_zero] at this
    have e : (0 : A) = 0 * w := by grind
    rw [e]; exact this
  rcases h.kind with ⟨i, hi⟩ | ⟨ex, i, hi⟩
  · have g := K.in_mul (K.poly_C i) hw
    refine K.in2.mpr ⟨0, _, _, 0, z, g, K.in_neg g, z, ?_⟩
    exact bwd_k1 K.x K.y (K.C P.1) (K.C P.2) (K.C Q.1) (K.C Q.2) (K.C m) (K.line P m) (K.C i) w K.lin1 (K.lin2 h) (by rw [← K.C_sub, ← K.C_mul, hi, K.C_one])
  · have ey : Q.2 = P.2 := by rw [h.on, ex]; clear h hP hi; grind
    have g := K.in_mul (K.poly_C i) hw
    have g1 := K.in_mul (K.poly_add (K.poly_xa T.1) (K.poly_mul (K.poly_C m) (K.poly_C m))) g
    refine K.in2.mpr ⟨_, 0, 0, _, g1, z, z, K.in_neg g, ?_⟩
    have hn := K.nrmK hP h e1
    rw [ex] at hn ⊢
    rw [ey]
    have := bwd_k2 K.x K.y (K.C P.1) (K.C P.2) (K.C T.1) (K.C m) (K.line P m) (K.lineT P m) (K.C i) w K.lin1 hn (by unfold line lineT; clear hn h hP hi; grind) (by
      have e : (2 : F) * P.2 = P.2 + P.2 := by clear hn h hP hi; grind
      have e' : (2 : A) * K.C P.2 = K.C P.2 + K.C P.2 := by clear hn h hP hi; grind
      rw [e', ← K.C_add, ← e, ← K.C_mul, hi, K.C_one])
    rw [this]
    clear this hn h hP hi
    grind
theorem bwd {P Q T : F × F} {J : List (F × F)} {m : F} {u v : A} (hP : On c P) (h : Slope P Q m) (e1 : T.1 = m * m - P.1 - Q.1) (e2 : T.2 = m * (P.1 - T.1) - P.2) (hu : K.Poly u) (hv : K.In (T :: J) v) (e : (K.x - K.C T.1) * u = K.line P m * v) : K.In (P :: Q :: J) u := by
  obtain ⟨k1, k2, h1, h2, ev⟩ := hv
  have g : K.In J (k1 - K.C m * k2) := K.in_sub h1 (K.in_mul (K.poly_C m) h2)
  have g2 : K.In (P :: Q :: J) ((K.x - K.C P.1) * (K.x - K.C Q.1) * k2) := by
    have z : K.In J 0 := by
      have := K.in_mul (K.poly_C 0) h2
      rw [K.C_zero] at this
      have e : (0 : A) = 0 * k2 := by grind
      rw [e]; exact this
    exact K.in2.mpr ⟨k2, 0, 0, 0, h2, z, z, z, by grind⟩
  have gs := K.in_add (K.line_in hP h e1 g) g2
  have := bwd_id K.x K.y (K.C P.1) (K.C Q.1) (K.C T.1) (K.C T.2) (K.C m) (K.line P m) (K.lineT P m) k1 k2 (K.nrmK hP h e1) (K.lin3 e2)
  rw [← ev, ← e] at this
  rw [K.cancel' hu (K.in_poly gs) this]
  exact gs

/-- opposite points -/
theorem opp_fwd {P Q : F × F} {J : List (F × F)} {u : A} (hP : On c P) (hx : Q.1 = P.1) (hy : Q.2 = -P.2) (hu : K.In (P :: Q :: J) u) : ∃ v, K.In J v ∧ u = (K.x - K.C P.1) * v := by
  obtain ⟨j1, j2, j3, j4, h1, h2, h3, h4, e⟩ := K.in2.mp hu
  have g := K.in_add (K.in_add (K.in_add (K.in_mul (K.poly_xa P.1) h1) (K.in_mul (K.poly_add K.poly_y (K.poly_C P.2)) h2)) (K.in_mul (K.poly_ya P.2) h3)) (K.in_mul (K.poly_add (K.poly_add (K.poly_mul K.poly_x K.poly_x) (K.poly_mul K.poly_x (K.poly_C P.1))) (K.poly_mul (K.poly_C P.1) (K.poly_C P.1))) h4)
  refine ⟨_, g, ?_⟩
  rw [e, hx, hy, K.C_neg]
  have h1 := K.curve
  have h2 := K.C_on hP
  clear e hu hP g
  have : (K.y - K.C P.2) * (K.y - -K.C P.2) = (K.x - K.C P.1) * (K.x * K.x + K.x * K.C P.1 + K.C P.1 * K.C P.1) := by grind
  rw [this]
  clear this h1 h2
  grind
theorem opp_id {A : Type} [CommRing A] (x y a b d i : A) (hc : y * y = x * x * x + d) (h : b * b = a * a * a + d) (hi : i * (6 * d) = 1) (w : A) :
    (x - a) * w = (x - a) * (x - a) * (i * 2 * a * (x + 2 * a) * w) + (x - a) * (y - -b) * (i * 3 * b * w) + (y - b) * (x - a) * (-(i * 3 * b * w)) + (y - b) * (y - -b) * (-(i * 2 * a * w)) := by
  have e : (y - b) * (y - -b) = (x - a) * (x * x + x * a + a * a) := by clear hi; grind
  have e2 : (x - a) * w = (i * (6 * d)) * ((x - a) * w) := by rw [hi]; clear e hi h hc; grind
  have e3 : d = b * b - a * a * a := by clear e e2 hi hc; grind
  rw [e, e2, e3]
  clear e e2 e3 hi h hc
  grind
theorem opp_bwd {P Q : F × F} {J : List (F × F)} {v : A} (hP : On c P) (h6 : ∃ i, i * (6 * c) = 1) (hx : Q.1 = P.1) (hy : Q.2 = -P.2) (hv : K.In J v) : K.In (P :: Q :: J) ((K.x - K.C P.1) * v) := by
  obtain ⟨i, hi⟩ := h6
  have hi' : K.C i * (6 * K.C c) = 1 := by
    have e : (6 : F) * c = c + c + c + c + c + c := by clear hi hP; grind
    have e' : (6 : A) * K.C c = K.C c + K.C c + K.C c + K.C c + K.C c + K.C c := by clear hi hP; grind
    rw [e', ← K.C_add, ← K.C_add, ← K.C_add, ← K.C_add, ← K.C_add, ← e, ← K.C_mul, hi, K.C_one]
  have two : K.Poly (2 : A) := by
    have := K.poly_add (K.poly_C 1) (K.poly_C 1)
    rw [K.C_one] at this
    have e : (2 : A) = 1 + 1 := by grind
    rw [e]; exact this
  have three : K.Poly (3 : A) := by
    have := K.poly_add two (K.poly_C 1)
    rw [K.C_one] at this
    have e : (3 : A) = 2 + 1 := by grind
    rw [e]; exact this
  have e := opp_id K.x K.y (K.C P.1) (K.C P.2) (K.C c) (K.C i) K.curve (K.C_on hP) hi' v
  have pi2 := K.poly_mul (K.poly_mul (K.poly_C i) two) (K.poly_C P.1)
  have g3 := K.in_mul (K.poly_mul (K.poly_mul (K.poly_C i) three) (K.poly_C P.2)) hv
  have g1 := K.in_mul (K.poly_mul pi2 (K.poly_add K.poly_x (K.poly_mul two (K.poly_C P.1)))) hv
  have g4 := K.in_mul pi2 hv
  refine K.in2.mpr ⟨_, _, _, _, g1, g3, K.in_neg g3, K.in_neg g4, ?_⟩
  rw [hx, hy, K.C_neg]
  exact e
end Crv
end Mine

/-! ## part N3 -/
namespace Mine
open Lean.Grind (CommRing)
theorem sum_app {F : Type} [CommRing F] : ∀ {D : List (F × F)} {S T : Option (F × F)} {R : F × F} {T' : Option (F × F)}, SumR S D T → AddO T R T' → SumR S (D ++ [R]) T'
  | [], S, T, R, T', h, h' => by
    have h : T = S := h
    subst h
    exact ⟨T', h', rfl⟩
  | Q :: J, S, T, R, T', ⟨S', h1, h2⟩, h' => ⟨S', h1, sum_app h2 h'⟩
namespace Crv
variable {F A : Type} [CommRing F] [CommRing A] {c : F} (K : Crv F A c)
def lst : Option (F × F) → List (F × F) → List (F × F)
  | none, J => J
  | some P, J => P :: J
theorem L_xa {n : Nat} {u : A} (a : F) (h : K.L n u) : K.L (n + 2) ((K.x - K.C a) * u) := by
  have := K.L_mul (K.L_sub K.L_x (K.L_mono (Nat.zero_le 2) (K.L_C a))) h
  rw [Nat.add_comm] at this; exact this
theorem L_line {n : Nat} {u : A} (P : F × F) (m : F) (h : K.L n u) : K.L (n + 3) (K.line P m * u) := by
  have := K.L_mul (K.L_sub K.L_y (K.L_add (K.L_mono (by omega) (K.L_mul (K.L_C m) K.L_x)) (K.L_mono (Nat.zero_le 3) (K.L_C (P.2 - m * P.1))))) h
  rw [Nat.add_comm] at this; exact this
theorem main (inv : ∀ a : F, a ≠ 0 → ∃ i, i * a = 1) (ne : (1 : F) ≠ 0) (h6 : ∃ i, i * (6 * c) = 1) : ∀ (J : List (F × F)) (acc S : Option (F × F)) (u : A), (∀ P, acc = some P → On c P) → (∀ P ∈ J, On c P) → SumR acc J S → K.In (lst acc J) u → K.L ((lst acc J).length + 1) u → u ≠ 0 →
    (K.L (lst acc J).length u ↔ S = none) ∧ ∀ R R', S = some R' → R.1 = R'.1 → R.2 = -R'.2 → K.In (lst acc (J ++ [R])) u
  | [], none, S, u, ha, hJ, hS, hu, hL, h0 => by
    have hS : S = none := hS
    subst hS
    refine ⟨⟨fun _ => rfl, fun _ => ?_⟩, fun R R' e => by cases e⟩
    obtain ⟨k, rfl⟩ := K.L_one hL
    exact K.L_C k
  | [], some P, S, u, ha, hJ, hS, hu, hL, h0 => by
    have hS : S = some P := hS
    subst hS
    have hP := ha P rfl
    refine ⟨⟨fun h => ?_, fun e => by cases e⟩, fun R R' e ex ey => ?_⟩
    · obtain ⟨k, rfl⟩ := K.L_one h
      have := K.no_one hP inv ne hu
      rw [this, K.C_zero] at h0
      exact absurd rfl h0
    · cases e
      obtain ⟨a, b, e⟩ := K.L_two hL
      have z : K.In [] (0 : A) := ⟨0, K.L_zero 0⟩
      have g : K.In [P] ((K.x - K.C P.1) * K.C b) := ⟨K.C b, 0, K.poly_C b, z, by grind⟩
      have g2 := K.in_sub hu g
      have e2 : u - (K.x - K.C P.1) * K.C b = K.C (a + b * P.1) := by rw [e, K.C_add, K.C_mul]; clear e hu h0; grind
      rw [e2] at g2
      have := K.no_one hP inv ne g2
      rw [this, K.C_zero] at e2
      have e3 : u = (K.x - K.C P.1) * K.C b := by clear e; grind
      rw [e3]
      exact K.opp_bwd hP h6 ex ey (K.poly_C b)
  | Q :: J, none, S, u, ha, hJ, hS, hu, hL, h0 => by
    obtain ⟨S', h1, h2⟩ := hS
    have h1 : S' = some Q := h1
    subst h1
    exact main inv ne h6 J (some Q) S u (fun P e => by cases e; exact hJ _ (.head _)) (fun P hP => hJ P (.tail _ hP)) h2 hu hL h0
  | Q :: J, some P, S, u, ha, hJ, hS, hu, hL, h0 => by
    obtain ⟨S', h1, h2⟩ := hS
    have hP := ha P rfl
    have hQ := hJ Q (.head _)
    have hJ' : ∀ P ∈ J, On c P := fun P hP => hJ P (.tail _ hP)
    have pu := K.in_poly hu
    cases S' with
    | none =>
      obtain ⟨ex, ey⟩ : Q.1 = P.1 ∧ Q.2 = -P.2 := h1
      obtain ⟨v, hv, e⟩ := K.opp_fwd hP ex ey hu
      have hN := hL
      rw [e] at hL
      obtain ⟨N, hvN⟩ := K.in_poly hv
      have hv1 : K.L (J.length + 1) v := K.div_x hvN hL
      have v0 : v ≠ 0 := fun e0 => h0 (by rw [e, e0]; grind)
      have ih := main inv ne h6 J none S v (fun _ e => by cases e) hJ' h2 hv hv1 v0
      refine ⟨⟨fun h => ih.1.mp ?_, fun h => ?_⟩, fun R R' eS ex' ey' => ?_⟩
      · rw [e] at h; exact K.div_x hvN h
      · rw [e]; exact K.L_xa _ (ih.1.mpr h)
      · rw [e]; exact K.opp_bwd hP h6 ex ey (ih.2 R R' eS ex' ey')
    | some T =>
      obtain ⟨m, hm, e1, e2⟩ := h1
      obtain ⟨v, hv, e⟩ := K.fwd hP hm e1 e2 hu
      obtain ⟨N, hvN⟩ := K.in_poly hv
      obtain ⟨N', huN⟩ := pu
      have hT : On c T := on_T hP hm e1 e2
      have hv1 : K.L (J.length + 1 + 1) v := K.div_l (a := m) (b := P.2 - m * P.1) hvN (by have := K.L_xa T.1 hL; rw [e] at this; exact this)
      have v0 : v ≠ 0 := fun e0 => h0 (K.cancel (a := T.1) ⟨N', huN⟩ (by rw [e, e0]; grind))
      have ih := main inv ne h6 J (some T) S v (fun P e => by cases e; exact hT) hJ' h2 hv hv1 v0
      refine ⟨⟨fun h => ih.1.mp ?_, fun h => ?_⟩, fun R R' eS ex' ey' => ?_⟩
      · exact K.div_l (a := m) (b := P.2 - m * P.1) hvN (by have := K.L_xa T.1 h; rw [e] at this; exact this)
      · exact K.div_x (a := T.1) huN (by rw [e]; exact K.L_line P m (ih.1.mpr h))
      · exact K.bwd hP hm e1 e2 ⟨N', huN⟩ (ih.2 R R' eS ex' ey') e

theorem in_swap {P Q : F × F} {J : List (F × F)} {u : A} (h : K.In (P :: Q :: J) u) : K.In (Q :: P :: J) u := by
  obtain ⟨j1, j2, j3, j4, h1, h2, h3, h4, e⟩ := K.in2.mp h
  exact K.in2.mpr ⟨j1, j3, j2, j4, h1, h3, h2, h4, by rw [e]; clear e h; grind⟩
theorem in_last : ∀ {D : List (F × F)} {R : F × F} {u : A}, K.In (R :: D) u ↔ K.In (D ++ [R]) u
  | [], _, _ => Iff.rfl
  | P :: D, R, u => by
    constructor
    · intro h
      obtain ⟨g, h', hg, hh, e⟩ := K.in_swap h
      exact ⟨g, h', in_last.mp hg, in_last.mp hh, e⟩
    · rintro ⟨g, h', hg, hh, e⟩
      exact K.in_swap ⟨g, h', in_last.mpr hg, in_last.mpr hh, e⟩
theorem in_head {D : List (F × F)} {R : F × F} {u : A} (h : K.In (R :: D) u) : K.In [R] u := by
  obtain ⟨g, h', hg, hh, e⟩ := h
  exact ⟨g, h', K.in_poly hg, K.in_poly hh, e⟩
theorem comax (inv : ∀ a : F, a ≠ 0 → ∃ i, i * a = 1) {R : F × F} : ∀ {D : List (F × F)}, R ∉ D → ∃ b, K.In D b ∧ K.In [R] (1 - b)
  | [], _ => ⟨1, by rw [← K.C_one]; exact K.poly_C 1, 0, 0, ⟨0, K.L_zero 0⟩, ⟨0, K.L_zero 0⟩, by grind⟩
  | P :: D, h => by
    obtain ⟨b, hb, hr⟩ := comax inv (R := R) (D := D) fun h' => h (.tail _ h')
    have z : K.In D (0 : A) := by
      have := K.in_mul (K.poly_C 0) hb
      rw [K.C_zero] at this
      have e : (0 : A) = 0 * b := by grind
      rw [e]; exact this
    have z0 : K.In [] (0 : A) := ⟨0, K.L_zero 0⟩
    by_cases hx : R.1 - P.1 = 0
    · have hy : R.2 - P.2 ≠ 0 := fun hy => h (by
        have : R = P := Prod.ext (by clear hy; grind) (by clear hx; grind)
        rw [this]; exact .head _)
      obtain ⟨i, hi⟩ := inv _ hy
      have hi' : K.C i * (K.C R.2 - K.C P.2) = 1 := by rw [← K.C_sub, ← K.C_mul, hi, K.C_one]
      have p : K.Poly (K.C i * (K.y - K.C P.2)) := K.poly_mul (K.poly_C i) (K.poly_ya _)
      refine ⟨(K.C i * (K.y - K.C P.2)) * b, ⟨0, K.C i * b, z, K.in_mul (K.poly_C i) hb, by clear hi'; grind⟩, ?_⟩
      have e : 1 - (K.C i * (K.y - K.C P.2)) * b = (K.C i * (K.C R.2 - K.C P.2) - K.C i * (K.y - K.C P.2)) + (K.C i * (K.y - K.C P.2)) * (1 - b) := by rw [hi']; clear hi'; grind
      rw [e]
      exact K.in_add ⟨0, -(K.C i), z0, K.poly_neg (K.poly_C i), by clear hi' e; grind⟩ (K.in_mul p hr)
    · obtain ⟨i, hi⟩ := inv _ hx
      have hi' : K.C i * (K.C R.1 - K.C P.1) = 1 := by rw [← K.C_sub, ← K.C_mul, hi, K.C_one]
      have p : K.Poly (K.C i * (K.x - K.C P.1)) := K.poly_mul (K.poly_C i) (K.poly_xa _)
      refine ⟨(K.C i * (K.x - K.C P.1)) * b, ⟨K.C i * b, 0, K.in_mul (K.poly_C i) hb, z, by clear hi'; grind⟩, ?_⟩
      have e : 1 - (K.C i * (K.x - K.C P.1)) * b = (K.C i * (K.C R.1 - K.C P.1) - K.C i * (K.x - K.C P.1)) + (K.C i * (K.x - K.C P.1)) * (1 - b) := by rw [hi']; clear hi'; grind
      rw [e]
      exact K.in_add ⟨-(K.C i), 0, K.poly_neg (K.poly_C i), z0, by clear hi' e; grind⟩ (K.in_mul p hr)
theorem both_id {A : Type} [CommRing A] (x y g h g' h' b u : A) (e : 1 - b = x * g + y * h) (e' : u = x * g' + y * h') : u = x * (g * u + g' * b) + y * (h * u + h' * b) := by
  have e2 : x * (g * u + g' * b) + y * (h * u + h' * b) = (x * g + y * h) * u + b * (x * g' + y * h') := by clear e e'; grind
  rw [e2, ← e, ← e']
  clear e e' e2
  grind
theorem in_both (inv : ∀ a : F, a ≠ 0 → ∃ i, i * a = 1) {R : F × F} {D : List (F × F)} {u : A} (hR : R ∉ D) (h1 : K.In D u) (h2 : K.In [R] u) : K.In (R :: D) u := by
  obtain ⟨b, hb, g, h, hg, hh, e⟩ := K.comax inv hR
  obtain ⟨g', h', hg', hh', e'⟩ := h2
  exact ⟨g * u + g' * b, h * u + h' * b, K.in_add (K.in_mul hg h1) (K.in_mul hg' hb), K.in_add (K.in_mul hh h1) (K.in_mul hh' hb), both_id _ _ _ _ _ _ _ _ e e'⟩
theorem in_all (inv : ∀ a : F, a ≠ 0 → ∃ i, i * a = 1) {u : A} (pu : K.Poly u) : ∀ {D : List (F × F)}, D.Nodup → (∀ P ∈ D, K.In [P] u) → K.In D u
  | [], _, _ => pu
  | P :: D, nd, h => K.in_both inv (List.nodup_cons.mp nd).1 (in_all inv pu (List.nodup_cons.mp nd).2 fun Q hQ => h Q (.tail _ hQ)) (h P (.head _))

theorem core (inv : ∀ a : F, a ≠ 0 → ∃ i, i * a = 1) (ne : (1 : F) ≠ 0) (h6 : ∃ i, i * (6 * c) = 1) {tk : List (F × F)} (nd : tk.Nodup) (on : ∀ P ∈ tk, On c P) {u : A} (u0 : u ≠ 0) (hz : ∀ P ∈ tk, K.In [P] u) (hL : K.L (tk.length + 1) u) {S : Option (F × F)} (hS : SumR none tk S) :
    (K.L tk.length u ↔ S = none) ∧ ∀ R, On c R → R ∉ tk → ∀ S', AddO S R S' → (S' = none ↔ K.In [R] u) := by
  have hu : K.In tk u := K.in_all inv ⟨_, hL⟩ nd hz
  have m := K.main inv ne h6 tk none S u (fun _ e => by cases e) on hS hu hL u0
  refine ⟨m.1, fun R hR hn S' hS' => ⟨fun e => ?_, fun h => ?_⟩⟩
  · subst e
    match S, hS', m with
    | none, h', m => cases h'
    | some T, ⟨ex, ey⟩, m => exact K.in_head (K.in_last.mpr (m.2 R T rfl ex ey))
  · have hu' : K.In (tk ++ [R]) u := K.in_last.mp (K.in_both inv hn hu h)
    have on' : ∀ P ∈ tk ++ [R], On c P := fun P hP => by
      rcases List.mem_append.mp hP with h | h
      · exact on P h
      · rw [List.mem_singleton.mp h]; exact hR
    have len : (tk ++ [R]).length = tk.length + 1 := by rw [List.length_append]; rfl
    have m' := K.main inv ne h6 (tk ++ [R]) none S' u (fun _ e => by cases e) on' (sum_app hS hS') hu' (by show K.L ((tk ++ [R]).length + 1) u; rw [len]; exact K.L_mono (by omega) hL) u0
    have m1 : K.L (tk ++ [R]).length u ↔ S' = none := m'.1
    rw [len] at m1
    exact m1.mp hL
end Crv
end Mine

/-! ## part N4 -/
namespace Mine
open Lean.Grind (CommRing)
/-! ### a ring from its laws -/
section
variable {A : Type} (z o : A) (add mul : A → A → A) (neg : A → A)
def natR : Nat → A
  | 0 => z
  | n + 1 => add (natR n) o
def intR : Int → A
  | .ofNat n => natR z o add n
  | .negSucc n => neg (natR z o add (n + 1))
def powR (a : A) : Nat → A
  | 0 => o
  | n + 1 => mul (powR a n) a
abbrev mkR (a0 : ∀ a, add a z = a) (ac : ∀ a b, add a b = add b a) (aa : ∀ a b c, add (add a b) c = add a (add b c)) (ma : ∀ a b c, mul (mul a b) c = mul a (mul b c)) (m1 : ∀ a, mul a o = a) (mc : ∀ a b, mul a b = mul b a) (ld : ∀ a b c, mul a (add b c) = add (mul a b) (mul a c)) (zm : ∀ a, mul z a = z) (na : ∀ a, add (neg a) a = z) : CommRing A :=
  have nn : ∀ a, neg (neg a) = a := fun a => by
    have h1 := na (neg a)
    have h2 := na a
    rw [← a0 (neg (neg a)), ← h2, ← aa, h1, ac, a0]
  have uq : ∀ a b, add a b = z → b = neg a := fun a b h => by
    rw [← a0 b, ac b z, ← na a, aa, h, a0]
  have nz : neg z = z := by rw [← a0 (neg z), na]
  have nm : ∀ a b, mul (neg a) b = neg (mul a b) := fun a b => by
    apply uq
    rw [mc a, mc (neg a), ← ld, ac, na, mc, zm]
  { add := add, mul := mul, natCast := ⟨natR z o add⟩, ofNat := fun n => ⟨natR z o add n⟩, nsmul := ⟨fun n a => mul (natR z o add n) a⟩, npow := ⟨powR o mul⟩, neg := neg, sub := fun a b => add a (neg b), intCast := ⟨intR z o add neg⟩, zsmul := ⟨fun n a => mul (intR z o add neg n) a⟩
    add_zero := a0, add_comm := ac, add_assoc := aa, mul_assoc := ma, mul_comm := mc, left_distrib := ld, zero_mul := zm
    mul_one := fun a => by
      show mul a (add z o) = a
      rw [ac, a0, m1]
    one_mul := fun a => by
      show mul (add z o) a = a
      rw [mc, ac, a0, m1]
    right_distrib := fun a b c => by
      show mul (add a b) c = add (mul a c) (mul b c)
      rw [mc, ld, mc c a, mc c b]
    mul_zero := fun a => by
      show mul a z = z
      rw [mc, zm]
    pow_zero := fun a => by
      show o = add z o
      rw [ac, a0]
    pow_succ := fun _ _ => rfl
    ofNat_succ := fun n => by
      show add (natR z o add n) o = add (natR z o add n) (add z o)
      rw [ac z o, a0]
    ofNat_eq_natCast := fun _ => rfl
    nsmul_eq_natCast_mul := fun _ _ => rfl
    neg_add_cancel := na
    sub_eq_add_neg := fun _ _ => rfl
    neg_zsmul := fun i a => by
      show mul (intR z o add neg (-i)) a = neg (mul (intR z o add neg i) a)
      rw [← nm]
      congr 1
      match i with
      | .ofNat 0 => exact nz.symm
      | .ofNat (n + 1) => rfl
      | .negSucc n => exact (nn _).symm
    zsmul_natCast_eq_nsmul := fun _ _ => rfl
    intCast_ofNat := fun _ => rfl
    intCast_neg := fun i => by
      match i with
      | .ofNat 0 => exact nz.symm
      | .ofNat (n + 1) => rfl
      | .negSucc n => exact (nn _).symm }
end

/-! ### power series -/
section
variable {F : Type} [CommRing F]
def mulF (g : Nat → F) : Nat → (Nat → F) → F
  | 0, f => f 0 * g 0
  | n + 1, f => f 0 * g (n + 1) + mulF g n (fun k => f (k + 1))
def sh (f : Nat → F) : Nat → F := fun k => f (k + 1)
def cst (a : F) : Nat → F
  | 0 => a
  | _ + 1 => 0
theorem mulF_addl (g : Nat → F) : ∀ n (f f' : Nat → F), mulF g n (fun k => f k + f' k) = mulF g n f + mulF g n f'
  | 0, f, f' => by show (f 0 + f' 0) * g 0 = _; show _ = f 0 * g 0 + f' 0 * g 0; grind
  | n + 1, f, f' => by
    show (f 0 + f' 0) * g (n + 1) + mulF g n (fun k => f (k + 1) + f' (k + 1)) = (f 0 * g (n + 1) + mulF g n _) + (f' 0 * g (n + 1) + mulF g n _)
    rw [mulF_addl g n (fun k => f (k + 1)) (fun k => f' (k + 1))]
    grind
theorem mulF_smul (g : Nat → F) (a : F) : ∀ n (f : Nat → F), mulF g n (fun k => a * f k) = a * mulF g n f
  | 0, f => by show (a * f 0) * g 0 = a * (f 0 * g 0); grind
  | n + 1, f => by
    show (a * f 0) * g (n + 1) + mulF g n (fun k => a * f (k + 1)) = a * (f 0 * g (n + 1) + mulF g n _)
    rw [mulF_smul g a n (fun k => f (k + 1))]
    grind
theorem mulF_succ : ∀ n (f g : Nat → F), mulF g (n + 1) f = f (n + 1) * g 0 + mulF (sh g) n f
  | 0, f, g => by show f 0 * g 1 + f 1 * g 0 = f 1 * g 0 + f 0 * g 1; grind
  | n + 1, f, g => by
    show f 0 * g (n + 2) + mulF g (n + 1) (sh f) = f (n + 2) * g 0 + (f 0 * g (n + 2) + mulF (sh g) n (sh f))
    rw [mulF_succ n (sh f) g]
    show f 0 * g (n + 2) + (f (n + 2) * g 0 + _) = _
    grind
theorem mulF_comm : ∀ n (f g : Nat → F), mulF g n f = mulF f n g
  | 0, f, g => by show f 0 * g 0 = g 0 * f 0; grind
  | n + 1, f, g => by
    rw [mulF_succ n g f]
    show f 0 * g (n + 1) + mulF g n (sh f) = _
    rw [mulF_comm n (sh f) g]
    grind
theorem mulF_assoc : ∀ n (f g h : Nat → F), mulF h n (fun k => mulF g k f) = mulF (fun k => mulF h k g) n f
  | 0, f, g, h => by show (f 0 * g 0) * h 0 = f 0 * (g 0 * h 0); grind
  | n + 1, f, g, h => by
    show (f 0 * g 0) * h (n + 1) + mulF h n (fun k => f 0 * g (k + 1) + mulF g k (sh f)) = f 0 * (g 0 * h (n + 1) + mulF h n (sh g)) + mulF (fun k => mulF h k g) n (sh f)
    rw [mulF_addl h n (fun k => f 0 * g (k + 1)), mulF_smul h (f 0) n (fun k => g (k + 1)), mulF_assoc n (sh f) g h]
    show (f 0 * g 0) * h (n + 1) + (f 0 * mulF h n (sh g) + _) = _
    grind
theorem mulF_zero : ∀ n (f g : Nat → F), (∀ i j, i + j = n → f i = 0 ∨ g j = 0) → mulF g n f = 0
  | 0, f, g, h => by
    show f 0 * g 0 = 0
    rcases h 0 0 rfl with e | e <;> rw [e] <;> grind
  | n + 1, f, g, h => by
    show f 0 * g (n + 1) + mulF g n (fun k => f (k + 1)) = 0
    rw [mulF_zero n (fun k => f (k + 1)) g fun i j e => h (i + 1) j (by omega)]
    rcases h 0 (n + 1) (by omega) with e | e <;> rw [e] <;> grind
theorem mulF_cst (g : Nat → F) (a : F) : ∀ n, mulF g n (cst a) = a * g n
  | 0 => rfl
  | n + 1 => by
    show a * g (n + 1) + mulF g n (fun k => 0) = _
    rw [mulF_zero n _ g fun _ _ _ => .inl rfl]
    grind
abbrev psR : CommRing (Nat → F) := mkR (cst 0) (cst 1) (fun f g n => f n + g n) (fun f g n => mulF g n f) (fun f n => -f n)
  (fun f => funext fun n => by
    have e : cst (0 : F) n = 0 := by cases n <;> rfl
    rw [e]; grind)
  (fun f g => funext fun n => by grind) (fun f g h => funext fun n => by grind)
  (fun f g h => funext fun n => mulF_assoc n f g h)
  (fun f => funext fun n => by rw [mulF_comm, mulF_cst]; grind)
  (fun f g => funext fun n => mulF_comm n f g)
  (fun f g h => funext fun n => by
    show mulF (fun k => g k + h k) n f = mulF g n f + mulF h n f
    rw [mulF_comm n f, mulF_addl, mulF_comm n f g, mulF_comm n f h])
  (fun f => funext fun n => by
    rw [mulF_cst]
    have e : cst (0 : F) n = 0 := by cases n <;> rfl
    rw [e]; grind)
  (fun f => funext fun n => by
    have e : cst (0 : F) n = 0 := by cases n <;> rfl
    rw [e]; grind)
end

/-! ### pairs -/
structure Pr (R : Type) where
  a : R
  b : R
theorem Pr.eq {R : Type} {u v : Pr R} (h : u.a = v.a) (h' : u.b = v.b) : u = v := by cases u; cases v; cases h; cases h'; rfl
abbrev prR {R : Type} [CommRing R] (q : R) : CommRing (Pr R) := mkR ⟨0, 0⟩ ⟨1, 0⟩ (fun u v => ⟨u.a + v.a, u.b + v.b⟩) (fun u v => ⟨u.a * v.a + u.b * v.b * q, u.a * v.b + u.b * v.a⟩) (fun u => ⟨-u.a, -u.b⟩)
  (fun u => Pr.eq (by dsimp only; grind) (by dsimp only; grind))
  (fun u v => Pr.eq (by dsimp only; grind) (by dsimp only; grind))
  (fun u v w => Pr.eq (by dsimp only; grind) (by dsimp only; grind))
  (fun u v w => Pr.eq (by dsimp only; grind) (by dsimp only; grind))
  (fun u => Pr.eq (by dsimp only; grind) (by dsimp only; grind))
  (fun u v => Pr.eq (by dsimp only; grind) (by dsimp only; grind))
  (fun u v w => Pr.eq (by dsimp only; grind) (by dsimp only; grind))
  (fun u => Pr.eq (by dsimp only; grind) (by dsimp only; grind))
  (fun u => Pr.eq (by dsimp only; grind) (by dsimp only; grind))

/-! ### the ring of the curve -/
section
variable {F : Type} [CommRing F]
def Xs : Nat → F
  | 0 => 0
  | 1 => 1
  | _ => 0
def qs (c : F) : Nat → F
  | 0 => c
  | 3 => 1
  | _ => 0
theorem mulX0 (f : Nat → F) : mulF f 0 Xs = 0 := by show (0 : F) * f 0 = 0; grind
theorem mulX (f : Nat → F) (n : Nat) : mulF f (n + 1) Xs = f n := by
  show (0 : F) * f (n + 1) + mulF f n (sh Xs) = f n
  have e : (sh Xs : Nat → F) = cst 1 := funext fun k => by cases k <;> rfl
  rw [e, mulF_cst]; grind
theorem sh_q (c : F) : sh (sh (sh (qs c))) = cst 1 := funext fun k => by cases k <;> rfl
theorem mulq (f : Nat → F) (c : F) (n : Nat) : mulF f (n + 3) (qs c) = f n + c * f (n + 3) := by
  show c * f (n + 3) + (0 * f (n + 2) + (0 * f (n + 1) + mulF f n (sh (sh (sh (qs c)))))) = _
  rw [sh_q, mulF_cst]; grind
def LL (n : Nat) (u : Pr (Nat → F)) : Prop := (∀ k, n < 2 * k → u.a k = 0) ∧ (∀ k, n < 2 * k + 3 → u.b k = 0)
abbrev crvR (c : F) : CommRing (Pr (Nat → F)) := @prR (Nat → F) psR (qs c)
def cC (k : F) : Pr (Nat → F) := ⟨cst k, cst 0⟩
def cX : Pr (Nat → F) := ⟨Xs, cst 0⟩
def cY : Pr (Nat → F) := ⟨cst 0, cst 1⟩
def addC (u v : Pr (Nat → F)) : Pr (Nat → F) := ⟨fun n => u.a n + v.a n, fun n => u.b n + v.b n⟩
def subC (u v : Pr (Nat → F)) : Pr (Nat → F) := ⟨fun n => u.a n + -v.a n, fun n => u.b n + -v.b n⟩
def mulC (c : F) (u v : Pr (Nat → F)) : Pr (Nat → F) := ⟨fun n => mulF v.a n u.a + mulF (qs c) n (fun k => mulF v.b k u.b), fun n => mulF v.b n u.a + mulF v.a n u.b⟩
theorem mul_is (c : F) (u v : Pr (Nat → F)) : @HMul.hMul _ _ _ (@instHMul _ (crvR c).toMul) u v = mulC c u v := rfl
theorem add_is (c : F) (u v : Pr (Nat → F)) : @HAdd.hAdd _ _ _ (@instHAdd _ (crvR c).toAdd) u v = addC u v := rfl
theorem sub_is (c : F) (u v : Pr (Nat → F)) : @HSub.hSub _ _ _ (@instHSub _ (crvR c).toSub) u v = subC u v := rfl
theorem cst0 (n : Nat) : cst (0 : F) n = 0 := by cases n <;> rfl
theorem mz1 (g : Nat → F) (n : Nat) : mulF g n (cst 0) = 0 := by rw [mulF_cst]; grind
theorem mz2 (g : Nat → F) (n : Nat) : mulF (cst 0) n g = 0 := by rw [mulF_comm, mulF_cst]; grind
theorem mz3 (g h : Nat → F) (n : Nat) : mulF g n (fun k => mulF h k (cst 0)) = 0 := mulF_zero n _ _ fun _ _ _ => .inl (mz1 _ _)
theorem mz4 (g h : Nat → F) (n : Nat) : mulF g n (fun k => mulF (cst 0) k h) = 0 := mulF_zero n _ _ fun _ _ _ => .inl (mz2 _ _)
theorem mulC_C (c k : F) (u : Pr (Nat → F)) : mulC c (cC k) u = ⟨fun n => k * u.a n, fun n => k * u.b n⟩ := Pr.eq (funext fun n => by
    show mulF u.a n (cst k) + mulF (qs c) n (fun j => mulF u.b j (cst 0)) = _
    rw [mulF_cst, mz3]; grind) (funext fun n => by
    show mulF u.b n (cst k) + mulF u.a n (cst 0) = _
    rw [mulF_cst, mz1]; grind)
theorem mulC_X (c : F) (u : Pr (Nat → F)) : mulC c cX u = ⟨fun n => mulF u.a n Xs, fun n => mulF u.b n Xs⟩ := Pr.eq (funext fun n => by
    show mulF u.a n Xs + mulF (qs c) n (fun j => mulF u.b j (cst 0)) = _
    rw [mz3]; grind) (funext fun n => by
    show mulF u.b n Xs + mulF u.a n (cst 0) = _
    rw [mz1]; grind)
theorem mulC_Y (c : F) (u : Pr (Nat → F)) : mulC c cY u = ⟨fun n => mulF (qs c) n u.b, u.a⟩ := Pr.eq (funext fun n => by
    show mulF u.a n (cst 0) + mulF (qs c) n (fun j => mulF u.b j (cst 1)) = _
    rw [mz1]
    have e : (fun j => mulF u.b j (cst 1)) = u.b := funext fun j => by rw [mulF_cst]; grind
    rw [e]; grind) (funext fun n => by
    show mulF u.b n (cst 0) + mulF u.a n (cst 1) = _
    rw [mz1, mulF_cst]; grind)
theorem addC_mul (c : F) (u v w : Pr (Nat → F)) : mulC c (addC u v) w = addC (mulC c u w) (mulC c v w) := by
  have := (crvR c).right_distrib u v w
  exact this
theorem subC_mul (c : F) (u v w : Pr (Nat → F)) : mulC c (subC u v) w = subC (mulC c u w) (mulC c v w) := by
  letI := crvR c
  have : (u - v) * w = u * w - v * w := by grind
  exact this
theorem LL_mul (c : F) {n m : Nat} {u v : Pr (Nat → F)} (hu : LL n u) (hv : LL m v) : LL (n + m) (mulC c u v) := by
  constructor
  · intro k hk
    show mulF v.a k u.a + mulF (qs c) k (fun k => mulF v.b k u.b) = 0
    rw [mulF_zero k u.a v.a, mulF_zero k (fun k => mulF v.b k u.b) (qs c)]
    · grind
    · intro i j e
      by_cases hj : 3 < j
      · right
        match j, hj with
        | j + 4, _ => rfl
      · left
        refine mulF_zero i u.b v.b fun i' j' e' => ?_
        by_cases h' : n < 2 * i' + 3
        · exact .inl (hu.2 _ h')
        · exact .inr (hv.2 _ (by omega))
    · intro i j e
      by_cases h' : n < 2 * i
      · exact .inl (hu.1 _ h')
      · exact .inr (hv.1 _ (by omega))
  · intro k hk
    show mulF v.b k u.a + mulF v.a k u.b = 0
    rw [mulF_zero k u.a v.b, mulF_zero k u.b v.a]
    · grind
    · intro i j e
      by_cases h' : n < 2 * i + 3
      · exact .inl (hu.2 _ h')
      · exact .inr (hv.1 _ (by omega))
    · intro i j e
      by_cases h' : n < 2 * i
      · exact .inl (hu.1 _ h')
      · exact .inr (hv.2 _ (by omega))
theorem xa_a (c k : F) (u : Pr (Nat → F)) (n : Nat) : (mulC c (subC cX (cC k)) u).a (n + 1) = u.a n + -(k * u.a (n + 1)) := by
  rw [subC_mul, mulC_X, mulC_C]
  show mulF u.a (n + 1) Xs + -(k * u.a (n + 1)) = _
  rw [mulX]
theorem xa_b (c k : F) (u : Pr (Nat → F)) (n : Nat) : (mulC c (subC cX (cC k)) u).b (n + 1) = u.b n + -(k * u.b (n + 1)) := by
  rw [subC_mul, mulC_X, mulC_C]
  show mulF u.b (n + 1) Xs + -(k * u.b (n + 1)) = _
  rw [mulX]
theorem LL_divx (c k : F) {n : Nat} {u : Pr (Nat → F)} (h : LL (n + 2) (mulC c (subC cX (cC k)) u)) : ∀ d, LL (n + d) u → LL n u
  | 0, h' => h'
  | d + 1, h' => LL_divx c k h d ⟨fun j hj => by
      have e := h.1 (j + 1) (by omega)
      rw [xa_a, h'.1 (j + 1) (by omega)] at e
      grind, fun j hj => by
      have e := h.2 (j + 1) (by omega)
      rw [xa_b, h'.2 (j + 1) (by omega)] at e
      grind⟩
theorem li_is (c a b : F) (u : Pr (Nat → F)) : mulC c (subC cY (addC (mulC c (cC a) cX) (cC b))) u = subC ⟨fun n => mulF (qs c) n u.b, u.a⟩ (addC ⟨fun n => a * mulF u.a n Xs, fun n => a * mulF u.b n Xs⟩ ⟨fun n => b * u.a n, fun n => b * u.b n⟩) := by
  rw [subC_mul, addC_mul, mulC_Y, mulC_C c b]
  have : mulC c (mulC c (cC a) cX) u = mulC c (cC a) (mulC c cX u) := (crvR c).mul_assoc _ _ _
  rw [this, mulC_X, mulC_C]
theorem li_a (c a b : F) (u : Pr (Nat → F)) (n : Nat) : (mulC c (subC cY (addC (mulC c (cC a) cX) (cC b))) u).a (n + 3) = (u.b n + c * u.b (n + 3)) + -(a * u.a (n + 2) + b * u.a (n + 3)) := by
  rw [li_is]
  show mulF (qs c) (n + 3) u.b + -(a * mulF u.a (n + 3) Xs + b * u.a (n + 3)) = _
  rw [mulF_comm (n + 3) u.b, mulq, mulX]
theorem li_b (c a b : F) (u : Pr (Nat → F)) (n : Nat) : (mulC c (subC cY (addC (mulC c (cC a) cX) (cC b))) u).b (n + 1) = u.a (n + 1) + -(a * u.b n + b * u.b (n + 1)) := by
  rw [li_is]
  show u.a (n + 1) + -(a * mulF u.b (n + 1) Xs + b * u.b (n + 1)) = _
  rw [mulX]
theorem LL_divl (c a b : F) {n : Nat} {u : Pr (Nat → F)} (h : LL (n + 3) (mulC c (subC cY (addC (mulC c (cC a) cX) (cC b))) u)) : ∀ d, LL (n + d) u → LL n u
  | 0, h' => h'
  | d + 1, h' => LL_divl c a b h d ⟨fun j hj => by
      match j, hj with
      | j + 1, hj =>
      have e := h.2 (j + 1) (by omega)
      rw [li_b, h'.2 j (by omega), h'.2 (j + 1) (by omega)] at e
      grind, fun j hj => by
      have e := h.1 (j + 3) (by omega)
      rw [li_a, h'.2 (j + 3) (by omega), h'.1 (j + 2) (by omega), h'.1 (j + 3) (by omega)] at e
      grind⟩
theorem cC_add (a b : F) : cC (a + b) = addC (cC a) (cC b) := Pr.eq (funext fun n => by
    cases n with
    | zero => rfl
    | succ n => show (0 : F) = 0 + 0; grind) (funext fun n => by show cst (0 : F) n = cst (0 : F) n + cst (0 : F) n; rw [cst0]; grind)
theorem cC_mul (c a b : F) : cC (a * b) = mulC c (cC a) (cC b) := by
  rw [mulC_C]
  refine Pr.eq (funext fun n => ?_) (funext fun n => ?_)
  · cases n with
    | zero => rfl
    | succ n => show (0 : F) = a * 0; grind
  · show cst (0 : F) n = a * cst (0 : F) n; rw [cst0]; grind
theorem cC_one : cC (1 : F) = ⟨fun n => cst 0 n + (cst 0 n + cst 1 n), fun n => cst 0 n + cst 0 n⟩ := Pr.eq (funext fun n => by
    show cst (1 : F) n = cst 0 n + (cst 0 n + cst 1 n)
    rw [cst0]; grind) (funext fun n => by show cst (0 : F) n = cst 0 n + cst 0 n; rw [cst0]; grind)
def crv (c : F) : @Crv F (Pr (Nat → F)) _ (crvR c) c :=
  letI := crvR c
  { C := cC, x := cX, y := cY, L := LL
    C_add := cC_add
    C_mul := cC_mul c
    C_one := cC_one
    curve := by
      show mulC c cY cY = addC (mulC c (mulC c cX cX) cX) (cC c)
      rw [mulC_Y]
      have : mulC c (mulC c cX cX) cX = mulC c cX (mulC c cX cX) := (crvR c).mul_assoc _ _ _
      rw [this, mulC_X, mulC_X]
      refine Pr.eq (funext fun n => ?_) (funext fun n => ?_)
      · show mulF (qs c) n (cst 1) = mulF (fun n => mulF Xs n Xs) n Xs + cst c n
        rw [mulF_cst]
        match n with
        | 0 => rw [mulX0]; show 1 * c = 0 + c; grind
        | 1 => rw [mulX, mulX0]; show (1 : F) * 0 = 0 + 0; grind
        | 2 => rw [mulX, mulX]; show (1 : F) * 0 = 0 + 0; grind
        | 3 => rw [mulX, mulX]; show (1 : F) * 1 = 1 + 0; grind
        | n + 4 => rw [mulX, mulX]; show (1 : F) * 0 = 0 + 0; grind
      · show cst 0 n = mulF (fun n => mulF (cst 0) n Xs) n Xs + cst 0 n
        have e : (fun n => mulF (cst (0 : F)) n Xs) = cst 0 := funext fun n => by rw [mz2, cst0]
        rw [e, mz2, cst0]; grind
    L_add := fun {n u v} hu hv => ⟨fun k hk => by show u.a k + v.a k = 0; rw [hu.1 k hk, hv.1 k hk]; grind, fun k hk => by show u.b k + v.b k = 0; rw [hu.2 k hk, hv.2 k hk]; grind⟩
    L_mul := fun hu hv => LL_mul c hu hv
    L_mono := fun hn hu => ⟨fun k hk => hu.1 k (by omega), fun k hk => hu.2 k (by omega)⟩
    L_C := fun a => ⟨fun k hk => by match k, hk with | k + 1, _ => rfl, fun k hk => cst0 k⟩
    L_x := ⟨fun k hk => by match k, hk with | k + 2, _ => rfl, fun k hk => cst0 k⟩
    L_y := ⟨fun k hk => cst0 k, fun k hk => by match k, hk with | k + 1, _ => rfl⟩
    L_one := fun {u} h => ⟨u.a 0, Pr.eq (funext fun n => by
      match n with
      | 0 => rfl
      | n + 1 => exact h.1 (n + 1) (by omega)) (funext fun n => by rw [h.2 n (by omega)]; exact (cst0 n).symm)⟩
    L_two := fun {u} h => ⟨u.a 0, u.a 1, by
      show u = addC (cC (u.a 0)) (mulC c (cC (u.a 1)) cX)
      rw [mulC_C]
      refine Pr.eq (funext fun n => ?_) (funext fun n => ?_)
      · match n with
        | 0 => show u.a 0 = u.a 0 + u.a 1 * 0; grind
        | 1 => show u.a 1 = 0 + u.a 1 * 1; grind
        | n + 2 => rw [h.1 (n + 2) (by omega)]; show 0 = 0 + u.a 1 * 0; grind
      · rw [h.2 n (by omega)]; show 0 = cst 0 n + u.a 1 * cst 0 n; rw [cst0]; grind⟩
    div_x := fun {a n N u} hN h => LL_divx c a h N ⟨fun k hk => hN.1 k (by omega), fun k hk => hN.2 k (by omega)⟩
    div_l := fun {a b n N u} hN h => LL_divl c a b h N ⟨fun k hk => hN.1 k (by omega), fun k hk => hN.2 k (by omega)⟩
    indep := fun {a b d} h => by
      have h : addC (addC (cC a) (mulC c (cC b) cX)) (mulC c (cC d) cY) = cC 0 := h
      rw [mulC_C, mulC_C] at h
      have h0 := congrFun (congrArg Pr.a h) 0
      have h1 := congrFun (congrArg Pr.a h) 1
      have h2 := congrFun (congrArg Pr.b h) 0
      have h0 : (a + b * 0) + d * 0 = 0 := h0
      have h1 : (0 + b * 1) + d * 0 = 0 := h1
      have h2 : (0 + b * 0) + d * 1 = 0 := h2
      refine ⟨?_, ?_, ?_⟩ <;> grind }
end
end Mine

/-! ## part N5 -/
namespace Mine
open Lean.Grind (CommRing IsCharP)
section
variable {F : Type} [CommRing F]
/-- an integer, in the field -/
def ph (a : Int) : F := @Int.cast F Lean.Grind.Ring.intCast a
theorem ph_add (a b : Int) : (ph (a + b) : F) = ph a + ph b := Lean.Grind.Ring.intCast_add a b
theorem ph_mul (a b : Int) : (ph (a * b) : F) = ph a * ph b := Lean.Grind.Ring.intCast_mul a b
theorem ph_neg (a : Int) : (ph (-a) : F) = -ph a := Lean.Grind.Ring.intCast_neg a
theorem ph_sub (a b : Int) : (ph (a - b) : F) = ph a - ph b := Lean.Grind.Ring.intCast_sub a b
theorem ph_zero : (ph 0 : F) = 0 := Lean.Grind.Ring.intCast_zero
theorem ph_one : (ph 1 : F) = 1 := Lean.Grind.Ring.intCast_one
variable {n : Nat} [IsCharP F n]
theorem ph_emod {a : Int} : (ph a : F) = 0 ↔ a % (n : Int) = 0 := IsCharP.intCast_eq_zero_iff n a
theorem ph_fm {p : Int} (hp : p = (n : Int)) (h0 : 0 < p) (a : Int) : (ph (a.fmod p) : F) = ph a := by
  rw [Int.fmod_eq_emod_of_nonneg _ (by omega)]
  have h : (ph (a % p - a) : F) = 0 := by
    rw [ph_emod (n := n), ← hp]
    have : a % p - a = p * (-(a / p)) := by
      have := Int.emod_add_mul_ediv a p
      rw [Int.mul_neg]; omega
    rw [this, Int.mul_emod_right]
  rw [ph_sub] at h
  grind
theorem ph_eq0 {p : Int} (hp : p = (n : Int)) (h0 : 0 < p) {a : Int} : (ph a : F) = 0 ↔ a.fmod p = 0 := by
  rw [Int.fmod_eq_emod_of_nonneg _ (by omega), ph_emod (n := n), hp]
theorem ph_inj {p : Int} (hp : p = (n : Int)) {a b : Int} (ha : 0 ≤ a ∧ a < p) (hb : 0 ≤ b ∧ b < p) (h : (ph a : F) = ph b) : a = b := by
  have h1 : (ph (a - b) : F) = 0 := by rw [ph_sub, h]; grind
  rw [ph_emod (n := n), ← hp] at h1
  have h2 := Int.emod_emod_of_dvd
  by_cases hlt : 0 ≤ a - b
  · rw [Int.emod_eq_of_lt hlt (by omega)] at h1; omega
  · have : (a - b + p) % p = 0 := by rw [Int.add_emod_right]; exact h1
    rw [Int.emod_eq_of_lt (by omega) (by omega)] at this; omega
end
end Mine

/-! ## part N6 -/
namespace Mine
open Lean.Grind (CommRing IsCharP)
section
variable {F : Type} [CommRing F]
def sumN (f : Nat → F) : Nat → F
  | 0 => 0
  | n + 1 => sumN f n + f n
theorem sumN_congr {f g : Nat → F} : ∀ {n : Nat}, (∀ i, i < n → f i = g i) → sumN f n = sumN g n
  | 0, _ => rfl
  | n + 1, h => by
    show sumN f n + f n = sumN g n + g n
    rw [sumN_congr (n := n) fun i hi => h i (by omega), h n (by omega)]
theorem sumN_zero {f : Nat → F} : ∀ {n : Nat}, (∀ i, i < n → f i = 0) → sumN f n = 0
  | 0, _ => rfl
  | n + 1, h => by
    show sumN f n + f n = 0
    rw [sumN_zero (n := n) fun i hi => h i (by omega), h n (by omega)]; grind
theorem sumN_lin (f g : Nat → F) (a b : F) : ∀ n, sumN (fun i => a * f i + b * g i) n = a * sumN f n + b * sumN g n
  | 0 => by show (0 : F) = a * 0 + b * 0; grind
  | n + 1 => by
    show sumN _ n + (a * f n + b * g n) = a * (sumN f n + f n) + b * (sumN g n + g n)
    rw [sumN_lin f g a b n]; grind
theorem sumN_at {g w w' : Nat → F} {l : Nat} (hw : ∀ c, c ≠ l → w' c = w c) : ∀ {n : Nat}, sumN (fun c => g c * w' c) n = sumN (fun c => g c * w c) n + if l < n then g l * (w' l - w l) else 0
  | 0 => by show (0 : F) = 0 + _; rw [if_neg (by omega)]; grind
  | n + 1 => by
    show sumN _ n + g n * w' n = sumN _ n + g n * w n + _
    rw [sumN_at hw (n := n)]
    by_cases h : n = l
    · subst h
      rw [if_neg (by omega), if_pos (by omega)]; grind
    · rw [hw n h]
      by_cases h2 : l < n
      · rw [if_pos h2, if_pos (by omega)]; grind
      · rw [if_neg h2, if_neg (by omega)]; grind

/-! the matrix steps -/
abbrev Mat (F : Type) := Nat → Nat → F
def swM (M : Mat F) (a j : Nat) : Mat F := fun k => if k = j then M a else if k = a then M j else M k
def noM (M : Mat F) (a : Nat) (x : F) : Mat F := fun k c => if k = a then M a c * x else M k c
def elM (M : Mat F) (a i : Nat) : Mat F := fun k c => if k = a then M a c else M k c - M k i * M a c
def Ker (n : Nat) (M : Mat F) (v : Nat → F) : Prop := ∀ k, k < n → sumN (fun c => M k c * v c) (n + 1) = 0
theorem ker_sw {n a j : Nat} (ha : a < n) (hj : j < n) {M : Mat F} {v : Nat → F} (h : Ker n (swM M a j) v) : Ker n M v := by
  intro k hk
  by_cases h1 : k = j
  · have := h a ha
    unfold swM at this
    subst h1
    by_cases h2 : a = k
    · subst h2; rw [if_pos rfl] at this; exact this
    · rw [if_neg h2, if_pos rfl] at this; exact this
  · by_cases h2 : k = a
    · have := h j hj
      unfold swM at this
      rw [if_pos rfl] at this
      rw [h2]; exact this
    · have := h k hk
      unfold swM at this
      rw [if_neg h1, if_neg h2] at this
      exact this
theorem ker_no {n a : Nat} {x y : F} (hx : y * x = 1) {M : Mat F} {v : Nat → F} (h : Ker n (noM M a x) v) : Ker n M v := by
  intro k hk
  have := h k hk
  unfold noM at this
  by_cases e : k = a
  · subst e
    have e2 : sumN (fun c => M k c * v c) (n + 1) = y * sumN (fun c => (if k = k then M k c * x else M k c) * v c) (n + 1) + 0 * sumN (fun c => 0) (n + 1) := by
      rw [← sumN_lin]
      refine sumN_congr fun c _ => ?_
      rw [if_pos rfl]
      have : y * (M k c * x * v c) = (y * x) * (M k c * v c) := by clear h this hx; grind
      rw [this, hx]; clear h this; grind
    rw [e2, this]; clear h this e2; grind
  · rw [← this]
    refine sumN_congr fun c _ => ?_
    rw [if_neg e]
theorem ker_el {n a i : Nat} (ha : a < n) {M : Mat F} {v : Nat → F} (h : Ker n (elM M a i) v) : Ker n M v := by
  intro k hk
  have h1 := h k hk
  have h2 := h a ha
  unfold elM at h1 h2
  by_cases e : k = a
  · rw [← h1]
    refine sumN_congr fun c _ => ?_
    rw [if_pos e, e]
  · have e2 : sumN (fun c => M k c * v c) (n + 1) = 1 * sumN (fun c => (if k = a then M a c else M k c - M k i * M a c) * v c) (n + 1) + M k i * sumN (fun c => (if a = a then M a c else M a c - M a i * M a c) * v c) (n + 1) := by
      rw [← sumN_lin]
      refine sumN_congr fun c _ => ?_
      rw [if_neg e, if_pos rfl]; clear h h1 h2; grind
    rw [e2, h1, h2]; clear h h1 h2 e2; grind

/-- what the columns before i leave -/
structure Inv (n i : Nat) (M0 M : Mat F) (leads : List Nat) : Prop where
  le : leads.length ≤ n
  lt : ∀ l ∈ leads, l < i
  nd : leads.Nodup
  piv : ∀ k, k < n → ∀ t, t < leads.length → M k (leads.getD t 0) = if k = t then 1 else 0
  zero : ∀ k, k < n → leads.length ≤ k → ∀ c, c < i → M k c = 0
  ker : ∀ v, Ker n M v → Ker n M0 v
theorem inv_skip {n i : Nat} {M0 M : Mat F} {leads : List Nat} (h : Inv n i M0 M leads) (hz : ∀ k, k < n → leads.length ≤ k → M k i = 0) : Inv n (i + 1) M0 M leads where
  le := h.le
  lt := fun l hl => Nat.lt_succ_of_lt (h.lt l hl)
  nd := h.nd
  piv := h.piv
  zero := fun k hk hr c hc => by
    by_cases e : c = i
    · rw [e]; exact hz k hk hr
    · exact h.zero k hk hr c (by omega)
  ker := h.ker
theorem getD_lt {l : List Nat} {t : Nat} (h : t < l.length) : l.getD t 0 ∈ l := by
  rw [List.getD_eq_getElem?_getD, List.getElem?_eq_getElem h]
  exact List.getElem_mem h
theorem inv_piv {n i j : Nat} {M0 M : Mat F} {leads : List Nat} (h : Inv n i M0 M leads) (hi : i < n + 1) (hj : leads.length ≤ j ∧ j < n) {x : F} (hx : M j i * x = 1) :
    Inv n (i + 1) M0 (elM (noM (swM M leads.length j) leads.length x) leads.length i) (leads ++ [i]) := by
  have hr : leads.length < n := by omega
  -- the rows from the rank on, before column i
  have z1 : ∀ k, k < n → leads.length ≤ k → ∀ c, c < i → swM M leads.length j k c = 0 := fun k hk hl c hc => by
    unfold swM
    by_cases e1 : k = j
    · rw [if_pos e1]; exact h.zero _ hr (Nat.le_refl _) c hc
    · rw [if_neg e1]
      by_cases e2 : k = leads.length
      · rw [if_pos e2]; exact h.zero _ hj.2 hj.1 c hc
      · rw [if_neg e2]; exact h.zero _ hk hl c hc
  have s1 : ∀ k, k < leads.length → swM M leads.length j k = M k := fun k hk => by
    unfold swM
    rw [if_neg (by omega), if_neg (by omega)]
  have p1 : swM M leads.length j leads.length i = M j i := by
    unfold swM
    by_cases e : leads.length = j
    · rw [if_pos e, e]
    · rw [if_neg e, if_pos rfl]
  have z2 : ∀ k, k < n → leads.length ≤ k → ∀ c, c < i → noM (swM M leads.length j) leads.length x k c = 0 := fun k hk hl c hc => by
    unfold noM
    by_cases e : k = leads.length
    · rw [if_pos e, z1 _ hr (Nat.le_refl _) c hc]; grind
    · rw [if_neg e]; exact z1 k hk hl c hc
  have s2 : ∀ k, k < leads.length → noM (swM M leads.length j) leads.length x k = M k := fun k hk => by
    unfold noM
    funext c
    rw [if_neg (by omega), s1 k hk]
  have p2 : noM (swM M leads.length j) leads.length x leads.length i = 1 := by
    unfold noM
    rw [if_pos rfl, p1, hx]
  have c3 : ∀ k, k < n → elM (noM (swM M leads.length j) leads.length x) leads.length i k i = if k = leads.length then 1 else 0 := fun k hk => by
    unfold elM
    rw [p2]
    split
    · rfl
    · grind
  have z3 : ∀ k, k < n → ∀ c, c < i → elM (noM (swM M leads.length j) leads.length x) leads.length i k c = noM (swM M leads.length j) leads.length x k c := fun k hk c hc => by
    unfold elM
    rw [z2 _ hr (Nat.le_refl _) c hc]
    split
    · next e => rw [e, z2 _ hr (Nat.le_refl _) c hc]
    · grind
  refine ⟨by rw [List.length_append, List.length_singleton]; omega, fun l hl => ?_, ?_, fun k hk t ht => ?_, fun k hk hl c hc => ?_, fun v hv => h.ker v (ker_sw hr hj.2 (ker_no (y := M j i) hx (ker_el hr hv)))⟩
  · rcases List.mem_append.mp hl with hl | hl
    · exact Nat.lt_succ_of_lt (h.lt l hl)
    · rw [List.mem_singleton.mp hl]; exact Nat.lt_succ_self _
  · refine List.nodup_append.mpr ⟨h.nd, by simp, fun a ha b hb => ?_⟩
    have := h.lt a ha
    rw [List.mem_singleton.mp hb]; omega
  · rw [List.length_append, List.length_singleton] at ht
    rw [List.getD_eq_getElem?_getD]
    by_cases e : t < leads.length
    · rw [List.getElem?_append_left e, ← List.getD_eq_getElem?_getD]
      have hl := h.lt _ (getD_lt e)
      rw [z3 k hk _ hl]
      by_cases e2 : leads.length ≤ k
      · rw [z2 k hk e2 _ hl, if_neg (by omega)]
      · rw [s2 k (by omega)]; exact h.piv k hk t e
    · have : t = leads.length := by omega
      subst this
      rw [List.getElem?_append_right (Nat.le_refl _), Nat.sub_self]
      exact c3 k hk
  · rw [List.length_append, List.length_singleton] at hl
    by_cases e : c = i
    · rw [e, c3 k hk, if_neg (by omega)]
    · rw [z3 k hk c (by omega), z2 k hk (by omega) c (by omega)]
end
end Mine

/-! ## part N7 -/
namespace Mine
open Lean.Grind (CommRing IsCharP)
section
theorem getD_set {α : Type} {l : List α} {a c : Nat} {x d : α} (ha : a < l.length) : (l.set a x).getD c d = if c = a then x else l.getD c d := by
  rw [List.getD_eq_getElem?_getD, List.getD_eq_getElem?_getD, List.getElem?_set]
  by_cases h : a = c
  · rw [if_pos h, if_pos ha, if_pos h.symm]; rfl
  · rw [if_neg h, if_neg (fun e => h e.symm)]
theorem getD_map {l : List Int} {f : Int → Int} {c : Nat} (h : c < l.length) : (l.map f).getD c 0 = f (l.getD c 0) := by
  rw [List.getD_eq_getElem?_getD, List.getElem?_map, List.getElem?_eq_getElem h, List.getD_eq_getElem?_getD, List.getElem?_eq_getElem h]; rfl
theorem getD_zip {l m : List Int} {f : Int → Int → Int} {c : Nat} (h : c < l.length) (h' : c < m.length) : (List.zipWith f l m).getD c 0 = f (l.getD c 0) (m.getD c 0) := by
  rw [List.getD_eq_getElem?_getD, List.getElem?_zipWith, List.getElem?_eq_getElem h, List.getElem?_eq_getElem h', List.getD_eq_getElem?_getD, List.getElem?_eq_getElem h, List.getD_eq_getElem?_getD, List.getElem?_eq_getElem h']; rfl
theorem elim_len {p : Int} {c a : Nat} {rows : List (List Int)} : ∀ K, (elimN p c a rows K).length = rows.length
  | 0 => rfl
  | K + 1 => by
    show (if K = a then _ else _ : List (List Int)).length = _
    split
    · exact elim_len K
    · rw [List.length_set]; exact elim_len K
theorem elim_row {p : Int} {c a : Nat} {rows : List (List Int)} (ha : a < rows.length) : ∀ K, K ≤ rows.length → ∀ k, (elimN p c a rows K).getD k [] = if k < K ∧ k ≠ a then List.zipWith (fun one two => (one - ent rows k c * two).fmod p) (rows.getD k []) (rows.getD a []) else rows.getD k []
  | 0, _, k => by rw [if_neg (by omega)]; rfl
  | K + 1, hK, k => by
    have ih := elim_row (c := c) (p := p) ha K (by omega)
    show (if K = a then elimN p c a rows K else _ : List (List Int)).getD k [] = _
    by_cases e : K = a
    · rw [if_pos e, ih]
      by_cases h : k < K ∧ k ≠ a
      · rw [if_pos h, if_pos (by omega)]
      · rw [if_neg h, if_neg (by omega)]
    · rw [if_neg e, getD_set (by rw [elim_len]; omega)]
      by_cases h : k = K
      · subst h
        have h1 : (elimN p c a rows k).getD k [] = rows.getD k [] := by rw [ih, if_neg (by omega)]
        have h2 : (elimN p c a rows k).getD a [] = rows.getD a [] := by rw [ih, if_neg (by omega)]
        have h3 : ent (elimN p c a rows k) k c = ent rows k c := by unfold ent; rw [h1]
        rw [if_pos rfl, if_pos ⟨by omega, e⟩, h1, h2, h3]
      · rw [if_neg h, ih]
        by_cases h : k < K ∧ k ≠ a
        · rw [if_pos h, if_pos (by omega)]
        · rw [if_neg h, if_neg (by omega)]
end
section
variable {F : Type} [CommRing F]
def mat (rows : List (List Int)) : Mat F := fun k c => ph (ent rows k c)
theorem mat_sw {a j : Nat} {rows : List (List Int)} (ha : a < rows.length) (hj : j < rows.length) : (mat (swapR a j rows) : Mat F) = swM (mat rows) a j := by
  funext k c
  unfold mat swM ent swapR
  rw [getD_set (by rw [List.length_set]; exact hj), getD_set ha]
  by_cases h : k = j
  · rw [if_pos h, if_pos h]
  · rw [if_neg h, if_neg h]
    by_cases h' : k = a
    · rw [if_pos h', if_pos h']
    · rw [if_neg h', if_neg h']
theorem Inv.congr {n i : Nat} {M0 M M' : Mat F} {leads : List Nat} (h : Inv n i M0 M leads) (hi : i ≤ n + 1) (e : ∀ k, k < n → ∀ c, c < n + 1 → M' k c = M k c) : Inv n i M0 M' leads where
  le := h.le
  lt := h.lt
  nd := h.nd
  piv := fun k hk t ht => by
    have := h.lt _ (getD_lt ht)
    rw [e k hk _ (by omega)]; exact h.piv k hk t ht
  zero := fun k hk hr c hc => by rw [e k hk c (by omega)]; exact h.zero k hk hr c hc
  ker := fun v hv => h.ker v fun k hk => by
    rw [← hv k hk]
    exact sumN_congr fun c hc => by rw [e k hk c hc]
variable {n : Nat} {p : Int} {N : Nat} [IsCharP F N]
theorem mat_no (hp : p = (N : Int)) (h0 : 0 < p) {c0 a : Nat} {rows : List (List Int)} (S : Shape n rows) (ha : a < n) {k c : Nat} (hc : c < n + 1) : (mat (normAt p c0 a rows) k c : F) = noM (mat rows) a (ph (powm (ent rows a c0) (p - 2) p)) k c := by
  unfold mat noM normAt
  unfold ent
  rw [getD_set (by rw [S.len]; exact ha)]
  by_cases h : k = a
  · rw [if_pos h, if_pos h, getD_map (by rw [(S.get ha).1]; exact hc), ph_fm (n := N) hp h0, ph_mul]
  · rw [if_neg h, if_neg h]
theorem mat_el (hp : p = (N : Int)) (h0 : 0 < p) {c0 a : Nat} {rows : List (List Int)} (S : Shape n rows) (ha : a < n) {k c : Nat} (hk : k < n) (hc : c < n + 1) : (mat (elimN p c0 a rows n) k c : F) = elM (mat rows) a c0 k c := by
  have hl := S.len
  have := elim_row (p := p) (c := c0) (a := a) (rows := rows) (by rw [hl]; exact ha) n (by rw [hl]; exact Nat.le_refl _) k
  unfold mat elM
  unfold ent
  rw [this]
  by_cases h : k = a
  · rw [if_neg (by omega), if_pos h, h]
  · rw [if_pos ⟨hk, h⟩, if_neg h, getD_zip (by rw [(S.get hk).1]; exact hc) (by rw [(S.get ha).1]; exact hc), ph_fm (n := N) hp h0, ph_sub, ph_mul]
    rfl
theorem inv_step (hp : p = (N : Int)) (h2 : 2 ≤ p ∧ p ≤ 1000) (hpow : ∀ a : Int, a.fmod p ≠ 0 → (ph a : F) * ph (powm a (p - 2) p) = 1) {i : Nat} {M0 : Mat F} {st : List (List Int) × List Nat} (hi : i < n + 1) (S : Shape n st.1) (h : Inv n i M0 (mat st.1) st.2) : Inv n (i + 1) M0 (mat (gstep p i st).1) (gstep p i st).2 := by
  have h0 : 0 < p := by omega
  unfold gstep
  split
  · next e =>
    refine inv_skip h fun k hk hr => ?_
    apply Classical.byContradiction
    intro hz
    have : k ∈ places p i st.2.length st.1 := by
      refine List.mem_filter.mpr ⟨List.mem_map.mpr ⟨k - st.2.length, List.mem_range.mpr (by rw [S.len]; omega), by omega⟩, ?_⟩
      have : (ent st.1 k i).fmod p ≠ 0 := fun e0 => hz ((ph_eq0 (n := N) hp h0).mpr e0)
      simpa using this
    rw [e] at this; cases this
  · next j r e =>
    have hj := mem_places (p := p) (c := i) (a := st.2.length) (rows := st.1) (j := j) (by rw [e]; exact .head _)
    have hl := S.len
    have ha : st.2.length < n := by omega
    have S1 := S.swap ha (j := j) (by omega)
    have S2 := S1.norm (p := p) (c := i) ⟨h0, h2.2⟩ ha
    dsimp only
    have hx : (mat st.1 j i : F) * ph (powm (ent (swapR st.2.length j st.1) st.2.length i) (p - 2) p) = 1 := by
      have : ent (swapR st.2.length j st.1) st.2.length i = ent st.1 j i := by
        unfold ent swapR
        rw [getD_set (by rw [List.length_set]; omega), getD_set (by omega)]
        by_cases h : st.2.length = j
        · rw [if_pos h, h]
        · rw [if_neg h, if_pos rfl]
      rw [this]
      exact hpow _ hj.2.2
    have main := inv_piv h hi (j := j) ⟨hj.1, by omega⟩ hx
    rw [hl]
    refine main.congr (by omega) fun k hk c hc => ?_
    rw [mat_el hp h0 S2 ha hk hc]
    have e2 : ∀ k c, k < n → c < n + 1 → (mat (normAt p i st.2.length (swapR st.2.length j st.1)) k c : F) = noM (swM (mat st.1) st.2.length j) st.2.length (ph (powm (ent (swapR st.2.length j st.1) st.2.length i) (p - 2) p)) k c := fun k c hk hc => by
      rw [mat_no hp h0 S1 ha hc, mat_sw (by omega) (by omega)]
    unfold elM
    rw [e2 _ _ ha hc, e2 _ _ hk hc, e2 _ _ hk hi]
theorem inv_all (hp : p = (N : Int)) (h2 : 2 ≤ p ∧ p ≤ 1000) (hpow : ∀ a : Int, a.fmod p ≠ 0 → (ph a : F) * ph (powm a (p - 2) p) = 1) {rows : List (List Int)} (S : Shape n rows) : ∀ i, i ≤ n + 1 → Inv n i (mat rows : Mat F) (mat (gsteps p rows i).1) (gsteps p rows i).2
  | 0, _ => ⟨Nat.zero_le _, fun l hl => (by cases hl), List.nodup_nil, fun k hk t ht => absurd ht (Nat.not_lt_zero _), fun k hk hr c hc => absurd hc (Nat.not_lt_zero _), fun v hv => hv⟩
  | i + 1, hi => inv_step hp h2 hpow (by omega) (gok S ⟨by omega, h2.2⟩ i).sh (inv_all hp h2 hpow S i (by omega))

/-! the answer -/
def vec (l : List Int) : Nat → F := fun c => ph (l.getD c 0)
theorem ans_len {rows : List (List Int)} {leads : List Nat} {free m : Nat} : ∀ k, (ansN p rows leads free m k).length = m
  | 0 => by show ((List.replicate m (0 : Int)).set free 1).length = m; rw [List.length_set, List.length_replicate]
  | k + 1 => by show ((ansN p rows leads free m k).set _ _).length = m; rw [List.length_set]; exact ans_len k
theorem ans_bd {rows : List (List Int)} {leads : List Nat} {free m : Nat} (h2 : 2 ≤ p) : ∀ k, ∀ e ∈ ansN p rows leads free m k, 0 ≤ e ∧ e < p
  | 0, e, he => by
    rcases List.mem_or_eq_of_mem_set he with h | h
    · rw [(List.mem_replicate.mp h).2]; omega
    · omega
  | k + 1, e, he => by
    rcases List.mem_or_eq_of_mem_set he with h | h
    · exact ans_bd h2 k e h
    · rw [h]; exact ⟨Int.fmod_nonneg_of_pos _ (by omega), Int.fmod_lt_of_pos _ (by omega)⟩
theorem ans_free {rows : List (List Int)} {leads : List Nat} {free m : Nat} (hf : free < m) (hn : free ∉ leads) (hlt : ∀ l ∈ leads, l < m) : ∀ k, k ≤ leads.length → (ansN p rows leads free m k).getD free 0 = 1
  | 0, _ => by show ((List.replicate m (0 : Int)).set free 1).getD free 0 = 1; rw [getD_set (by rw [List.length_replicate]; exact hf), if_pos rfl]
  | k + 1, hk => by
    have hm := getD_lt (l := leads) (t := k) (by omega)
    show ((ansN p rows leads free m k).set _ _).getD free 0 = 1
    rw [getD_set (by rw [ans_len]; exact hlt _ hm), if_neg (fun e => hn (by rw [e]; exact hm))]
    exact ans_free hf hn hlt k (by omega)
theorem nd_get {l : List Nat} (h : l.Nodup) {s t : Nat} (hs : s < l.length) (ht : t < l.length) (e : l.getD s 0 = l.getD t 0) : s = t := by
  rw [List.getD_eq_getElem?_getD, List.getElem?_eq_getElem hs, List.getD_eq_getElem?_getD, List.getElem?_eq_getElem ht] at e
  have hp := List.pairwise_iff_getElem.mp h
  apply Classical.byContradiction
  intro hne
  by_cases hlt : s < t
  · exact hp s t hs ht hlt e
  · exact hp t s ht hs (by omega) e.symm
theorem ans_later {rows : List (List Int)} {leads : List Nat} {free m : Nat} (hf : free < m) (hn : free ∉ leads) (hlt : ∀ l ∈ leads, l < m) (nd : leads.Nodup) : ∀ k, k ≤ leads.length → ∀ s, k ≤ s → s < leads.length → (ansN p rows leads free m k).getD (leads.getD s 0) 0 = 0
  | 0, _, s, _, hs => by
    show ((List.replicate m (0 : Int)).set free 1).getD _ 0 = 0
    have hm := getD_lt hs
    rw [getD_set (by rw [List.length_replicate]; exact hf), if_neg (fun e => hn (by rw [← e]; exact hm))]
    rw [List.getD_eq_getElem?_getD, List.getElem?_replicate]
    split <;> rfl
  | k + 1, hk, s, hks, hs => by
    have hm := getD_lt (l := leads) (t := k) (by omega)
    show ((ansN p rows leads free m k).set _ _).getD _ 0 = 0
    rw [getD_set (by rw [ans_len]; exact hlt _ hm), if_neg (fun e => by have := nd_get nd hs (by omega) e; omega)]
    exact ans_later hf hn hlt nd k (by omega) s (by omega) hs
theorem ans_sum (hp : p = (N : Int)) (h0 : 0 < p) {rows : List (List Int)} {leads : List Nat} {free : Nat} {M0 : Mat F} (h : Inv n (n + 1) M0 (mat rows) leads) (hf : free < n + 1) (hn : free ∉ leads) {k : Nat} (hk : k < n) : ∀ t, t ≤ leads.length →
    sumN (fun c => (mat rows k c : F) * vec (ansN p rows leads free (n + 1) t) c) (n + 1) = mat rows k free - (if k < t then mat rows k free else 0)
  | 0, _ => by
    rw [if_neg (by omega)]
    have := sumN_at (g := (mat rows k : Nat → F)) (w := fun _ => 0) (w' := vec (ansN p rows leads free (n + 1) 0)) (l := free) (fun c hc => by
      unfold vec
      show ph (((List.replicate (n + 1) (0 : Int)).set free 1).getD c 0) = 0
      rw [getD_set (by rw [List.length_replicate]; exact hf), if_neg hc]
      have : (List.replicate (n + 1) (0 : Int)).getD c 0 = 0 := by
        rw [List.getD_eq_getElem?_getD, List.getElem?_replicate]
        split <;> rfl
      rw [this, ph_zero]) (n := n + 1)
    rw [this, if_pos hf, sumN_zero fun i _ => (by grind)]
    have e : (vec (ansN p rows leads free (n + 1) 0) free : F) = 1 := by
      unfold vec; rw [ans_free hf hn h.lt 0 (Nat.zero_le _), ph_one]
    rw [e]; clear this; grind
  | t + 1, ht => by
    have hm := getD_lt (l := leads) (t := t) (by omega)
    have ih := ans_sum hp h0 h hf hn hk t (by omega)
    have := sumN_at (g := (mat rows k : Nat → F)) (w := vec (ansN p rows leads free (n + 1) t)) (w' := vec (ansN p rows leads free (n + 1) (t + 1))) (l := leads.getD t 0) (fun c hc => by
      unfold vec
      show ph (((ansN p rows leads free (n + 1) t).set _ _).getD c 0) = _
      rw [getD_set (by rw [ans_len]; exact h.lt _ hm), if_neg hc]) (n := n + 1)
    rw [this, ih, if_pos (h.lt _ hm), h.piv k hk t (by omega)]
    have e1 : (vec (ansN p rows leads free (n + 1) t) (leads.getD t 0) : F) = 0 := by
      unfold vec; rw [ans_later hf hn h.lt h.nd t (by omega) t (Nat.le_refl _) (by omega), ph_zero]
    have e2 : (vec (ansN p rows leads free (n + 1) (t + 1)) (leads.getD t 0) : F) = -mat rows t free := by
      unfold vec
      show ph (((ansN p rows leads free (n + 1) t).set _ ((-(ent rows t free)).fmod p)).getD _ 0) = _
      rw [getD_set (by rw [ans_len]; exact h.lt _ hm), if_pos rfl, ph_fm (n := N) hp h0, ph_neg]; rfl
    rw [e1, e2]
    clear this ih e1 e2
    by_cases hkt : k = t
    · subst hkt
      rw [if_pos rfl, if_neg (by omega), if_pos (by omega)]; grind
    · rw [if_neg hkt]
      by_cases h3 : k < t
      · rw [if_pos h3, if_pos (by omega)]; grind
      · rw [if_neg h3, if_neg (by omega)]; grind
theorem gauss_ok (hp : p = (N : Int)) (h2 : 2 ≤ p ∧ p ≤ 1000) (hpow : ∀ a : Int, a.fmod p ≠ 0 → (ph a : F) * ph (powm a (p - 2) p) = 1) {rows : List (List Int)} (S : Shape n rows) :
    (gauss p rows).length = n + 1 ∧ (∀ e ∈ gauss p rows, 0 ≤ e ∧ e < p) ∧ (∃ c, c < n + 1 ∧ (gauss p rows).getD c 0 = 1) ∧ Ker n (mat rows : Mat F) (vec (gauss p rows)) := by
  have h0 : 0 < p := by omega
  have I := inv_all (F := F) hp h2 hpow S (n + 1) (Nat.le_refl _)
  have hl := S.len
  unfold gauss
  rw [hl]
  obtain ⟨f, r, e, hf, hn⟩ := free_some I.le
  rw [e]
  rw [List.headD_cons]
  refine ⟨ans_len _, ans_bd h2.1 _, ⟨f, hf, ans_free hf hn I.lt _ (Nat.le_refl _)⟩, I.ker _ fun k hk => ?_⟩
  rw [ans_sum hp h0 I hf hn hk _ (Nat.le_refl _)]
  by_cases hkr : k < (gsteps p rows (n + 1)).2.length
  · rw [if_pos hkr]; grind
  · rw [if_neg hkr, I.zero k hk (by omega) f hf]; grind
end
end Mine

/-! ## part N8 -/
namespace Mine
open Lean.Grind (CommRing IsCharP)
theorem fm_red {p : Int} (h0 : 0 < p) (a : Int) : 0 ≤ a.fmod p ∧ a.fmod p < p := ⟨Int.fmod_nonneg_of_pos a h0, Int.fmod_lt_of_pos a h0⟩
theorem dbl_red {p : Int} (h0 : 0 < p) (x y z : Int) : Red p (dbl p x y z) := ⟨fm_red h0 _, fm_red h0 _, fm_red h0 _⟩
theorem addG_red {p : Int} (h0 : 0 < p) (a b c d e f : Int) : Red p (addG p a b c d e f) := ⟨fm_red h0 _, fm_red h0 _, fm_red h0 _⟩
theorem addI_red {p : Int} (h0 : 0 < p) {t u : Trip} (ht : Red p t) (hu : Red p u) : Red p (addI p t u) := by
  unfold addI
  cases (t.2.2 == (0 : Int).fmod p || u.2.2 == (0 : Int).fmod p)
  · cases (((u.1 * t.2.2).fmod p == (t.1 * u.2.2).fmod p) && ((u.2.1 * t.2.2).fmod p == (t.2.1 * u.2.2).fmod p))
    · cases ((u.1 * t.2.2).fmod p == (t.1 * u.2.2).fmod p)
      · exact addG_red h0 _ _ _ _ _ _
      · show Red p ((1 : Int).fmod p, (1 : Int).fmod p, (0 : Int).fmod p)
        exact ⟨fm_red h0 1, fm_red h0 1, fm_red h0 0⟩
    · exact dbl_red h0 _ _ _
  · cases (u.2.2 == (0 : Int).fmod p)
    · exact hu
    · exact ht
theorem form_red {p : Int} (h0 : 0 < p) (z : Int) (P : Int × Int) : Red p (form p z P) := ⟨fm_red h0 _, fm_red h0 _, fm_red h0 _⟩
theorem affT_red {p : Int} (h0 : 0 < p) (P : Int × Int) : Red p (affT p P) := ⟨fm_red h0 _, fm_red h0 _, fm_red h0 _⟩
theorem stepT_red {p : Int} (h0 : 0 < p) (b : Bool) {t u : Trip} (ht : Red p t) (hu : Red p u) : Red p (stepT p b t u) := by
  cases b
  · exact addI_red h0 hu ht
  · exact addI_red h0 ht hu
section
variable {F : Type} [CommRing F]
theorem ph_two : (ph 2 : F) = 2 := Lean.Grind.Ring.intCast_ofNat 2
theorem ph_three : (ph 3 : F) = 3 := Lean.Grind.Ring.intCast_ofNat 3
theorem ph_four : (ph 4 : F) = 4 := Lean.Grind.Ring.intCast_ofNat 4
theorem ph_eight : (ph 8 : F) = 8 := Lean.Grind.Ring.intCast_ofNat 8
theorem Slope.symm {P Q : F × F} {m : F} (h : Slope P Q m) : Slope Q P m := by
  have h1 := h.on
  refine ⟨?_, ?_, ?_⟩
  · rw [h1]; clear h; grind
  · rw [h1]
    have h2 := h.tg
    have e : P.1 * P.1 + P.1 * Q.1 + Q.1 * Q.1 - 2 * (P.2 + m * (Q.1 - P.1)) * m - m * m * (P.1 - Q.1) = Q.1 * Q.1 + Q.1 * P.1 + P.1 * P.1 - 2 * P.2 * m - m * m * (Q.1 - P.1) := by clear h h1 h2; grind
    rw [e, h2]
  · rcases h.kind with ⟨i, hi⟩ | ⟨ex, i, hi⟩
    · exact .inl ⟨-i, by rw [← hi]; clear h h1 hi; grind⟩
    · refine .inr ⟨ex.symm, i, ?_⟩
      rw [h1, ex, ← hi]; clear h h1 hi; grind
theorem AddR.symm {P Q : F × F} : ∀ {T : Option (F × F)}, AddR P Q T → AddR Q P T
  | none, ⟨h1, h2⟩ => ⟨h1.symm, by rw [h2]; grind⟩
  | some T, ⟨m, hm, e1, e2⟩ => ⟨m, hm.symm, by rw [e1]; clear hm e1 e2; grind, by rw [e2, hm.on]; clear hm e1 e2; grind⟩
/-- a triple stands for a point -/
def Rpr (t : Trip) : Option (F × F) → Prop
  | none => (ph t.2.2 : F) = 0
  | some P => (ph t.2.2 : F) ≠ 0 ∧ ph t.1 = P.1 * ph t.2.2 ∧ ph t.2.1 = P.2 * ph t.2.2
variable (inv : ∀ a : F, a ≠ 0 → ∃ i, i * a = 1)
include inv
theorem nzd {a b : F} (h : a * b = 0) (ha : a ≠ 0) : b = 0 := by
  obtain ⟨i, hi⟩ := inv a ha
  have : b = (i * a) * b := by rw [hi]; grind
  rw [this]
  have e : i * a * b = i * (a * b) := by clear h hi this; grind
  rw [e, h]; clear h this hi e; grind
theorem nzm {a b : F} (ha : a ≠ 0) (hb : b ≠ 0) : a * b ≠ 0 := fun h => hb (nzd inv h ha)
variable {p : Int} {N : Nat} [IsCharP F N] (hp : p = (N : Int)) (h0 : 0 < p)
include hp h0
theorem dbl_rpr (two : (2 : F) ≠ 0) {c : F} {t : Trip} {P : F × F} (h : Rpr t (some P)) : ∃ T, AddR P P T ∧ Rpr (dbl p t.1 t.2.1 t.2.2) T := by
  obtain ⟨x, y, z⟩ := t
  obtain ⟨a, b⟩ := P
  obtain ⟨hz, hx, hy⟩ : (ph z : F) ≠ 0 ∧ ph x = a * ph z ∧ ph y = b * ph z := h
  have eS : (ph ((y * z).fmod p) : F) = b * ph z * ph z := by rw [ph_fm (n := N) hp h0, ph_mul, hy]
  have eW : (ph (dblW p x) : F) = 3 * (a * ph z) * (a * ph z) := by unfold dblW; rw [ph_fm (n := N) hp h0, ph_mul, ph_fm (n := N) hp h0, ph_mul, ph_three, hx]; clear eS; grind
  have eB : (ph (dblB p x y ((y * z).fmod p)) : F) = a * ph z * (b * ph z) * (b * ph z * ph z) := by unfold dblB; rw [ph_fm (n := N) hp h0, ph_mul, ph_fm (n := N) hp h0, ph_mul, hx, hy, eS]
  have eH : (ph (dblH p (dblW p x) (dblB p x y ((y * z).fmod p))) : F) = 3 * (a * ph z) * (a * ph z) * (3 * (a * ph z) * (a * ph z)) - a * ph z * (b * ph z) * (b * ph z * ph z) * 8 := by unfold dblH; rw [ph_fm (n := N) hp h0, ph_sub, ph_fm (n := N) hp h0, ph_fm (n := N) hp h0, ph_mul, ph_mul, ph_eight, eW, eB]
  have eS2 : (ph (((y * z).fmod p * (y * z).fmod p).fmod p) : F) = b * ph z * ph z * (b * ph z * ph z) := by rw [ph_fm (n := N) hp h0, ph_mul, eS]
  have eZ : (ph (dbl p x y z).2.2 : F) = b * ph z * ph z * 8 * (b * ph z * ph z * (b * ph z * ph z)) := by
    show (ph (dblZ p _ _) : F) = _
    unfold dblZ; rw [ph_fm (n := N) hp h0, ph_mul, ph_fm (n := N) hp h0, ph_mul, ph_eight, eS, eS2]
  by_cases hb : b = 0
  · refine ⟨none, ⟨rfl, by show b = -b; rw [hb]; grind⟩, ?_⟩
    show (ph (dbl p x y z).2.2 : F) = 0
    rw [eZ, hb]; clear eZ eS2 eH eB eW eS; grind
  · have h2b : 2 * b ≠ 0 := nzm inv two hb
    obtain ⟨i, hi⟩ := inv _ h2b
    have m1 : 2 * b * (3 * a * a * i) = 3 * a * a := by
      have : 2 * b * (3 * a * a * i) = 3 * a * a * (i * (2 * b)) := by clear hi eZ eS2 eH eB eW eS; grind
      rw [this, hi]; clear hi this eZ eS2 eH eB eW eS; grind
    generalize hm : 3 * a * a * i = m at m1
    have eX : (ph (dbl p x y z).1 : F) = (3 * (a * ph z) * (a * ph z) * (3 * (a * ph z) * (a * ph z)) - a * ph z * (b * ph z) * (b * ph z * ph z) * 8) * 2 * (b * ph z * ph z) := by
      show (ph (dblX p _ _) : F) = _
      unfold dblX; rw [ph_fm (n := N) hp h0, ph_mul, ph_fm (n := N) hp h0, ph_mul, ph_two, eH, eS]
    have eY : (ph (dbl p x y z).2.1 : F) = 3 * (a * ph z) * (a * ph z) * (a * ph z * (b * ph z) * (b * ph z * ph z) * 4 - (3 * (a * ph z) * (a * ph z) * (3 * (a * ph z) * (a * ph z)) - a * ph z * (b * ph z) * (b * ph z * ph z) * 8)) - b * ph z * 8 * (b * ph z) * (b * ph z * ph z * (b * ph z * ph z)) := by
      show (ph (dblY p _ _ _ _ _) : F) = _
      unfold dblY
      rw [ph_fm (n := N) hp h0, ph_sub, ph_fm (n := N) hp h0, ph_mul, ph_fm (n := N) hp h0, ph_sub, ph_fm (n := N) hp h0, ph_mul, ph_fm (n := N) hp h0, ph_mul, ph_fm (n := N) hp h0, ph_mul, ph_fm (n := N) hp h0, ph_mul, eW, eB, eH, eS2, ph_four, ph_eight, hy]
    refine ⟨some (m * m - a - a, m * (a - (m * m - a - a)) - b), ⟨m, ⟨?_, ?_, .inr ⟨rfl, i, hi⟩⟩, rfl, rfl⟩, ?_, ?_, ?_⟩
    · show b = b + m * (a - a); clear eZ eS2 eH eB eW eS eX eY m1 hm hi; grind
    · show a * a + a * a + a * a - 2 * b * m - m * m * (a - a) = 0
      rw [m1]; clear eZ eS2 eH eB eW eS eX eY m1 hm hi; grind
    · rw [eZ]
      have e8 : (8 : F) = 2 * (2 * 2) := by grind
      have n8 : (8 : F) ≠ 0 := by rw [e8]; exact nzm inv two (nzm inv two two)
      have nS : b * ph z * ph z ≠ 0 := nzm inv (nzm inv hb hz) hz
      exact nzm inv (nzm inv nS n8) (nzm inv nS nS)
    · rw [eX, eZ]
      show _ = (m * m - a - a) * _
      clear eZ eS2 eH eB eW eS eX eY hm hi hx hy hz
      generalize (ph z : F) = z
      have e3 : 3 * (a * z) * (a * z) = (2 * b * m) * z * z := by rw [m1]; clear m1; grind
      rw [e3]; clear e3 m1; grind
    · rw [eY, eZ]
      show _ = (m * (a - (m * m - a - a)) - b) * _
      clear eZ eS2 eH eB eW eS eX eY hm hi hx hy hz
      generalize (ph z : F) = z
      have e3 : 3 * (a * z) * (a * z) = (2 * b * m) * z * z := by rw [m1]; clear m1; grind
      rw [e3]; clear e3 m1; grind
theorem addG_rpr {x1 y1 z1 x2 y2 z2 : Int} {a1 b1 a2 b2 : F} (hz1 : (ph z1 : F) ≠ 0) (hx1 : ph x1 = a1 * ph z1) (hy1 : ph y1 = b1 * ph z1) (hz2 : (ph z2 : F) ≠ 0) (hx2 : ph x2 = a2 * ph z2) (hy2 : ph y2 = b2 * ph z2) {c : F} (h1 : On c (a1, b1)) (h2 : On c (a2, b2)) (hne : a2 - a1 ≠ 0) :
    ∃ T, AddR (a1, b1) (a2, b2) (some T) ∧ Rpr (addG p ((y2 * z1).fmod p) ((y1 * z2).fmod p) ((x2 * z1).fmod p) ((x1 * z2).fmod p) z1 z2) (some T) := by
  obtain ⟨i, hi⟩ := inv _ hne
  have hm1 : ((b2 - b1) * i) * (a2 - a1) = b2 - b1 := by
    have : ((b2 - b1) * i) * (a2 - a1) = (b2 - b1) * (i * (a2 - a1)) := by clear hi; grind
    rw [this, hi]; clear this hi; grind
  generalize hm : (b2 - b1) * i = m at hm1
  have eU1 : (ph ((y2 * z1).fmod p) : F) = b2 * ph z2 * ph z1 := by rw [ph_fm (n := N) hp h0, ph_mul, hy2]
  have eU2 : (ph ((y1 * z2).fmod p) : F) = b1 * ph z1 * ph z2 := by rw [ph_fm (n := N) hp h0, ph_mul, hy1]
  have eV1 : (ph ((x2 * z1).fmod p) : F) = a2 * ph z2 * ph z1 := by rw [ph_fm (n := N) hp h0, ph_mul, hx2]
  have eV2 : (ph ((x1 * z2).fmod p) : F) = a1 * ph z1 * ph z2 := by rw [ph_fm (n := N) hp h0, ph_mul, hx1]
  unfold addG
  generalize (y2 * z1).fmod p = U1 at eU1
  generalize (y1 * z2).fmod p = U2 at eU2
  generalize (x2 * z1).fmod p = V1 at eV1
  generalize (x1 * z2).fmod p = V2 at eV2
  have eU : (ph ((U1 - U2).fmod p) : F) = m * (a2 - a1) * (ph z1 * ph z2) := by rw [ph_fm (n := N) hp h0, ph_sub, eU1, eU2, hm1]; clear eU1 eU2 eV1 eV2 hm hm1 hi h1 h2; grind
  have eV : (ph ((V1 - V2).fmod p) : F) = (a2 - a1) * (ph z1 * ph z2) := by rw [ph_fm (n := N) hp h0, ph_sub, eV1, eV2]; clear eU eU1 eU2 eV1 eV2 hm hm1 hi h1 h2; grind
  generalize (U1 - U2).fmod p = U at eU
  generalize (V1 - V2).fmod p = V at eV
  have eVs : (ph ((V * V).fmod p) : F) = (a2 - a1) * (ph z1 * ph z2) * ((a2 - a1) * (ph z1 * ph z2)) := by rw [ph_fm (n := N) hp h0, ph_mul, eV]
  generalize (V * V).fmod p = Vs at eVs
  have eVt : (ph ((Vs * V2).fmod p) : F) = (a2 - a1) * (ph z1 * ph z2) * ((a2 - a1) * (ph z1 * ph z2)) * (a1 * ph z1 * ph z2) := by rw [ph_fm (n := N) hp h0, ph_mul, eVs, eV2]
  generalize (Vs * V2).fmod p = Vt at eVt
  have eVc : (ph ((V * Vs).fmod p) : F) = (a2 - a1) * (ph z1 * ph z2) * ((a2 - a1) * (ph z1 * ph z2) * ((a2 - a1) * (ph z1 * ph z2))) := by rw [ph_fm (n := N) hp h0, ph_mul, eVs, eV]
  generalize (V * Vs).fmod p = Vc at eVc
  have eW : (ph ((z1 * z2).fmod p) : F) = ph z1 * ph z2 := by rw [ph_fm (n := N) hp h0, ph_mul]
  generalize (z1 * z2).fmod p = W at eW
  have nw : (ph z1 * ph z2 : F) ≠ 0 := nzm inv hz1 hz2
  have a1e : a1 * ph z1 * ph z2 = a1 * (ph z1 * ph z2) := by clear eU eV eVs eVt eVc eW eU1 eU2 eV1 eV2 hm hm1 hi h1 h2; grind
  have b1e : b1 * ph z1 * ph z2 = b1 * (ph z1 * ph z2) := by clear eU eV eVs eVt eVc eW eU1 eU2 eV1 eV2 hm hm1 hi h1 h2; grind
  rw [a1e] at eVt
  rw [b1e] at eU2
  clear eU1 eV1 eV2 a1e b1e hx1 hy1 hx2 hy2
  generalize (ph z1 * ph z2 : F) = w at *
  have eA : (ph (gA p U W Vc Vt) : F) = m * (a2 - a1) * w * (m * (a2 - a1) * w) * w - (a2 - a1) * w * ((a2 - a1) * w * ((a2 - a1) * w)) - (a2 - a1) * w * ((a2 - a1) * w) * (a1 * w) * 2 := by
    unfold gA
    rw [ph_fm (n := N) hp h0, ph_sub, ph_fm (n := N) hp h0, ph_sub, ph_fm (n := N) hp h0, ph_mul, ph_fm (n := N) hp h0, ph_mul, ph_fm (n := N) hp h0, ph_mul, ph_two, eU, eW, eVc, eVt]
  have eZ : (ph ((Vc * W).fmod p) : F) = (a2 - a1) * w * ((a2 - a1) * w * ((a2 - a1) * w)) * w := by rw [ph_fm (n := N) hp h0, ph_mul, eVc, eW]
  have eX : (ph ((V * gA p U W Vc Vt).fmod p) : F) = (a2 - a1) * w * (m * (a2 - a1) * w * (m * (a2 - a1) * w) * w - (a2 - a1) * w * ((a2 - a1) * w * ((a2 - a1) * w)) - (a2 - a1) * w * ((a2 - a1) * w) * (a1 * w) * 2) := by rw [ph_fm (n := N) hp h0, ph_mul, eV, eA]
  have eY : (ph (gY p U Vt (gA p U W Vc Vt) Vc U2) : F) = m * (a2 - a1) * w * ((a2 - a1) * w * ((a2 - a1) * w) * (a1 * w) - (m * (a2 - a1) * w * (m * (a2 - a1) * w) * w - (a2 - a1) * w * ((a2 - a1) * w * ((a2 - a1) * w)) - (a2 - a1) * w * ((a2 - a1) * w) * (a1 * w) * 2)) - (a2 - a1) * w * ((a2 - a1) * w * ((a2 - a1) * w)) * (b1 * w) := by
    unfold gY
    rw [ph_fm (n := N) hp h0, ph_sub, ph_fm (n := N) hp h0, ph_mul, ph_fm (n := N) hp h0, ph_sub, ph_fm (n := N) hp h0, ph_mul, eU, eVt, eA, eVc, eU2]
  have on : b2 = b1 + m * (a2 - a1) := by rw [hm1]; clear eX eY eZ eA eU eV eVs eVt eVc eW eU2 hm hm1 hi h1 h2; grind
  have nd : (a2 - a1) * w ≠ 0 := nzm inv hne nw
  refine ⟨(m * m - a1 - a2, m * (a1 - (m * m - a1 - a2)) - b1), ⟨m, ⟨on, ?_, .inl ⟨i, hi⟩⟩, rfl, rfl⟩, ?_, ?_, ?_⟩
  · show a2 * a2 + a2 * a1 + a1 * a1 - 2 * b1 * m - m * m * (a2 - a1) = 0
    refine nzd inv (a := a2 - a1) ?_ hne
    have h1 : b1 * b1 = a1 * a1 * a1 + c := h1
    have h2 : b2 * b2 = a2 * a2 * a2 + c := h2
    rw [on] at h2
    have : (a2 - a1) * (a2 * a2 + a2 * a1 + a1 * a1 - 2 * b1 * m - m * m * (a2 - a1)) = (a2 * a2 * a2 + c) - (a1 * a1 * a1 + c) + b1 * b1 - (b1 + m * (a2 - a1)) * (b1 + m * (a2 - a1)) := by clear eX eY eZ eA eU eV eVs eVt eVc eW eU2 hm hm1 hi h1 h2 on; grind
    rw [this, h1, h2]; clear eX eY eZ eA eU eV eVs eVt eVc eW eU2 hm hm1 hi h1 h2 on this; grind
  · show (ph ((Vc * W).fmod p) : F) ≠ 0
    rw [eZ]; exact nzm inv (nzm inv nd (nzm inv nd nd)) nw
  · show (ph ((V * gA p U W Vc Vt).fmod p) : F) = (m * m - a1 - a2) * ph ((Vc * W).fmod p)
    rw [eX, eZ]
    clear eX eY eZ eA eU eV eVs eVt eVc eW eU2 hm hm1 hi h1 h2 on; grind
  · show (ph (gY p U Vt (gA p U W Vc Vt) Vc U2) : F) = (m * (a1 - (m * m - a1 - a2)) - b1) * ph ((Vc * W).fmod p)
    rw [eY, eZ]
    clear eX eY eZ eA eU eV eVs eVt eVc eW eU2 hm hm1 hi h1 h2 on; grind
omit h0 in
theorem eq_fm {a b : Int} (h0 : 0 < p) : (a.fmod p == b.fmod p) = true ↔ (ph a : F) = ph b := by
  rw [beq_iff_eq]
  constructor
  · intro h
    rw [← ph_fm (n := N) hp h0 a, h, ph_fm (n := N) hp h0]
  · intro h
    refine ph_inj (F := F) (n := N) hp (fm_red h0 _) (fm_red h0 _) ?_
    rw [ph_fm (n := N) hp h0, ph_fm (n := N) hp h0]; exact h
theorem z_is {z : Int} (hz : 0 ≤ z ∧ z < p) : (z == (0 : Int).fmod p) = true ↔ (ph z : F) = 0 := by
  rw [beq_iff_eq, Int.zero_fmod]
  constructor
  · rintro rfl; exact ph_zero
  · intro h
    exact ph_inj (F := F) (n := N) hp hz ⟨Int.le_refl _, h0⟩ (by rw [h, ph_zero])
theorem addI_rpr (two : (2 : F) ≠ 0) {c : F} {t u : Trip} (ht : Red p t) (hu : Red p u) {P Q : F × F} (h1 : On c P) (h2 : On c Q) (r1 : Rpr t (some P)) (r2 : Rpr u (some Q)) : ∃ T, AddR P Q T ∧ Rpr (addI p t u) T := by
  obtain ⟨x1, y1, z1⟩ := t
  obtain ⟨x2, y2, z2⟩ := u
  obtain ⟨a1, b1⟩ := P
  obtain ⟨a2, b2⟩ := Q
  obtain ⟨hz1, hx1, hy1⟩ : (ph z1 : F) ≠ 0 ∧ ph x1 = a1 * ph z1 ∧ ph y1 = b1 * ph z1 := r1
  obtain ⟨hz2, hx2, hy2⟩ : (ph z2 : F) ≠ 0 ∧ ph x2 = a2 * ph z2 ∧ ph y2 = b2 * ph z2 := r2
  have n1 : (z1 == (0 : Int).fmod p) = false := by
    cases h : (z1 == (0 : Int).fmod p) with
    | false => rfl
    | true => exact absurd ((z_is (F := F) inv hp h0 ht.2.2).mp h) hz1
  have n2 : (z2 == (0 : Int).fmod p) = false := by
    cases h : (z2 == (0 : Int).fmod p) with
    | false => rfl
    | true => exact absurd ((z_is (F := F) inv hp h0 hu.2.2).mp h) hz2
  have nw : (ph z1 * ph z2 : F) ≠ 0 := nzm inv hz1 hz2
  have exx : ((x2 * z1).fmod p == (x1 * z2).fmod p) = true ↔ a2 = a1 := by
    rw [eq_fm (F := F) inv hp h0, ph_mul, ph_mul, hx1, hx2]
    constructor
    · intro h
      have : (ph z1 * ph z2) * (a2 - a1) = 0 := by clear hx1 hx2 hy1 hy2 h1 h2; grind
      have := nzd inv this nw
      clear hx1 hx2 hy1 hy2 h1 h2 h; grind
    · rintro rfl; clear hx1 hx2 hy1 hy2 h1 h2; grind
  have eyy : ((y2 * z1).fmod p == (y1 * z2).fmod p) = true ↔ b2 = b1 := by
    rw [eq_fm (F := F) inv hp h0, ph_mul, ph_mul, hy1, hy2]
    constructor
    · intro h
      have : (ph z1 * ph z2) * (b2 - b1) = 0 := by clear hx1 hx2 hy1 hy2 h1 h2 exx; grind
      have := nzd inv this nw
      clear hx1 hx2 hy1 hy2 h1 h2 h exx; grind
    · rintro rfl; clear hx1 hx2 hy1 hy2 h1 h2 exx; grind
  unfold addI
  dsimp only
  rw [n1, n2]
  show ∃ T, AddR (a1, b1) (a2, b2) T ∧ Rpr (cond (((x2 * z1).fmod p == (x1 * z2).fmod p) && ((y2 * z1).fmod p == (y1 * z2).fmod p)) (dbl p x1 y1 z1) (cond ((x2 * z1).fmod p == (x1 * z2).fmod p) _ _)) T
  cases hx : ((x2 * z1).fmod p == (x1 * z2).fmod p) with
  | false =>
    have hne : a2 - a1 ≠ 0 := fun e => by
      have : a2 = a1 := by clear hx1 hx2 hy1 hy2 h1 h2 exx eyy; grind
      rw [exx.mpr this] at hx; cases hx
    obtain ⟨T, hT, hr⟩ := addG_rpr inv hp h0 hz1 hx1 hy1 hz2 hx2 hy2 h1 h2 hne
    exact ⟨some T, hT, hr⟩
  | true =>
    have ex := exx.mp hx
    cases hy : ((y2 * z1).fmod p == (y1 * z2).fmod p) with
    | true =>
      have ey := eyy.mp hy
      obtain ⟨T, hT, hr⟩ := dbl_rpr (c := c) (t := (x1, y1, z1)) (P := (a1, b1)) inv hp h0 two ⟨hz1, hx1, hy1⟩
      exact ⟨T, by rw [ex, ey]; exact hT, hr⟩
    | false =>
      refine ⟨none, ⟨ex, ?_⟩, ?_⟩
      · show b2 = -b1
        have hne : b2 - b1 ≠ 0 := fun e => by
          have : b2 = b1 := by clear hx1 hx2 hy1 hy2 h1 h2 exx eyy; grind
          rw [eyy.mpr this] at hy; cases hy
        have h1 : b1 * b1 = a1 * a1 * a1 + c := h1
        have h2 : b2 * b2 = a2 * a2 * a2 + c := h2
        have : (b2 - b1) * (b2 + b1) = 0 := by
          have : (b2 - b1) * (b2 + b1) = b2 * b2 - b1 * b1 := by clear hx1 hx2 hy1 hy2 h1 h2 exx eyy; grind
          rw [this, h1, h2, ex]; clear this hx1 hx2 hy1 hy2 h1 h2 exx eyy; grind
        have := nzd inv this hne
        clear hx1 hx2 hy1 hy2 h1 h2 exx eyy; grind
      · show (ph ((0 : Int).fmod p) : F) = 0
        rw [Int.zero_fmod, ph_zero]
theorem add_both (two : (2 : F) ≠ 0) {c : F} {t u : Trip} (ht : Red p t) (hu : Red p u) {S : Option (F × F)} {Q : F × F} (h1 : ∀ P, S = some P → On c P) (h2 : On c Q) (r1 : Rpr t S) (r2 : Rpr u (some Q)) (b : Bool) : ∃ T, AddO S Q T ∧ Rpr (stepT p b t u) T := by
  cases S with
  | some P =>
    cases b with
    | true => exact addI_rpr inv hp h0 two ht hu (h1 P rfl) h2 r1 r2
    | false =>
      obtain ⟨T, hT, hr⟩ := addI_rpr inv hp h0 two hu ht h2 (h1 P rfl) r2 r1
      exact ⟨T, hT.symm, hr⟩
  | none =>
    have e1 : (t.2.2 == (0 : Int).fmod p) = true := (z_is (F := F) inv hp h0 ht.2.2).mpr r1
    have e2 : (u.2.2 == (0 : Int).fmod p) = false := by
      cases h : (u.2.2 == (0 : Int).fmod p) with
      | false => rfl
      | true => exact absurd ((z_is (F := F) inv hp h0 hu.2.2).mp h) r2.1
    refine ⟨some Q, rfl, ?_⟩
    cases b with
    | true =>
      show Rpr (addI p t u) (some Q)
      unfold addI
      rw [e1, e2]; exact r2
    | false =>
      show Rpr (addI p u t) (some Q)
      unfold addI
      rw [e1, e2]; exact r2
end
end Mine

/-! ## part N9 -/
namespace Mine
open Lean.Grind (CommRing IsCharP)
/-! ### the function, from its numbers -/
namespace Crv
variable {F A : Type} [CommRing F] [CommRing A] {c : F} (K : Crv F A c)
def bas : Nat → A
  | 0 => 1
  | 1 => K.x
  | 2 => K.y
  | 3 => K.x * K.x
  | 4 => K.x * K.y
  | _ => K.x * K.x * K.x
def basF (R : F × F) : Nat → F
  | 0 => 1
  | 1 => R.1
  | 2 => R.2
  | 3 => R.1 * R.1
  | 4 => R.1 * R.2
  | _ => R.1 * R.1 * R.1
def U (k : Nat → F) : Nat → A
  | 0 => 0
  | n + 1 => U k n + K.C (k n) * K.bas n
theorem bas_L : ∀ j, j < 6 → K.L (j + 1) (K.bas j)
  | 0, _ => by show K.L 1 1; rw [← K.C_one]; exact K.L_mono (by omega) (K.L_C 1)
  | 1, _ => K.L_x
  | 2, _ => K.L_y
  | 3, _ => K.L_mul (n := 2) (m := 2) K.L_x K.L_x
  | 4, _ => K.L_mul (n := 2) (m := 3) K.L_x K.L_y
  | 5, _ => K.L_mul (n := 4) (m := 2) (K.L_mul (n := 2) (m := 2) K.L_x K.L_x) K.L_x
theorem U_L (k : Nat → F) : ∀ n, n ≤ 6 → K.L n (K.U k n)
  | 0, _ => K.L_zero 0
  | n + 1, h => K.L_add (K.L_mono (by omega) (U_L k n (by omega))) (by
      have := K.L_mul (K.L_C (k n)) (K.bas_L n (by omega))
      rw [Nat.zero_add] at this; exact this)
theorem pL {u : A} (h : K.Poly u) : ∃ N, K.L N u := h
theorem C_two : (K.C 0 : A) = 0 := K.C_zero
theorem lead : ∀ m, 1 ≤ m → m ≤ 5 → ∀ k, K.L m (K.C k * K.bas m) → k = 0
  | 1, _, _, k, h => by
    obtain ⟨a, e⟩ := K.L_one h
    have e : K.C k * K.x = K.C a := e
    exact (K.indep (a := -a) (b := k) (d := 0) (by rw [K.C_neg, K.C_zero, e]; clear e h; grind)).2.1
  | 2, _, _, k, h => by
    obtain ⟨a, b, e⟩ := K.L_two h
    have e : K.C k * K.y = K.C a + K.C b * K.x := e
    exact (K.indep (a := -a) (b := -b) (d := k) (by rw [K.C_neg, K.C_neg, e]; clear e h; grind)).2.2
  | 3, _, _, k, h => by
    obtain ⟨N, hN⟩ := K.poly_mul (K.poly_C k) K.poly_x
    have e : (K.x - K.C 0) * (K.C k * K.x) = K.C k * (K.x * K.x) := by rw [K.C_zero]; clear h hN; grind
    have := K.div_x (a := 0) (n := 1) hN (by rw [e]; exact h)
    exact lead 1 (by omega) (by omega) k this
  | 4, _, _, k, h => by
    obtain ⟨N, hN⟩ := K.poly_mul (K.poly_C k) K.poly_y
    have e : (K.x - K.C 0) * (K.C k * K.y) = K.C k * (K.x * K.y) := by rw [K.C_zero]; clear h hN; grind
    have := K.div_x (a := 0) (n := 2) hN (by rw [e]; exact h)
    exact lead 2 (by omega) (by omega) k this
  | 5, _, _, k, h => by
    obtain ⟨N, hN⟩ := K.poly_mul (K.poly_C k) (K.poly_mul K.poly_x K.poly_x)
    have e : (K.x - K.C 0) * (K.C k * (K.x * K.x)) = K.C k * (K.x * K.x * K.x) := by rw [K.C_zero]; clear h hN; grind
    have := K.div_x (a := 0) (n := 3) hN (by rw [e]; exact h)
    exact lead 3 (by omega) (by omega) k this
theorem U_lead {k : Nat → F} {m : Nat} (h1 : 1 ≤ m) (h5 : m ≤ 5) : K.L m (K.U k (m + 1)) ↔ k m = 0 := by
  constructor
  · intro h
    have := K.L_sub h (K.U_L k m (by omega))
    have e : K.U k (m + 1) - K.U k m = K.C (k m) * K.bas m := by
      show K.U k m + K.C (k m) * K.bas m - K.U k m = _
      grind
    rw [e] at this
    exact K.lead m h1 h5 _ this
  · intro h
    show K.L m (K.U k m + K.C (k m) * K.bas m)
    rw [h, K.C_zero]
    have e : K.U k m + 0 * K.bas m = K.U k m := by grind
    rw [e]; exact K.U_L k m (by omega)
theorem U_zero {k : Nat → F} : ∀ n, n ≤ 6 → K.U k n = 0 → ∀ j, j < n → k j = 0
  | 0, _, _, j, hj => absurd hj (Nat.not_lt_zero _)
  | 1, _, h, j, hj => by
    have e : j = 0 := by omega
    subst e
    have h : 0 + K.C (k 0) * 1 = 0 := h
    exact K.C_inj (by rw [← h]; clear h; grind)
  | n + 2, hn, h, j, hj => by
    have h1 : k (n + 1) = 0 := (K.U_lead (by omega) (by omega)).mp (by rw [h]; exact K.L_zero _)
    by_cases e : j = n + 1
    · rw [e, h1]
    · refine U_zero (n + 1) (by omega) ?_ j (by omega)
      have h : K.U k (n + 1) + K.C (k (n + 1)) * K.bas (n + 1) = 0 := h
      rw [h1, K.C_zero] at h
      rw [← h]; clear h; grind
theorem bas_at (R : F × F) : ∀ j, j < 6 → K.In [R] (K.bas j - K.C (basF R j))
  | 0, _ => ⟨0, 0, ⟨0, K.L_zero 0⟩, ⟨0, K.L_zero 0⟩, by show (1 : A) - K.C 1 = _; rw [K.C_one]; grind⟩
  | 1, _ => ⟨1, 0, by rw [← K.C_one]; exact K.poly_C 1, ⟨0, K.L_zero 0⟩, by show K.x - K.C R.1 = _; grind⟩
  | 2, _ => ⟨0, 1, ⟨0, K.L_zero 0⟩, by rw [← K.C_one]; exact K.poly_C 1, by show K.y - K.C R.2 = _; grind⟩
  | 3, _ => ⟨K.x + K.C R.1, 0, K.poly_add K.poly_x (K.poly_C _), ⟨0, K.L_zero 0⟩, by show K.x * K.x - K.C (R.1 * R.1) = _; rw [K.C_mul]; grind⟩
  | 4, _ => ⟨K.y, K.C R.1, K.poly_y, K.poly_C _, by show K.x * K.y - K.C (R.1 * R.2) = _; rw [K.C_mul]; grind⟩
  | 5, _ => ⟨K.x * K.x + K.x * K.C R.1 + K.C R.1 * K.C R.1, 0, K.poly_add (K.poly_add (K.poly_mul K.poly_x K.poly_x) (K.poly_mul K.poly_x (K.poly_C _))) (K.poly_mul (K.poly_C _) (K.poly_C _)), ⟨0, K.L_zero 0⟩, by show K.x * K.x * K.x - K.C (R.1 * R.1 * R.1) = _; rw [K.C_mul, K.C_mul]; grind⟩
theorem U_at (k : Nat → F) (R : F × F) : ∀ n, n ≤ 6 → K.In [R] (K.U k n - K.C (sumN (fun j => k j * basF R j) n))
  | 0, _ => ⟨0, 0, ⟨0, K.L_zero 0⟩, ⟨0, K.L_zero 0⟩, by show (0 : A) - K.C 0 = _; rw [K.C_zero]; grind⟩
  | n + 1, h => by
    have h1 := U_at k R n (by omega)
    have h2 := K.in_mul (K.poly_C (k n)) (K.bas_at R n (by omega))
    have e : K.U k (n + 1) - K.C (sumN (fun j => k j * basF R j) (n + 1)) = (K.U k n - K.C (sumN (fun j => k j * basF R j) n)) + K.C (k n) * (K.bas n - K.C (basF R n)) := by
      show K.U k n + K.C (k n) * K.bas n - K.C (sumN (fun j => k j * basF R j) n + k n * basF R n) = _
      rw [K.C_add, K.C_mul]; clear h1 h2; grind
    rw [e]; exact K.in_add h1 h2
theorem U_in (inv : ∀ a : F, a ≠ 0 → ∃ i, i * a = 1) (ne : (1 : F) ≠ 0) {k : Nat → F} {R : F × F} (hR : On c R) {n : Nat} (hn : n ≤ 6) : K.In [R] (K.U k n) ↔ sumN (fun j => k j * basF R j) n = 0 := by
  have h := K.U_at k R n hn
  constructor
  · intro h'
    refine K.no_one hR inv ne ?_
    have := K.in_sub h' h
    have e : K.U k n - (K.U k n - K.C (sumN (fun j => k j * basF R j) n)) = K.C (sumN (fun j => k j * basF R j) n) := by clear h h' this; grind
    rw [e] at this; exact this
  · intro e
    rw [e, K.C_zero] at h
    have e2 : K.U k n - 0 = K.U k n := by clear h; grind
    rw [e2] at h; exact h
end Crv

section
variable {F : Type} [CommRing F]
def fp (P : Int × Int) : F × F := (ph P.1, ph P.2)
variable (inv : ∀ a : F, a ≠ 0 → ∃ i, i * a = 1) {p : Int} {N : Nat} [IsCharP F N] (hp : p = (N : Int)) (h0 : 0 < p)
include inv hp h0
theorem form_rpr {z : Int} (hz : 0 < z ∧ z < p) (P : Int × Int) : Rpr (form p z P) (some (fp P : F × F)) := by
  have e : (ph (z.fmod p) : F) = ph z := ph_fm (n := N) hp h0 z
  refine ⟨?_, ?_, ?_⟩
  · show (ph (z.fmod p) : F) ≠ 0
    rw [e]
    intro h
    have := ph_inj (F := F) (n := N) hp (a := z) (b := 0) ⟨by omega, hz.2⟩ ⟨Int.le_refl _, h0⟩ (by rw [h, ph_zero])
    omega
  · show (ph ((P.1 * z).fmod p) : F) = ph P.1 * ph (z.fmod p)
    rw [ph_fm (n := N) hp h0, ph_mul, e]
  · show (ph ((P.2 * z).fmod p) : F) = ph P.2 * ph (z.fmod p)
    rw [ph_fm (n := N) hp h0, ph_mul, e]
theorem affT_rpr (ne : (1 : F) ≠ 0) (P : Int × Int) : Rpr (affT p P) (some (fp P : F × F)) := by
  refine ⟨?_, ?_, ?_⟩
  · show (ph ((1 : Int).fmod p) : F) ≠ 0
    rw [ph_fm (n := N) hp h0, ph_one]; exact ne
  · show (ph (P.1.fmod p) : F) = ph P.1 * ph ((1 : Int).fmod p)
    rw [ph_fm (n := N) hp h0, ph_fm (n := N) hp h0, ph_one]; grind
  · show (ph (P.2.fmod p) : F) = ph P.2 * ph ((1 : Int).fmod p)
    rw [ph_fm (n := N) hp h0, ph_fm (n := N) hp h0, ph_one]; grind
theorem on_fp {c : Int} {P : Int × Int} (h : onC p c P) : On (ph c : F) (fp P) := by
  have : (ph (P.2 * P.2 - P.1 ^ 3 - c) : F) = 0 := (ph_eq0 (n := N) hp h0).mpr h
  have e : P.1 ^ 3 = P.1 * P.1 * P.1 := by rw [Int.pow_succ, Int.pow_succ, Int.pow_succ, Int.pow_zero, Int.one_mul]
  rw [e, ph_sub, ph_sub, ph_mul, ph_mul, ph_mul] at this
  show ph P.2 * ph P.2 = ph P.1 * ph P.1 * ph P.1 + ph c
  clear e; grind
theorem fp_inj {P Q : Int × Int} (hP : inR p P) (hQ : inR p Q) (h : (fp P : F × F) = fp Q) : P = Q :=
  Prod.ext (ph_inj (F := F) (n := N) hp hP.1 hQ.1 (congrArg Prod.fst h)) (ph_inj (F := F) (n := N) hp hP.2 hQ.2 (congrArg Prod.snd h))
theorem zOf_bd {sc : Int} (h2 : 2 ≤ p) (i : Nat) : 0 < zOf p sc i ∧ zOf p sc i < p := by
  unfold zOf
  by_cases h : p = 1
  · omega
  · have := fm_red (p := p - 1) (by omega) (sc * i + sc)
    omega
theorem fold_rpr (two : (2 : F) ≠ 0) (h2 : 2 ≤ p) {c : Int} {sc : Int} (b : Bool) : ∀ (r : List (Int × Int)) (i : Nat) (t : Trip) (S : Option (F × F)), Red p t → (∀ P, S = some P → On (ph c : F) P) → Rpr t S → (∀ P ∈ r, onC p c P) →
    ∃ S', SumR S (r.map fp) S' ∧ Rpr ((formsOf p sc i r).foldl (stepT p b) t) S' ∧ Red p ((formsOf p sc i r).foldl (stepT p b) t) ∧ ∀ P, S' = some P → On (ph c : F) P
  | [], i, t, S, ht, hS, hr, _ => ⟨S, rfl, hr, ht, hS⟩
  | P :: r, i, t, S, ht, hS, hr, hon => by
    have oP := on_fp (F := F) inv hp h0 (hon P (.head _))
    obtain ⟨T, hT, hr'⟩ := add_both inv hp h0 two ht (form_red h0 (zOf p sc i) P) hS oP hr (form_rpr inv hp h0 (zOf_bd inv hp h0 h2 i) P) b
    obtain ⟨S', h1, h2', h3, h4⟩ := fold_rpr two h2 b r (i + 1) _ T (stepT_red h0 b ht (form_red h0 _ P)) (on_AddO hS oP hT) hr' fun Q hQ => hon Q (.tail _ hQ)
    exact ⟨S', ⟨T, hT, h1⟩, h2', h3, h4⟩
theorem tot_rpr (two : (2 : F) ≠ 0) (h2 : 2 ≤ p) {c : Int} {sc : Int} (b : Bool) {tk : List (Int × Int)} (hne : tk ≠ []) (hon : ∀ P ∈ tk, onC p c P) :
    ∃ S', SumR none (tk.map fp) S' ∧ Rpr (totOf p b (formsOf p sc 0 tk)) S' ∧ Red p (totOf p b (formsOf p sc 0 tk)) ∧ ∀ P, S' = some P → On (ph c : F) P := by
  match tk, hne with
  | P :: r, _ =>
    have oP := on_fp (F := F) inv hp h0 (hon P (.head _))
    obtain ⟨S', h1, h2', h3, h4⟩ := fold_rpr inv hp h0 two h2 (c := c) (sc := sc) b r 1 _ (some (fp P)) (form_red h0 (zOf p sc 0) P) (fun Q e => by cases e; exact oP) (form_rpr inv hp h0 (zOf_bd inv hp h0 h2 0) P) fun Q hQ => hon Q (.tail _ hQ)
    exact ⟨S', ⟨some (fp P), rfl, h1⟩, h2', h3, h4⟩
end
end Mine

/-! ## part N10 -/
namespace Mine
open Lean.Grind (CommRing IsCharP)
theorem getD_take {l : List Int} {m c : Nat} (h : c < m) : (l.take m).getD c 0 = l.getD c 0 := by
  rw [List.getD_eq_getElem?_getD, List.getElem?_take, if_pos h, List.getD_eq_getElem?_getD]
theorem parts_len {x y : Int} {m : Nat} (h : m ≤ 6) : (parts x y (m : Int)).length = m := by
  unfold parts
  rw [List.length_take, Int.toNat_natCast]
  show min m 6 = m
  omega
theorem small2 {x y : Int} (hx : 0 ≤ x ∧ x < 31) (hy : 0 ≤ y ∧ y < 31) : 0 ≤ x * y ∧ x * y ≤ 900 := by
  have h1 : x * y ≤ 30 * 30 := Int.mul_le_mul (by omega) (by omega) hy.1 (by omega)
  exact ⟨Int.mul_nonneg hx.1 hy.1, by omega⟩
theorem small3 {x y : Int} (hx : 0 ≤ x ∧ x ≤ 900) (hy : 0 ≤ y ∧ y < 31) : 0 ≤ x * y ∧ x * y ≤ 27000 := by
  have h1 : x * y ≤ 900 * 30 := Int.mul_le_mul (by omega) (by omega) hy.1 (by omega)
  exact ⟨Int.mul_nonneg hx.1 hy.1, by omega⟩
theorem parts_bd {x y : Int} {m : Int} (hx : 0 ≤ x ∧ x < 31) (hy : 0 ≤ y ∧ y < 31) : ∀ e ∈ parts x y m, 0 ≤ e ∧ e ≤ 27000 := by
  intro e he
  have he := List.mem_of_mem_take he
  have h1 := small2 hx hx
  have h2 := small2 hx hy
  have h3 := small3 h1 hx
  simp only [List.mem_cons, List.not_mem_nil, or_false] at he
  rcases he with rfl | rfl | rfl | rfl | rfl | rfl <;> omega
theorem rows_shape {p : Int} (hp : p ≤ 31) {tk : List (Int × Int)} (h5 : tk.length ≤ 5) (hr : ∀ P ∈ tk, inR p P) : Shape tk.length (tk.map (rowOf ((tk.length : Nat) + 1))) where
  len := by rw [List.length_map]
  row := fun r hr' => by
    obtain ⟨P, hP, rfl⟩ := List.mem_map.mp hr'
    obtain ⟨⟨a, b⟩, ⟨c, d⟩⟩ := hr P hP
    refine ⟨parts_len (m := tk.length + 1) (by omega), fun e he => ?_⟩
    have := parts_bd ⟨a, by omega⟩ ⟨c, by omega⟩ e he
    omega
section
variable {F : Type} [CommRing F]
theorem parts_at (x y : Int) {m : Nat} {j : Nat} (hj : j < m) (hm : m ≤ 6) : (ph ((parts x y (m : Int)).getD j 0) : F) = Crv.basF (fp (x, y)) j := by
  unfold parts
  rw [Int.toNat_natCast, getD_take hj]
  match j, (show j < 6 by omega) with
  | 0, _ => exact ph_one
  | 1, _ => rfl
  | 2, _ => rfl
  | 3, _ => exact ph_mul x x
  | 4, _ => exact ph_mul x y
  | 5, _ => show ph (x * x * x) = _; rw [ph_mul, ph_mul]; rfl
theorem sumN_left (f : Nat → F) : ∀ n, sumN f (n + 1) = f 0 + sumN (fun j => f (j + 1)) n
  | 0 => by show (0 : F) + f 0 = f 0 + 0; grind
  | n + 1 => by
    show sumN f (n + 1) + f (n + 1) = f 0 + (sumN (fun j => f (j + 1)) n + f (n + 1))
    rw [sumN_left f n]; grind
theorem ph_sum : ∀ l : List Int, (ph l.sum : F) = sumN (fun j => ph (l.getD j 0)) l.length
  | [] => ph_zero
  | a :: l => by
    rw [List.sum_cons, ph_add, ph_sum l, List.length_cons, sumN_left]
    rfl
theorem ph_dot {f g : List Int} {n : Nat} (hf : f.length = n) (hg : g.length = n) : (ph (dot f g) : F) = sumN (fun j => ph (f.getD j 0) * ph (g.getD j 0)) n := by
  unfold dot
  rw [ph_sum, List.length_zipWith, hf, hg, Nat.min_self]
  exact sumN_congr fun j hj => by rw [getD_zip (by omega) (by omega), ph_mul]
theorem z_none {t : Trip} {S : Option (F × F)} (h : Rpr t S) : (ph t.2.2 : F) = 0 ↔ S = none := by
  cases S with
  | none => exact ⟨fun _ => rfl, fun _ => h⟩
  | some P => exact ⟨fun e => absurd e h.1, fun e => by cases e⟩
theorem nodup_map {α β : Type} {f : α → β} : ∀ {l : List α}, (∀ a ∈ l, ∀ b ∈ l, f a = f b → a = b) → l.Nodup → (l.map f).Nodup
  | [], _, _ => List.nodup_nil
  | a :: l, h, nd => by
    have nd := List.nodup_cons.mp nd
    refine List.nodup_cons.mpr ⟨fun hm => ?_, nodup_map (fun a ha b hb => h a (.tail _ ha) b (.tail _ hb)) nd.2⟩
    obtain ⟨b, hb, e⟩ := List.mem_map.mp hm
    exact nd.1 (h b (.tail _ hb) a (.head _) e ▸ hb)
theorem plain_core (inv : ∀ a : F, a ≠ 0 → ∃ i, i * a = 1) (ne : (1 : F) ≠ 0) (two : (2 : F) ≠ 0) (six : (6 : F) ≠ 0) {p : Int} {N : Nat} [IsCharP F N] (hp : p = (N : Int)) (h2 : 7 ≤ p ∧ p ≤ 31)
    (hpow : ∀ a : Int, a.fmod p ≠ 0 → (ph a : F) * ph (powm a (p - 2) p) = 1) (c sc : Int) (tk : List (Int × Int)) (b : Bool) (hc : 1 ≤ c ∧ c < p) (hne : tk ≠ []) (h5 : tk.length ≤ 5) (nd : tk.Nodup) (hon : ∀ P ∈ tk, inR p P ∧ onC p c P) :
    (((totOf p b (formsOf p sc 0 tk)).2.2 == (0 : Int).fmod p) = ((fOf p tk).getD ((fOf p tk).length - 1) 0 == 0)) ∧
    ∀ R, inR p R → onC p c R → R ∉ tk → ((addI p (totOf p b (formsOf p sc 0 tk)) (affT p R)).2.2 == (0 : Int).fmod p) = ((dot (fOf p tk) (parts R.1 R.2 ((tk.length : Nat) + 1))).fmod p == 0) := by
  have h0 : 0 < p := by omega
  have S := rows_shape h2.2 h5 fun P hP => (hon P hP).1
  obtain ⟨hl, hb, ⟨j1, hj1, e1⟩, hk⟩ := gauss_ok (F := F) hp ⟨by omega, by omega⟩ hpow S
  have h1 : 1 ≤ tk.length := by
    cases tk with
    | nil => exact absurd rfl hne
    | cons _ _ => rw [List.length_cons]; omega
  change (fOf p tk).length = _ at hl
  change ∀ e ∈ fOf p tk, _ at hb
  change (fOf p tk).getD j1 0 = 1 at e1
  change Ker _ _ (vec (fOf p tk)) at hk
  have hc0 : (ph c : F) ≠ 0 := fun h => by
    have := ph_inj (F := F) (n := N) hp (a := c) (b := 0) ⟨by omega, hc.2⟩ ⟨Int.le_refl _, h0⟩ (by rw [h, ph_zero])
    omega
  have h6 : ∃ i : F, i * (6 * ph c) = 1 := inv _ (nzm inv six hc0)
  letI := crvR (ph c : F)
  have K : Crv F (Pr (Nat → F)) (ph c) := crv (ph c)
  have hu0 : K.U (vec (fOf p tk)) (tk.length + 1) ≠ 0 := fun h => by
    have := K.U_zero _ (by omega) h j1 hj1
    unfold vec at this
    rw [e1, ph_one] at this
    exact ne this
  have hz : ∀ P ∈ tk, sumN (fun j => (vec (fOf p tk) j : F) * Crv.basF (fp P) j) (tk.length + 1) = 0 := fun P hP => by
    obtain ⟨i, hi, rfl⟩ := List.mem_iff_getElem.mp hP
    rw [← hk i hi]
    refine sumN_congr fun j hj => ?_
    unfold mat ent
    have e : (tk.map (rowOf ((tk.length : Nat) + 1))).getD i [] = rowOf ((tk.length : Nat) + 1) tk[i] := by
      rw [List.getD_eq_getElem?_getD, List.getElem?_map, List.getElem?_eq_getElem hi]; rfl
    rw [e]
    have := parts_at (F := F) tk[i].1 tk[i].2 (m := tk.length + 1) hj (by omega)
    unfold rowOf
    rw [show ((tk.length : Nat) : Int) + 1 = ((tk.length + 1 : Nat) : Int) from rfl, this]
    clear this; grind
  have hlen : (tk.map (fp (F := F))).length = tk.length := List.length_map _
  obtain ⟨Sm, hS, hr, hred, hSo⟩ := tot_rpr (F := F) inv hp h0 two (by omega) (c := c) (sc := sc) b hne fun P hP => (hon P hP).2
  have core := K.core inv ne h6 (tk := tk.map fp) (nodup_map (fun P hP Q hQ e => fp_inj (F := F) inv hp h0 (hon P hP).1 (hon Q hQ).1 e) nd) (fun P hP => by
      obtain ⟨Q, hQ, rfl⟩ := List.mem_map.mp hP
      exact on_fp inv hp h0 (hon Q hQ).2) hu0 (fun P hP => by
      obtain ⟨Q, hQ, rfl⟩ := List.mem_map.mp hP
      exact (K.U_in inv ne (on_fp inv hp h0 (hon Q hQ).2) (by omega)).mpr (hz Q hQ)) (by rw [hlen]; exact K.U_L _ _ (by omega)) hS
  rw [hlen] at core
  constructor
  · rw [Bool.eq_iff_iff, z_is (F := F) inv hp h0 hred.2.2, z_none hr, ← core.1, K.U_lead h1 h5, beq_iff_eq, hl, Nat.add_sub_cancel]
    unfold vec
    constructor
    · intro h
      have hm : (fOf p tk).getD tk.length 0 ∈ fOf p tk := by
        rw [List.getD_eq_getElem?_getD, List.getElem?_eq_getElem (by omega)]
        exact List.getElem_mem _
      exact ph_inj (F := F) (n := N) hp (hb _ hm) ⟨Int.le_refl _, h0⟩ (by rw [h, ph_zero])
    · intro h; rw [h, ph_zero]
  · intro R hR hRo hRn
    have oR := on_fp (F := F) inv hp h0 hRo
    obtain ⟨T, hT, hr'⟩ := add_both inv hp h0 two hred (affT_red h0 R) hSo oR hr (affT_rpr inv hp h0 ne R) true
    change Rpr (addI p _ _) T at hr'
    have hn : (fp R : F × F) ∉ tk.map fp := fun h => by
      obtain ⟨Q, hQ, e⟩ := List.mem_map.mp h
      exact hRn (fp_inj (F := F) inv hp h0 (hon Q hQ).1 hR e ▸ hQ)
    rw [Bool.eq_iff_iff, z_is (F := F) inv hp h0 (addI_red h0 hred (affT_red h0 R)).2.2, z_none hr', core.2 (fp R) oR hn T hT, K.U_in inv ne oR (by omega), beq_iff_eq, ← ph_eq0 (F := F) (n := N) hp h0]
    have hpl : (parts R.1 R.2 ((tk.length : Nat) + 1)).length = tk.length + 1 := parts_len (m := tk.length + 1) (by omega)
    rw [ph_dot hl hpl]
    have e : sumN (fun j => (vec (fOf p tk) j : F) * Crv.basF (fp R) j) (tk.length + 1) = sumN (fun j => ph ((fOf p tk).getD j 0) * ph ((parts R.1 R.2 ((tk.length : Nat) + 1)).getD j 0)) (tk.length + 1) := sumN_congr fun j hj => by
      have := parts_at (F := F) R.1 R.2 (m := tk.length + 1) hj (by omega)
      rw [show ((tk.length : Nat) : Int) + 1 = ((tk.length + 1 : Nat) : Int) from rfl, this]
      rfl
    rw [e]
theorem hpow_of {p : Int} {N : Nat} [IsCharP F N] (hp : p = (N : Int)) (h0 : 2 < p) (chk : ∀ r, r < N → r ≠ 0 → (r * PySem.Builtin.powMod r (N - 2) N) % N = 1) (a : Int) (ha : a.fmod p ≠ 0) : (ph a : F) * ph (powm a (p - 2) p) = 1 := by
  have e0 : (ph (a.fmod p) : F) = ph a := ph_fm (n := N) hp (by omega) a
  have hb := fm_red (p := p) (by omega) a
  have hm : a.fmod p = a % p := Int.fmod_eq_emod_of_nonneg _ (by omega)
  rw [← e0]
  unfold powm
  rw [← hm]
  obtain ⟨r, hr⟩ : ∃ r : Nat, a.fmod p = r := ⟨(a.fmod p).toNat, by omega⟩
  rw [hr] at hb ha ⊢
  rw [Int.toNat_natCast, show (p - 2).natAbs = N - 2 by omega, show p.natAbs = N by omega, ← ph_mul]
  have := chk r (by omega) (by omega)
  have h : (ph ((r : Int) * (PySem.Builtin.powMod r (N - 2) N : Nat) - 1) : F) = 0 := by
    rw [ph_emod (n := N)]
    rw [← Int.natCast_mul]
    rw [Int.sub_emod, ← Int.natCast_emod, this]
    simp
  rw [ph_sub, ph_one] at h
  grind
end
theorem chkp7 : ∀ r, r < 7 → r ≠ 0 → (r * PySem.Builtin.powMod r (7 - 2) 7) % 7 = 1 := by decide +kernel
theorem chkp11 : ∀ r, r < 11 → r ≠ 0 → (r * PySem.Builtin.powMod r (11 - 2) 11) % 11 = 1 := by decide +kernel
theorem chkp19 : ∀ r, r < 19 → r ≠ 0 → (r * PySem.Builtin.powMod r (19 - 2) 19) % 19 = 1 := by decide +kernel
theorem chkp23 : ∀ r, r < 23 → r ≠ 0 → (r * PySem.Builtin.powMod r (23 - 2) 23) % 23 = 1 := by decide +kernel
theorem chkp31 : ∀ r, r < 31 → r ≠ 0 → (r * PySem.Builtin.powMod r (31 - 2) 31) % 31 = 1 := by decide +kernel
theorem inv7 : ∀ a : Fin 7, a ≠ 0 → ∃ i, i * a = 1 := by decide +kernel
theorem inv11 : ∀ a : Fin 11, a ≠ 0 → ∃ i, i * a = 1 := by decide +kernel
theorem inv19 : ∀ a : Fin 19, a ≠ 0 → ∃ i, i * a = 1 := by decide +kernel
theorem inv23 : ∀ a : Fin 23, a ≠ 0 → ∃ i, i * a = 1 := by decide +kernel
theorem inv31 : ∀ a : Fin 31, a ≠ 0 → ∃ i, i * a = 1 := by decide +kernel
theorem plain_law : PlainLaw := by
  intro p c sc tk b hp hc hsc hne h5 nd hon
  unfold primesL at hp
  simp only [List.mem_cons, List.not_mem_nil, or_false] at hp
  rcases hp with rfl | rfl | rfl | rfl | rfl
  · exact plain_core (F := Fin 7) (N := 7) inv7 (by decide) (by decide) (by decide) rfl (by omega) (hpow_of rfl (by omega) chkp7) c sc tk b hc hne h5 nd hon
  · exact plain_core (F := Fin 11) (N := 11) inv11 (by decide) (by decide) (by decide) rfl (by omega) (hpow_of rfl (by omega) chkp11) c sc tk b hc hne h5 nd hon
  · exact plain_core (F := Fin 19) (N := 19) inv19 (by decide) (by decide) (by decide) rfl (by omega) (hpow_of rfl (by omega) chkp19) c sc tk b hc hne h5 nd hon
  · exact plain_core (F := Fin 23) (N := 23) inv23 (by decide) (by decide) (by decide) rfl (by omega) (hpow_of rfl (by omega) chkp23) c sc tk b hc hne h5 nd hon
  · exact plain_core (F := Fin 31) (N := 31) inv31 (by decide) (by decide) (by decide) rfl (by omega) (hpow_of rfl (by omega) chkp31) c sc tk b hc hne h5 nd hon
end Mine

/-! ## part M21 -/
namespace Mine
open PySem PySem.W PyProof.Rows PySem.Calls

section
variable {w : World} {A : Around} {env : Env} {Γ : Gm} {β : Bs} {W : List Addr} {s s' : Shared} {E : Value → Shared → Prop} {rest : List Stmt} {Q : Flow → Shared → Prop}
theorem g_primes : GlobV w "_law_primes" (.ref 212) := .inl (by k_is)
theorem g_is_inf : GlobV w "is_inf" (.ref 28) := .inl (by k_is)
theorem g_add : GlobV w "add" (.ref 42) := .inl (by k_is)
theorem g_through : GlobV w "_law_through" (.ref 217) := .inl (by k_is)
theorem g_parts : GlobV w "_law_parts" (.ref 224) := .inl (by k_is)
theorem c_is_inf : Callee w (.ref 28) := .inr (.inr (by k_is))
theorem c_add : Callee w (.ref 42) := .inr (.inr (by k_is))
theorem c_through : Callee w (.ref 217) := .inr (.inr (by k_is))
theorem c_parts : Callee w (.ref 224) := .inr (.inr (by k_is))

theorem primes_at (h : Heap) (X : (hd.heap_39 w.params).In h) : ∃ t1 t2 t3 t4 t5, h.IsTuple 212 #[.int 7 t1, .int 11 t2, .int 19 t3, .int 23 t4, .int 31 t5] := by
  have e : ∃ o, (hd.heap_39 w.params).lookup 212 = some o ∧ o.cls = .type "tuple" ∧ ∃ t1 t2 t3 t4 t5 n, o.data = .seq #[.int 7 t1, .int 11 t2, .int 19 t3, .int 23 t4, .int 31 t5] n := ⟨_, by k_is, rfl, _, _, _, _, _, _, rfl⟩
  obtain ⟨o, ho, hc, t1, t2, t3, t4, t5, n, hd⟩ := e
  exact ⟨t1, t2, t3, t4, t5, o, X _ _ ho, hc, n, hd⟩

theorem ev_primes {e : Expr} {np pos : Pos} {k : Int} (hs : Ev w A env Γ e (.fro (.int k))) (h0 : 0 ≤ k) (h1 : k < 5) (hx : env.kindOf "_law_primes" = some .globalImplicit := by rfl) (hsub : SubOk e := by intro _ _ _; with_unfolding_all rfl) :
    Ev w A env Γ (.Subscript (.Name "_law_primes" np) e pos) (.fro (.int (primesL.getD k.toNat 7))) := by
  intro β W s Q E S q
  refine Subscript_ ?_
  refine ev_glob g_primes hx rfl S ?_
  refine hs β W s _ E S fun u s₂ k₂ r₂ => ?_
  obtain ⟨t, rfl⟩ := r₂.int
  obtain ⟨t1, t2, t3, t4, t5, l⟩ := primes_at _ (S.le k₂).gc.X
  obtain ⟨j, rfl⟩ : ∃ j : Nat, k = j := ⟨k.toNat, by omega⟩
  have hj : j < 5 := by omega
  rw [Int.toNat_natCast] at q
  have hi : seqIndex? (j : Int) (5 : Nat) = some j := by
    match j, hj with
    | 0, _ => rfl
    | 1, _ => rfl
    | 2, _ => rfl
    | 3, _ => rfl
    | 4, _ => rfl
  match j, hj with
  | 0, _ => exact item_tupleT l (by omega) (by omega) (j := 0) rfl rfl (q _ s₂ k₂ (RepB.mkInt _ _)) (hsub _ _ _)
  | 1, _ => exact item_tupleT l (by omega) (by omega) (j := 1) rfl rfl (q _ s₂ k₂ (RepB.mkInt _ _)) (hsub _ _ _)
  | 2, _ => exact item_tupleT l (by omega) (by omega) (j := 2) rfl rfl (q _ s₂ k₂ (RepB.mkInt _ _)) (hsub _ _ _)
  | 3, _ => exact item_tupleT l (by omega) (by omega) (j := 3) rfl rfl (q _ s₂ k₂ (RepB.mkInt _ _)) (hsub _ _ _)
  | 4, _ => exact item_tupleT l (by omega) (by omega) (j := 4) rfl rfl (q _ s₂ k₂ (RepB.mkInt _ _)) (hsub _ _ _)

theorem cells_len (ns : List Int) : (cellsOf ns).length = 10 := by
  unfold cellsOf restL
  rw [List.length_append, List.length_drop, List.length_take]
  show min 10 ns.length + (10 - min 10 ns.length) = 10
  omega
theorem ev_cell {e : Expr} {pos : Pos} {b : B} {r : List Int} {k : Int} (he : Ev w A env Γ e b) (hb : b.isL (r.map .int)) {i : Expr} (hi : Ev w A env Γ i (.fro (.int k))) (h0 : 0 ≤ k) (hk : k < r.length) (hz : r.length ≤ 900) (hsub : SubOk i := by intro _ _ _; with_unfolding_all rfl) :
    Ev w A env Γ (.Subscript e i pos) (.fro (.int (r.getD k.toNat 0))) :=
  ev_item he hb hi h0 (by omega) (by
    have : k.toNat < r.length := by omega
    rw [List.getElem?_map, List.getElem?_eq_getElem this, List.getD_eq_getElem?_getD, List.getElem?_eq_getElem this]; rfl) hsub

end
end Mine

/-! ## part M22 -/
namespace Mine
open PySem PySem.W PyProof.Rows PySem.Calls

section
variable {w : World}
theorem evl_i {A : Around} {env : Env} {Γ : Gm} {i : Int} {kk : Nat} {pos : Pos} {es : List Expr} {ds : List B} (h : EvL w A env Γ es ds) : EvL w A env Γ (.Constant (.int i) kk pos :: es) (.fro (.int i) :: ds) := evl_cons li h rfl

def lawEnv (sc : Scope) (L a : Addr) (q : Str) (cd : Value) : Env := newEnv sc L mainGlobals (cellsFrom (L + 1) sc.names []) q (some a) cd none builtinsNs

structure VL (w : World) (A : Around) (env : Env) (Γ : Gm) (es : List Expr) (bs : List B) : Prop where
  go : EvL w A env Γ es bs
structure VN (w : World) (A : Around) (env : Env) (Γ : Gm) (e : Expr) (ds : List D) : Prop where
  go : EvN w A env Γ e ds
theorem vl_nil {A : Around} {env : Env} {Γ : Gm} : VL w A env Γ [] [] := ⟨evl_nil⟩
theorem vl_i {A : Around} {env : Env} {Γ : Gm} {i : Int} {kk : Nat} {pos : Pos} {es : List Expr} {ds : List B} (h : VL w A env Γ es ds) : VL w A env Γ (.Constant (.int i) kk pos :: es) (.fro (.int i) :: ds) := ⟨evl_i h.go⟩
theorem vn_list {A : Around} {env : Env} {Γ : Gm} {es : List Expr} {ds : List D} {pos : Pos} {bs : List B} (h : VL w A env Γ es bs) (e : bs = ds.map B.fro) (hz : ds.length ≤ 1000) : VN w A env Γ (.List es pos) ds := ⟨by subst e; exact evn_list h.go hz⟩
theorem rest_list {A : Around} {env : Env} {Γ : Gm} {p0 p1 p2 p3 p4 p5 p6 p7 p8 p9 pos : Pos} : VN w A env Γ (.List [.Constant (.int 0) 0 p0, .Constant (.int 2) 0 p1, .Constant (.int 1) 0 p2, .Constant (.int 4) 0 p3, .Constant (.int 9) 0 p4, .Constant (.int 2) 0 p5, .Constant (.int 7) 0 p6, .Constant (.int 3) 0 p7, .Constant (.int 5) 0 p8, .Constant (.int 0) 0 p9] pos) (restL.map .int) := by
  refine vn_list (bs := [B.fro (.int 0), B.fro (.int 2), B.fro (.int 1), B.fro (.int 4), B.fro (.int 9), B.fro (.int 2), B.fro (.int 7), B.fro (.int 3), B.fro (.int 5), B.fro (.int 0)]) ?_ (by simp [restL]) (by simp [restL])
  exact vl_i (vl_i (vl_i (vl_i (vl_i (vl_i (vl_i (vl_i (vl_i (vl_i vl_nil)))))))))

theorem c_bd {p : Int} (h : 7 ≤ p) (cells : List Int) : 1 ≤ cOf cells p ∧ cOf cells p < p := by
  unfold cOf
  have h1 := Int.fmod_nonneg_of_pos (cells.getD 1 0) (show 0 < p - 1 by omega)
  have h2 := Int.fmod_lt_of_pos (cells.getD 1 0) (show 0 < p - 1 by omega)
  omega
theorem fz_cons {x y : Str} {b : B} {Γ Γ' : Gm} (hne : (y == x) = false) (h : Γ.get y = some b) (r : ∀ z c, Γ'.get z = some c → z ≠ x ∧ Γ.get z = some c) : ∀ z c, Gm.get ((y, b) :: Γ') z = some c → z ≠ x ∧ Γ.get z = some c := fun z c e => by
  by_cases hz : z = y
  · subst hz
    rw [get_cons_eq] at e
    cases e
    exact ⟨by simpa using hne, h⟩
  · rw [get_cons_ne hz] at e
    exact r z c e
theorem fz_nil {x : Str} {Γ : Gm} : ∀ z c, Gm.get [] z = some c → z ≠ x ∧ Γ.get z = some c := fun z c e => by cases e
theorem least : ∀ (n : Nat) {b : Nat → Bool}, b n = false → ∃ N, b N = false ∧ ∀ i, i < N → b i = true
  | 0, _, h => ⟨0, h, fun i hi => absurd hi (Nat.not_lt_zero _)⟩
  | n + 1, b, h => by
    cases h0 : b 0 with
    | false => exact ⟨0, h0, fun i hi => absurd hi (Nat.not_lt_zero _)⟩
    | true =>
      obtain ⟨N, hN, hb⟩ := least n (b := fun i => b (i + 1)) h
      refine ⟨N + 1, hN, fun i hi => ?_⟩
      cases i with
      | zero => exact h0
      | succ i => exact hb i (by omega)
theorem pigeon2 : ∀ (l m : List (Int × Int)), l.Nodup → (∀ x ∈ l, x ∈ m) → l.length ≤ m.length
  | [], _, _, _ => Nat.zero_le _
  | x :: l, m, nd, h => by
    have hx := h x (.head _)
    have := pigeon2 l (m.erase x) (List.nodup_cons.mp nd).2 fun y hy => (List.mem_erase_of_ne (fun (e : y = x) => (List.nodup_cons.mp nd).1 (e ▸ hy))).mpr (h y (.tail _ hy))
    rw [List.length_erase_of_mem hx] at this
    have hpos : 0 < m.length := List.length_pos_of_mem hx
    simp only [List.length_cons]
    omega
theorem free_place {pts tk : List (Int × Int)} (hn : pts.Nodup) (hl : tk.length < pts.length) {a0 : Nat} (ha : a0 < pts.length) : ∃ N, tk.contains (pts.getD ((a0 + N) % pts.length) (0, 0)) = false ∧ ∀ i, i < N → tk.contains (pts.getD ((a0 + i) % pts.length) (0, 0)) = true := by
  obtain ⟨P, hP, hPn⟩ : ∃ P ∈ pts, P ∉ tk := by
    apply Classical.byContradiction
    intro h
    have := pigeon2 pts tk hn fun x hx => Classical.byContradiction fun hx' => h ⟨x, hx, hx'⟩
    omega
  obtain ⟨j, hj, rfl⟩ := List.mem_iff_getElem.mp hP
  refine least (if a0 ≤ j then j - a0 else j + pts.length - a0) (b := fun i => tk.contains (pts.getD ((a0 + i) % pts.length) (0, 0))) ?_
  have e : (a0 + (if a0 ≤ j then j - a0 else j + pts.length - a0)) % pts.length = j := by
    split
    · rw [show a0 + (j - a0) = j by omega]; exact Nat.mod_eq_of_lt hj
    · rw [show a0 + (j + pts.length - a0) = j + pts.length by omega, Nat.add_mod_right]; exact Nat.mod_eq_of_lt hj
  show tk.contains (pts.getD _ (0, 0)) = false
  rw [e, List.getD_eq_getElem?_getD, List.getElem?_eq_getElem hj]
  cases h : tk.contains ((some pts[j]).getD (0, 0)) with
  | false => rfl
  | true => exact absurd (by simpa using h) hPn
theorem formsOf_get {p sc : Int} : ∀ (tk : List (Int × Int)) (j i : Nat), (formsOf p sc j tk)[i]? = tk[i]?.map (form p (zOf p sc (j + i)))
  | [], _, _ => rfl
  | P :: r, j, 0 => rfl
  | P :: r, j, i + 1 => by
    show (formsOf p sc (j + 1) r)[i]? = r[i]?.map _
    rw [formsOf_get r (j + 1) i, show j + 1 + i = j + (i + 1) by omega]
theorem formsOf_len {p sc : Int} : ∀ (tk : List (Int × Int)) (j : Nat), (formsOf p sc j tk).length = tk.length
  | [], _ => rfl
  | P :: r, j => by
    show (formsOf p sc (j + 1) r).length + 1 = r.length + 1
    rw [formsOf_len r (j + 1)]
theorem formsOf_red {p sc : Int} (h0 : 0 < p) : ∀ (tk : List (Int × Int)) (j : Nat), ∀ t ∈ formsOf p sc j tk, Red p t
  | [], _, t, h => by cases h
  | P :: r, j, t, h => by
    rcases List.mem_cons.mp h with rfl | h
    · exact form_red h0 _ _
    · exact formsOf_red h0 r (j + 1) t h
theorem fold_red {p : Int} (h0 : 0 < p) (b : Bool) : ∀ (l : List Trip) (t : Trip), Red p t → (∀ u ∈ l, Red p u) → Red p (l.foldl (stepT p b) t)
  | [], _, ht, _ => ht
  | u :: l, t, ht, h => fold_red h0 b l _ (stepT_red h0 b ht (h u (.head _))) fun v hv => h v (.tail _ hv)
def fRow (m : Int) : D → Option D
  | .tup [.int x, .int y] => some (rowD (parts x y m))
  | _ => none
theorem fRow_eq (m : Int) : ∀ tk : List (Int × Int), (tk.map dpair).filterMap (fRow m) = (tk.map (rowOf m)).map rowD
  | [] => rfl
  | P :: r => by
    have ih := fRow_eq m r
    rw [List.map_cons, List.filterMap_cons]
    show rowD (parts P.1 P.2 m) :: (r.map dpair).filterMap (fRow m) = _
    rw [ih]; rfl
def fDot : D → Option D
  | .tup [.int a, .int b] => some (.int (a * b))
  | _ => none
theorem fDot_eq : ∀ (l m : List Int), (List.zipWith (fun d e => D.tup [d, e]) (l.map D.int) (m.map D.int)).filterMap fDot = (List.zipWith (fun one two => one * two) l m).map D.int
  | [], m => by simp
  | _ :: _, [] => by simp
  | a :: l, b :: m => by
    have ih := fDot_eq l m
    show (D.tup [.int a, .int b] :: List.zipWith _ (l.map D.int) (m.map D.int)).filterMap fDot = _
    rw [List.filterMap_cons]
    show D.int (a * b) :: List.filterMap fDot _ = _
    rw [ih]; rfl
theorem x_ifb {A : Around} {env : Env} {β : Bs} {W : List Addr} {Γ : Gm} {s : Shared} {rest : List Stmt} {Q : Flow → Shared → Prop} {E : Value → Shared → Prop} {test : Expr} {body orelse : List Stmt} {pos : Pos} {b : Bool} (S : St w β env W Γ s) (ht : EvT w A env Γ test b)
    (h1 : b = true → ∀ s', St w β env W Γ s' → wpAny (M w) A (execs body env) (fun f s'' => match f with | .next => wpAny (M w) A (execs rest env) Q E s'' | f => Q f s'') E s')
    (h2 : b = false → ∀ s', St w β env W Γ s' → wpAny (M w) A (execs orelse env) (fun f s'' => match f with | .next => wpAny (M w) A (execs rest env) Q E s'' | f => Q f s'') E s') :
    wpAny (M w) A (execs (.If test body orelse pos :: rest) env) Q E s := by
  refine x_if S ht fun s' S' => ?_
  cases b
  · rw [if_neg (by decide)]; exact h2 rfl s' S'
  · rw [if_pos rfl]; exact h1 rfl s' S'

abbrev lA (cells : List Int) (p c : Int) (pts : List (Int × Int)) : Gm := [("points", .own (pts.map dpair)), ("c", .fro (.int c)), ("p", .fro (.int p)), ("cells", .own (cells.map .int))]
abbrev lB (cells : List Int) (p : Int) (pts tk : List (Int × Int)) : Gm := [("taken", .own (tk.map dpair)), ("points", .fro (.lst (pts.map dpair))), ("p", .fro (.int p)), ("cells", .own (cells.map .int))]

abbrev lC (cells : List Int) (p : Int) (pts tk : List (Int × Int)) (j : Nat) : Gm := [("at", .fro (natD j)), ("taken", .own (tk.map dpair)), ("points", .fro (.lst (pts.map dpair))), ("p", .fro (.int p)), ("cells", .own (cells.map .int))]
abbrev lD (cells : List Int) (p : Int) (pts tk : List (Int × Int)) (sc : Int) (fs : List Trip) : Gm := [("forms", .own (fs.map (ptT p))), ("scale", .fro (.int sc)), ("taken", .fro (.lst (tk.map dpair))), ("points", .fro (.lst (pts.map dpair))), ("p", .fro (.int p)), ("cells", .own (cells.map .int))]
abbrev lE (cells : List Int) (p : Int) (pts tk : List (Int × Int)) (T : Trip) : Gm := [("total", .fro (ptT p T)), ("taken", .fro (.lst (tk.map dpair))), ("points", .fro (.lst (pts.map dpair))), ("p", .fro (.int p)), ("cells", .own (cells.map .int))]
abbrev lG (cells : List Int) (p : Int) (pts tk : List (Int × Int)) (T : Trip) (fs : List Trip) : Gm := [("forms", .own (fs.map (ptT p))), ("total", .fro (ptT p T)), ("taken", .fro (.lst (tk.map dpair))), ("points", .fro (.lst (pts.map dpair))), ("p", .fro (.int p)), ("cells", .own (cells.map .int))]
abbrev lF (p : Int) (pts tk : List (Int × Int)) (T : Trip) (f : List Int) : Gm := [("f", .fro (.lst (f.map .int))), ("many", .fro (.int ((tk.length : Nat) + 1))), ("total", .fro (ptT p T)), ("taken", .fro (.lst (tk.map dpair))), ("points", .fro (.lst (pts.map dpair))), ("p", .fro (.int p))]

def LawGoal (w : World) (sc : Scope) (body : List Stmt) : Prop :=
    ∀ (A : Around) (q : Str) (L a : Addr) (cd : Value) (β : Bs) (W : List Addr) (s : Shared) (ns : List Int) (Q : Flow → Shared → Prop) (E : Value → Shared → Prop), A.handled = none → A.depth < 900 → A.units < 8000 → ns.length ≤ 63 →
      St w β (lawEnv sc L a q cd) W [("script", .fro (.lst (ns.map .int)))] s →
      (∀ v W' Γ' s', St w β (lawEnv sc L a q cd) W' Γ' s' → v = .bool true → Q (.ret v) s') → wpAny (M w) A (execs body (lawEnv sc L a q cd)) Q E s

set_option maxHeartbeats 8000000 in
theorem law_walk : ∃ (oc : Value) (od : Option Addr) (osl : Array (Option Value)) (fd : FuncData) (body : List Stmt), (hd.heap_39 w.params).lookup 229 = some ⟨oc, od, .func fd, osl⟩ ∧ fd.body = .stmts body ∧ LawGoal w fd.scope body := by
  refine ⟨_, _, _, _, _, by k_is, by with_unfolding_all rfl, ?_⟩
  dsimp only
  intro A q L a cd β W s ns Q E hh hA hu hn S k
  have hns : (ns.map D.int).length ≤ 1000 := by rw [List.length_map]; omega
  refine @x_assignN w A _ _ β W s Q E _ _ _ _ _ (restL.map D.int) S ?h1 ?h2 ?h3 ?h4
  case h4 => rfl
  case h2 => exact .inl rfl
  case h1 => exact @VN.go _ _ _ _ _ _ rest_list
  case h3 =>
  intro a1 s S
  have e1 : (ns.map D.int).take ((10 : Int).toNat) ++ (restL.map D.int).drop ((((ns.map D.int).take ((10 : Int).toNat)).length : Nat) : Int).toNat = (cellsOf ns).map D.int := by
    show (ns.map D.int).take 10 ++ _ = _
    unfold cellsOf
    rw [Int.toNat_natCast, List.map_append, List.map_take, List.map_drop, List.length_take, List.length_map, List.length_take]
    rfl
  have ht10 : ((ns.map D.int).take ((10 : Int).toNat)).length ≤ 1000 := by rw [List.length_take]; omega
  refine x_assignN (ds := (cellsOf ns).map D.int) S ?h5 (.inl rfl) fun a2 s S => ?_
  case h5 =>
    refine evn_eq ?_ e1
    refine evn_add (ev_new (evn_slice nm isL_fro part_none (part_some li) hns (pick_upto (by decide)))) isL_fro (ev_new (evn_slice (ds := restL.map D.int) nm isL_own (part_some (ev_call g_len rfl rfl (.inl ⟨_, rfl⟩) (evl_cons (ev_new (evn_slice nm isL_fro part_none (part_some li) hns (pick_upto (by decide)))) evl_nil) (call_len isL_fro ht10))) part_none (by decide) (pick_from (by omega)))) isL_fro (by
      rw [List.length_drop, List.length_map, List.length_take]
      show _ + (10 - _) ≤ _
      omega)
  replace S := S.sub (Γ' := [("cells", .own ((cellsOf ns).map D.int))]) (sub_cons rfl sub_nil)
  have hlen := cells_len ns
  generalize cellsOf ns = cells at S hlen k
  have hc10 : cells.length ≤ 900 := by omega
  have hm0 := Int.fmod_nonneg_of_pos (cells.getD 0 0) (show (0 : Int) < 5 by decide)
  have hm1 := Int.fmod_lt_of_pos (cells.getD 0 0) (show (0 : Int) < 5 by decide)
  refine x_assign (d := .int (pOf cells)) S (ev_primes (ev_bin (ev_cell nm isL_own li (by decide) (by rw [hlen]; decide) hc10) li (op_mod _ _ (by decide))) hm0 hm1) (.inl rfl) fun s S => ?_
  have hpm := p_mem cells
  have hpb := p_bd hpm
  have hcb := c_bd hpb.1 cells
  have hp1 : pOf cells - 1 ≠ 0 := by omega
  refine x_assign (d := .int (cOf cells (pOf cells))) S (ev_bin li (ev_bin (ev_cell (k := 1) nm isL_own li (by decide) (by rw [hlen]; decide) hc10) (ev_bin nm li (op_sub _ _)) (op_mod _ _ hp1)) (op_add _ _)) (.inl rfl) fun s S => ?_
  generalize pOf cells = p at S hpm hpb hcb hp1
  generalize cOf cells p = c at S hcb
  have hp0 : p ≠ 0 := by omega
  refine x_assignN (ds := []) S (evn_list (ds := []) evl_nil (by decide)) (.inl rfl) fun a3 s S => ?_
  replace S := S.sub (Γ' := lA cells p c (ptsN p c 0)) (sub_cons rfl (sub_cons rfl (sub_cons rfl (sub_cons rfl sub_nil))))
  refine x_for (ds := (List.range p.toNat).map natD) hh S (src_rangeN hh nm (by omega) (by omega) g_range) (fun d => [("x", .fro d)]) (fun i Γ => Γ = lA cells p c (ptsN p c i)) rfl (fun d _ => assign_name (.inl rfl)) ?turn1 ?done1
  case turn1 =>
    intro β' i d W' Γ' s' Q' E' hd hI S k'
    subst hI
    obtain ⟨hi, rfl⟩ := range_get hd
    have hx : 0 ≤ ((i : Nat) : Int) ∧ ((i : Nat) : Int) < p := by omega
    have hxb : -(2 ^ 40) ≤ ((i : Nat) : Int) ∧ ((i : Nat) : Int) ≤ 2 ^ 40 := by omega
    have hpe : 0 ≤ (p + 1).fdiv 4 := Int.fdiv_nonneg (by omega) (by decide)
    have hy := powm_bd (((i : Nat) : Int) ^ 3 + c) ((p + 1).fdiv 4) p (by omega)
    have hyb : -(2 ^ 40) ≤ yOf p c i ∧ yOf p c i ≤ 2 ^ 40 := by unfold yOf; omega
    refine x_assign (d := .int (yOf p c i)) S (ev_call g_pow rfl rfl (.inl ⟨_, rfl⟩) (evl_cons (ev_bin (ev_bin nm li (op_pow3 _ hxb)) nm (op_add _ _)) (evl_cons (ev_bin (ev_bin nm li (op_add _ _)) li (op_fdiv _ _ (by decide) (by decide))) (evl_cons nm evl_nil))) (call_pow3 _ _ _ hpe (by omega))) (.inl rfl) fun s S => ?_
    have hpts : ptsN p c (i + 1) = ptsN p c i ++ ptsAt p c i := rfl
    have hpl : (ptsN p c i).length ≤ 2 * i := ptsN_len p c i
    refine x_ifb S (evt_cmp (ev_bin (ev_bin (ev_bin (ev_bin nm nm (op_mul _ _ hyb)) (ev_bin nm li (op_pow3 _ hxb)) (op_sub _ _)) nm (op_sub _ _)) nm (op_mod _ _ hp0)) li (cmp_eq _ _)) ?yes ?no
    case no =>
      intro hb s S
      refine x_nil ?_
      refine x_nil ?_
      have e : ptsAt p c i = [] := by unfold ptsAt; rw [hb]; rfl
      rw [e, List.append_nil] at hpts
      rw [hpts] at k'
      exact k' _ _ s rfl (S.sub (sub_cons rfl (sub_cons rfl (sub_cons rfl (sub_cons rfl sub_nil)))))
    case yes =>
      intro hb s S
      have ez : ∀ q : Int × Int, (ptsN p c i).map dpair ++ [dpair q] = (ptsN p c i ++ [q]).map dpair := fun q => by rw [List.map_append]; rfl
      refine x_append (d := dpair (((i : Nat) : Int), yOf p c i)) S rfl (.inl rfl) rfl (ev_tuple (ds := [.int (i : Nat), .int (yOf p c i)]) (evl_cons nm (evl_cons nm evl_nil)) (Nat.le_of_ble_eq_true rfl)) (by rw [List.length_map]; omega) fun s S => ?_
      rw [ez] at S
      refine x_ifb S (evt_cmp nm li (cmp_ne _ _)) ?yes2 ?no2
      case no2 =>
        intro hb2 s S
        refine x_nil ?_
        refine x_nil ?_
        refine x_nil ?_
        have e : ptsAt p c i = [(((i : Nat) : Int), yOf p c i)] := by unfold ptsAt; rw [hb, hb2]; rfl
        rw [e] at hpts
        rw [hpts] at k'
        exact k' _ _ s rfl (S.sub (sub_cons rfl (sub_cons rfl (sub_cons rfl (sub_cons rfl sub_nil)))))
      case yes2 =>
        intro hb2 s S
        have ez2 : (ptsN p c i ++ [(((i : Nat) : Int), yOf p c i)]).map dpair ++ [dpair (((i : Nat) : Int), p - yOf p c i)] = (ptsN p c i ++ [(((i : Nat) : Int), yOf p c i), (((i : Nat) : Int), p - yOf p c i)]).map dpair := by simp
        refine x_append (d := dpair (((i : Nat) : Int), p - yOf p c i)) S rfl (.inl rfl) rfl (ev_tuple (ds := [.int (i : Nat), .int (p - yOf p c i)]) (evl_cons nm (evl_cons (ev_bin nm nm (op_sub _ _)) evl_nil)) (Nat.le_of_ble_eq_true rfl)) (by rw [List.length_map, List.length_append]; show _ + 1 ≤ _; omega) fun s S => ?_
        rw [ez2] at S
        refine x_nil ?_
        refine x_nil ?_
        refine x_nil ?_
        have e : ptsAt p c i = [(((i : Nat) : Int), yOf p c i), (((i : Nat) : Int), p - yOf p c i)] := by unfold ptsAt; rw [hb, hb2]; rfl
        rw [e] at hpts
        rw [hpts] at k'
        exact k' _ _ s rfl (S.sub (sub_cons rfl (sub_cons rfl (sub_cons rfl (sub_cons rfl sub_nil)))))
  case done1 =>
  intro W1 Γ1 s1 hI S
  subst hI
  rw [List.length_map, List.length_range] at S
  obtain ⟨hpts0, hptsl, hptsn, hptso⟩ := pts_ok hpm hcb
  change points p c ≠ [] at hpts0
  change St w β _ _ (lA cells p c (points p c)) _ at S
  generalize points p c = pts at S hpts0 hptsl hptsn hptso
  obtain ⟨W2, _, S⟩ := S.freeze (x := "points") (Γ' := [("p", .fro (.int p)), ("cells", .own (cells.map .int))]) rfl (fz_cons rfl rfl (fz_cons rfl rfl fz_nil))
  refine x_assignN (ds := []) S (evn_list (ds := []) evl_nil (by decide)) (.inl rfl) fun a4 s S => ?_
  replace S := S.sub (Γ' := lB cells p pts []) (sub_cons rfl (sub_cons rfl (sub_cons rfl (sub_cons rfl sub_nil))))
  have hk0 := Int.fmod_nonneg_of_pos (cells.getD 2 0) (show (0 : Int) < 5 by decide)
  have hk1 := Int.fmod_lt_of_pos (cells.getD 2 0) (show (0 : Int) < 5 by decide)
  obtain ⟨sel, hsel, hsl⟩ : ∃ sel : List Int, ((cells.map D.int).drop (3 : Int).toNat).take (min (4 + (cells.getD 2 0).fmod 5).toNat (cells.map D.int).length - (3 : Int).toNat) = sel.map D.int ∧ 1 ≤ sel.length ∧ sel.length ≤ 5 := by
    refine ⟨(cells.drop (3 : Int).toNat).take (min (4 + (cells.getD 2 0).fmod 5).toNat (cells.map D.int).length - (3 : Int).toNat), by rw [List.map_take, List.map_drop], ?_⟩
    rw [List.length_take, List.length_drop, List.length_map, hlen]
    show 1 ≤ min (min _ 10 - 3) (10 - 3) ∧ min (min _ 10 - 3) (10 - 3) ≤ 5
    omega
  have hcz : (cells.map D.int).length ≤ 1000 := by rw [List.length_map]; omega
  have hm : 0 < pts.length := List.length_pos_iff.mpr hpts0
  refine x_for (ds := sel.map D.int) hh S (src_eq (src_list hh (ev_new (evn_slice nm isL_own (part_some li) (part_some (ev_bin li (ev_bin (ev_cell (k := 2) nm isL_own li (by decide) (by rw [hlen]; decide) hc10) li (op_mod _ _ (by decide))) (op_add _ _))) hcz (pick_run (by decide) (show (0 : Int) ≤ 4 + (cells.getD 2 0).fmod 5 by omega))))) hsel) (fun d => [("cell", .fro d)])
    (fun i Γ => ∃ tk : List (Int × Int), Γ = lB cells p pts tk ∧ tk.Nodup ∧ (∀ P ∈ tk, P ∈ pts) ∧ tk.length ≤ i ∧ (1 ≤ i → tk ≠ [])) ⟨[], rfl, List.nodup_nil, fun P h => (by cases h), Nat.le_refl _, fun h => (by omega)⟩ (fun d _ => assign_name (.inl rfl)) ?turn2 ?done2
  case turn2 =>
    intro β' i d W' Γ' s' Q' E' hd hI S k'
    obtain ⟨tk, rfl, hnd, hin, hle, hne⟩ := hI
    obtain ⟨cell, rfl⟩ : ∃ cell : Int, d = .int cell := by
      have := List.mem_of_getElem? hd
      obtain ⟨n, _, e⟩ := List.mem_map.mp this
      exact ⟨n, e.symm⟩
    have hi5 : i < 5 := by
      have := (List.getElem?_eq_some_iff.mp hd).1
      rw [List.length_map] at this; omega
    have hpz : (pts.map dpair).length ≤ 1000 := by rw [List.length_map]; omega
    have htz : (tk.map dpair).length ≤ 1000 := by rw [List.length_map]; omega
    refine x_ifb S (evt_cmp (ev_call g_len rfl rfl (.inl ⟨_, rfl⟩) (evl_cons nm evl_nil) (call_len (ds := tk.map dpair) isL_own htz)) (ev_call g_len rfl rfl (.inl ⟨_, rfl⟩) (evl_cons nm evl_nil) (call_len (ds := pts.map dpair) isL_fro hpz)) (cmp_lt _ _)) ?yes ?no
    case no =>
      intro hb s S
      refine x_nil ?_
      refine x_nil ?_
      rw [decide_eq_false_iff_not, List.length_map, List.length_map] at hb
      refine k' _ _ s ⟨tk, rfl, hnd, hin, by omega, fun _ e => ?_⟩ (S.sub (sub_cons rfl (sub_cons rfl (sub_cons rfl (sub_cons rfl sub_nil)))))
      rw [e] at hb
      apply hb
      show ((0 : Nat) : Int) < _
      omega
    case yes =>
      intro hb s S
      rw [decide_eq_true_eq, List.length_map, List.length_map] at hb
      have hbl : tk.length < pts.length := by omega
      obtain ⟨a0, ha0⟩ : ∃ a0 : Nat, cell.fmod ((pts.map dpair).length : Nat) = (a0 : Int) := ⟨(cell.fmod ((pts.map dpair).length : Nat)).toNat, by
        have := Int.fmod_nonneg_of_pos cell (show (0 : Int) < ((pts.map dpair).length : Nat) by rw [List.length_map]; omega)
        omega⟩
      have ha1 : a0 < pts.length := by
        have := Int.fmod_lt_of_pos cell (show (0 : Int) < ((pts.map dpair).length : Nat) by rw [List.length_map]; omega)
        rw [ha0, List.length_map] at this
        omega
      have hmz : (((pts.map dpair).length : Nat) : Int) ≠ 0 := by rw [List.length_map]; omega
      refine x_assign (d := .int (cell.fmod ((pts.map dpair).length : Nat))) S (ev_bin nm (ev_call g_len rfl rfl (.inl ⟨_, rfl⟩) (evl_cons nm evl_nil) (call_len (ds := pts.map dpair) isL_fro hpz)) (op_mod _ _ hmz)) (.inl rfl) fun s S => ?_
      rw [ha0] at S
      have ha2 : (a0 + 0) % pts.length = a0 := Nat.mod_eq_of_lt ha1
      replace S := S.sub (Γ' := lC cells p pts tk ((a0 + 0) % pts.length)) (sub_cons (by rw [ha2]; rfl) (sub_cons rfl (sub_cons rfl (sub_cons rfl (sub_cons rfl sub_nil)))))
      obtain ⟨N, hN, hbN⟩ := free_place hptsn hbl ha1
      have item : ∀ {env : Env} {A : Around} {Γ : Gm} {i : Nat} {e1 e2 : Expr} {pos : Pos}, Ev w A env Γ e1 (.fro (.lst (pts.map dpair))) → Ev w A env Γ e2 (.fro (natD ((a0 + i) % pts.length))) → SubOk e2 → Ev w A env Γ (.Subscript e1 e2 pos) (.fro (dpair (pts.getD ((a0 + i) % pts.length) (0, 0)))) := fun {env A Γ i e1 e2 pos} h1 h2 h3 => by
        have hlt := Nat.mod_lt (a0 + i) hm
        exact @ev_item w A env Γ e1 e2 pos _ (pts.map dpair) (((a0 + i) % pts.length : Nat) : Int) _ h1 isL_fro h2 (by omega) (by omega) (by
          rw [Int.toNat_natCast, List.getElem?_map, List.getElem?_eq_getElem hlt, List.getD_eq_getElem?_getD, List.getElem?_eq_getElem hlt]; rfl) h3
      refine x_while S (fun i Γ => Γ = lC cells p pts tk ((a0 + i) % pts.length)) (fun i => tk.contains (pts.getD ((a0 + i) % pts.length) (0, 0))) N rfl hN hbN (fun i Γ' hI => ?_) ?turn3 ?done3
      · subst hI
        exact evt_cmp (item nm nm (by intro _ _ _; with_unfolding_all rfl)) nm (in_pairs isL_own (by omega))
      case turn3 =>
        intro β2 i2 W2 Γ2 s2 Q2 E2 hi2 hI2 S k2
        subst hI2
        refine x_assign (d := .int ((((a0 + i2) % pts.length : Nat) + 1 : Int).fmod ((pts.map dpair).length : Nat))) S (ev_bin (ev_bin nm li (op_add _ _)) (ev_call g_len rfl rfl (.inl ⟨_, rfl⟩) (evl_cons nm evl_nil) (call_len (ds := pts.map dpair) isL_fro hpz)) (op_mod _ _ hmz)) (.inl rfl) fun s S => ?_
        have e : ((((a0 + i2) % pts.length : Nat) + 1 : Int).fmod ((pts.map dpair).length : Nat)) = (((a0 + (i2 + 1)) % pts.length : Nat) : Int) := by
          rw [List.length_map, Int.fmod_eq_emod_of_nonneg _ (by omega)]
          have : (((a0 + i2) % pts.length : Nat) + 1 : Int) = (((a0 + i2) % pts.length + 1 : Nat) : Int) := rfl
          rw [this, ← Int.natCast_emod, Nat.mod_add_mod]
          rfl
        rw [e] at S
        refine x_nil ?_
        exact k2 _ _ s rfl (S.sub (sub_cons rfl (sub_cons rfl (sub_cons rfl (sub_cons rfl (sub_cons rfl sub_nil))))))
      case done3 =>
        intro W2 Γ2 s2 hI2 S
        subst hI2
        have hlt := Nat.mod_lt (a0 + N) hm
        have hP : pts.getD ((a0 + N) % pts.length) (0, 0) ∈ pts := by
          rw [List.getD_eq_getElem?_getD, List.getElem?_eq_getElem hlt]
          exact List.getElem_mem hlt
        have hPn : pts.getD ((a0 + N) % pts.length) (0, 0) ∉ tk := fun h => by
          have : tk.contains (pts.getD ((a0 + N) % pts.length) (0, 0)) = true := by simpa using h
          rw [hN] at this; cases this
        refine x_append S rfl (.inl rfl) rfl (item nm nm (by intro _ _ _; with_unfolding_all rfl)) htz fun s S => ?_
        refine x_nil ?_
        refine x_nil ?_
        have e : tk.map dpair ++ [dpair (pts.getD ((a0 + N) % pts.length) (0, 0))] = (tk ++ [pts.getD ((a0 + N) % pts.length) (0, 0)]).map dpair := by rw [List.map_append]; rfl
        rw [e] at S
        refine k' _ _ s ⟨tk ++ [pts.getD ((a0 + N) % pts.length) (0, 0)], rfl, ?_, fun P h => ?_, ?_, fun _ e => ?_⟩ (S.sub (sub_cons rfl (sub_cons rfl (sub_cons rfl (sub_cons rfl sub_nil)))))
        · refine List.nodup_append.mpr ⟨hnd, by simp, fun a ha b hb => ?_⟩
          rw [List.mem_singleton.mp hb]
          exact fun e => hPn (e ▸ ha)
        · rcases List.mem_append.mp h with h | h
          · exact hin P h
          · rw [List.mem_singleton.mp h]; exact hP
        · rw [List.length_append, List.length_singleton]; omega
        · simp at e
  case done2 =>
  intro W3 Γ3 s3 hI S
  obtain ⟨tk, rfl, hnd, hin, hle, hne⟩ := hI
  rw [List.length_map] at hle hne
  have tk0 := hne hsl.1
  have tk5 : tk.length ≤ 5 := by omega
  have hon : ∀ P ∈ tk, inR p P ∧ onC p c P := fun P hP => hptso P (hin P hP)
  clear hne hle hsel hsl hk0 hk1
  obtain ⟨W4, _, S⟩ := S.freeze (x := "taken") (Γ' := [("points", .fro (.lst (pts.map dpair))), ("p", .fro (.int p)), ("cells", .own (cells.map .int))]) rfl (fz_cons rfl rfl (fz_cons rfl rfl (fz_cons rfl rfl fz_nil)))
  have hs0 := Int.fmod_nonneg_of_pos (cells.getD 8 0) (show 0 < p - 1 by omega)
  have hs1 := Int.fmod_lt_of_pos (cells.getD 8 0) (show 0 < p - 1 by omega)
  refine x_assign (d := .int (1 + (cells.getD 8 0).fmod (p - 1))) S (ev_bin li (ev_bin (ev_cell (k := 8) nm isL_own li (by decide) (by rw [hlen]; decide) hc10) (ev_bin nm li (op_sub _ _)) (op_mod _ _ hp1)) (op_add _ _)) (.inl rfl) fun s S => ?_
  have hsb : 1 ≤ 1 + (cells.getD 8 0).fmod (p - 1) ∧ 1 + (cells.getD 8 0).fmod (p - 1) < p := by omega
  generalize 1 + (cells.getD 8 0).fmod (p - 1) = sc at S hsb
  clear hs0 hs1
  refine x_assignN (ds := []) S (evn_list (ds := []) evl_nil (by decide)) (.inl rfl) fun a5 s S => ?_
  replace S := S.sub (Γ' := lD cells p pts tk sc ((formsOf p sc 0 tk).take 0)) (sub_cons rfl (sub_cons rfl (sub_cons rfl (sub_cons rfl (sub_cons rfl (sub_cons rfl sub_nil))))))
  have hd970 : A.depth < 970 := by omega
  have hp7 : 0 < p ∧ p ≤ 1000 := by omega
  refine x_for (ds := tk.map dpair) hh S (src_list hh nm) (fun d => match d with | .tup [a, b] => [("y", .fro b), ("x", .fro a)] | _ => []) (fun i Γ => Γ = lD cells p pts tk sc ((formsOf p sc 0 tk).take i)) rfl (fun d hd => ?asg4) ?turn4 ?done4
  case asg4 =>
    obtain ⟨P, _, rfl⟩ := List.mem_map.mp hd
    exact assign_two hh (.inl rfl) (.inl rfl)
  case turn4 =>
    intro β' i d W' Γ' s' Q' E' hd hI S k'
    subst hI
    obtain ⟨P, hP, rfl, hfm, hi⟩ : ∃ P : Int × Int, P ∈ tk ∧ d = dpair P ∧ (formsOf p sc 0 tk)[i]? = some (form p (zOf p sc i) P) ∧ i < tk.length := by
      rw [List.getElem?_map] at hd
      obtain ⟨P, hP, rfl⟩ := Option.map_eq_some_iff.mp hd
      refine ⟨P, List.mem_of_getElem? hP, rfl, ?_, (List.getElem?_eq_some_iff.mp hP).1⟩
      rw [formsOf_get, hP, Nat.zero_add]; rfl
    have hPb := (hon P hP).1
    have hbx : -(2 ^ 40) ≤ P.1 ∧ P.1 ≤ 2 ^ 40 := by obtain ⟨⟨a, b⟩, c, d⟩ := hPb; omega
    have hby : -(2 ^ 40) ≤ P.2 ∧ P.2 ≤ 2 ^ 40 := by obtain ⟨⟨a, b⟩, c, d⟩ := hPb; omega
    have hl4 : (((formsOf p sc 0 tk).take i).map (ptT p)).length = i := by rw [List.length_map, List.length_take, formsOf_len]; omega
    have hz4 : (((formsOf p sc 0 tk).take i).map (ptT p)).length ≤ 1000 := by omega
    have hbs : -(2 ^ 40) ≤ sc ∧ sc ≤ 2 ^ 40 := by omega
    refine x_assign (d := .int (1 + (sc * ((((formsOf p sc 0 tk).take i).map (ptT p)).length : Nat) + sc).fmod (p - 1))) S (ev_bin li (ev_bin (ev_bin (ev_bin nm (ev_call g_len rfl rfl (.inl ⟨_, rfl⟩) (evl_cons nm evl_nil) (call_len (ds := ((formsOf p sc 0 tk).take i).map (ptT p)) isL_own hz4)) (op_mul _ _ hbs)) nm (op_add _ _)) (ev_bin nm li (op_sub _ _)) (op_mod _ _ hp1)) (op_add _ _)) (.inl rfl) fun s S => ?_
    have ez : 1 + (sc * ((((formsOf p sc 0 tk).take i).map (ptT p)).length : Nat) + sc).fmod (p - 1) = zOf p sc i := by rw [hl4]; rfl
    rw [ez] at S
    refine x_append (d := ptT p (form p (zOf p sc i) P)) S rfl (.inl rfl) rfl (ev_tuple (ds := [.fq p ((P.1 * zOf p sc i).fmod p), .fq p ((P.2 * zOf p sc i).fmod p), .fq p ((zOf p sc i).fmod p)])
      (evl_cons (ev_call g_FQ rfl rfl c_FQ (evl_cons (ev_bin nm nm (op_mul _ _ hbx)) (evl_cons nm evl_nil)) (make_fq hp0 hh (by omega)))
        (evl_cons (ev_call g_FQ rfl rfl c_FQ (evl_cons (ev_bin nm nm (op_mul _ _ hby)) (evl_cons nm evl_nil)) (make_fq hp0 hh (by omega)))
          (evl_cons (ev_call g_FQ rfl rfl c_FQ (evl_cons nm (evl_cons nm evl_nil)) (make_fq hp0 hh (by omega))) evl_nil))) (Nat.le_of_ble_eq_true rfl)) hz4 fun s S => ?_
    have ea : ((formsOf p sc 0 tk).take i).map (ptT p) ++ [ptT p (form p (zOf p sc i) P)] = ((formsOf p sc 0 tk).take (i + 1)).map (ptT p) := by
      rw [List.take_add_one, hfm, List.map_append]; rfl
    rw [ea] at S
    refine x_nil ?_
    exact k' _ _ s rfl (S.sub (sub_cons rfl (sub_cons rfl (sub_cons rfl (sub_cons rfl (sub_cons rfl (sub_cons rfl sub_nil)))))))
  case done4 =>
  intro W5 Γ5 s5 hI S
  subst hI
  have hfl : (formsOf p sc 0 tk).length = tk.length := formsOf_len tk 0
  rw [List.length_map, List.take_of_length_le (by omega)] at S
  have hfr : ∀ t ∈ formsOf p sc 0 tk, Red p t := formsOf_red hp7.1 tk 0
  have hfn : formsOf p sc 0 tk ≠ [] := fun e => tk0 (List.length_eq_zero_iff.mp (by rw [← hfl, e]; rfl))
  obtain ⟨plain1, plain2⟩ : _ ∧ _ := plain_law p c sc tk ((cells.getD 9 0).fmod 2 == 0) hpm hcb hsb tk0 tk5 hnd hon
  obtain ⟨b, hb⟩ : ∃ b : Bool, ((cells.getD 9 0).fmod 2 == 0) = b := ⟨_, rfl⟩
  rw [hb] at plain1 plain2
  generalize formsOf p sc 0 tk = fs at S hfl hfr hfn plain1 plain2
  obtain ⟨t0, fr, rfl⟩ : ∃ t0 fr, fs = t0 :: fr := by
    cases fs with
    | nil => exact absurd rfl hfn
    | cons t0 fr => exact ⟨t0, fr, rfl⟩
  have hr0 : Red p t0 := hfr t0 (.head _)
  have hrr : ∀ t ∈ fr, Red p t := fun t h => hfr t (.tail _ h)
  have hfrl : fr.length ≤ 5 := by
    rw [List.length_cons] at hfl; omega
  have hfz : ((t0 :: fr).map (ptT p)).length ≤ 1000 := by rw [List.length_map, List.length_cons]; omega
  refine x_assign (d := ptT p t0) S (ev_item (ds := (t0 :: fr).map (ptT p)) nm isL_own li (by decide) (by decide) rfl) (.inl rfl) fun s S => ?_
  replace S := S.sub (Γ' := lG cells p pts tk ((fr.take 0).foldl (stepT p b) t0) (t0 :: fr)) (sub_cons rfl (sub_cons rfl (sub_cons rfl (sub_cons rfl (sub_cons rfl (sub_cons rfl sub_nil))))))
  refine x_for (ds := fr.map (ptT p)) hh S (src_list hh (ev_new (evn_slice (ds := (t0 :: fr).map (ptT p)) nm isL_own (part_some li) part_none hfz (pick_from (n := 1) (by decide))))) (fun d => [("form", .fro d)]) (fun i Γ => Γ = lG cells p pts tk ((fr.take i).foldl (stepT p b) t0) (t0 :: fr)) rfl (fun d _ => assign_name (.inl rfl)) ?turn5 ?done5
  case turn5 =>
    intro β' i d W' Γ' s' Q' E' hd hI S k'
    subst hI
    rw [List.getElem?_map] at hd
    obtain ⟨f, hf, rfl⟩ := Option.map_eq_some_iff.mp hd
    have hfR := hrr f (List.mem_of_getElem? hf)
    have hT := fold_red hp7.1 b (fr.take i) t0 hr0 fun t h => hrr t (List.mem_of_mem_take h)
    have e : (fr.take (i + 1)).foldl (stepT p b) t0 = stepT p b ((fr.take i).foldl (stepT p b) t0) f := by
      rw [List.take_add_one, hf, List.foldl_append]; rfl
    rw [e] at k'
    generalize (fr.take i).foldl (stepT p b) t0 = T at S hT k'
    refine x_assign (d := ptT p (stepT p b T f)) S (ev_ifexp (c := b) ?tst ?brn) (.inl rfl) fun s S => ?_
    case tst =>
      rw [← hb]
      exact evt_cmp (ev_bin (ev_cell (k := 9) nm isL_own li (by decide) (by rw [hlen]; decide) hc10) li (op_mod _ _ (by decide))) li (cmp_eq _ _)
    case brn =>
      cases b with
      | true =>
        rw [if_pos rfl]
        exact ev_call g_add rfl rfl c_add (evl_cons nm (evl_cons nm evl_nil)) (add_call hp7 hT hfR hh (by omega) (by omega))
      | false =>
        rw [if_neg (by decide)]
        exact ev_call g_add rfl rfl c_add (evl_cons nm (evl_cons nm evl_nil)) (add_call hp7 hfR hT hh (by omega) (by omega))
    refine x_nil ?_
    exact k' _ _ s rfl (S.sub (sub_cons rfl (sub_cons rfl (sub_cons rfl (sub_cons rfl (sub_cons rfl (sub_cons rfl sub_nil)))))))
  case done5 =>
  intro W6 Γ6 s6 hI S
  subst hI
  rw [List.length_map, List.take_length] at S
  have hTr := fold_red hp7.1 b fr t0 hr0 hrr
  have hto : totOf p b (t0 :: fr) = fr.foldl (stepT p b) t0 := rfl
  rw [hto] at plain1 plain2
  generalize fr.foldl (stepT p b) t0 = T at S hTr plain1 plain2
  have htz : (tk.map dpair).length ≤ 1000 := by rw [List.length_map]; omega
  refine x_assign (d := .int (((tk.map dpair).length : Nat) + 1)) S (ev_bin (ev_call g_len rfl rfl (.inl ⟨_, rfl⟩) (evl_cons nm evl_nil) (call_len (ds := tk.map dpair) isL_fro htz)) li (op_add _ _)) (.inr ⟨rfl, rfl⟩) fun s S => ?_
  rw [List.length_map] at S
  have hsh := rows_shape hpb.2 tk5 fun P hP => (hon P hP).1
  have hflen : (fOf p tk).length = tk.length + 1 := by unfold fOf gauss; rw [ansN_len, List.length_map]
  have hfbd : ∀ e ∈ fOf p tk, 0 ≤ e ∧ e < p := by unfold fOf gauss; exact ans_bd (by omega) _
  refine x_assign (d := .lst ((fOf p tk).map .int)) S (ev_call g_through rfl rfl c_through (evl_cons (ev_new (evn_eq (ds := (tk.map dpair).filterMap (fRow ((tk.length : Nat) + 1))) ?hrows (fRow_eq _ _))) (evl_cons nm evl_nil)) (law_through hsh (by omega) (by omega) hh (by omega))) (.inl rfl) fun s S => ?_
  case hrows =>
    refine evn_comp hh (srcC_list hh nm isL_fro) (by rw [List.length_map]; omega) (by with_unfolding_all rfl) (by exact ⟨rfl, trivial⟩) (fun d => match d with | .tup [a, b] => [("y", .fro b), ("x", .fro a)] | _ => []) _ [("many", .fro (.int ((tk.length : Nat) + 1)))]
      (by exact fun C => ⟨rfl, ne_cell rfl, ne_cell rfl, ⟨_, rfl, rfl⟩, trivial⟩) (fun C d hd => ?_) (fun C d hd => ?_)
    · obtain ⟨P, _, rfl⟩ := List.mem_map.mp hd
      exact assignL_two hh rfl rfl
    · obtain ⟨P, hP, rfl⟩ := List.mem_map.mp hd
      obtain ⟨⟨b1, b2⟩, b3, b4⟩ := (hon P hP).1
      exact ⟨_, rfl, ev_call g_parts rfl rfl c_parts (evl_cons nm (evl_cons nm (evl_cons nm evl_nil))) (law_parts hh (by omega) (by omega) (by omega) (by omega))⟩
  replace S := S.sub (Γ' := lF p pts tk T (fOf p tk)) (sub_cons rfl (sub_cons rfl (sub_cons rfl (sub_cons rfl (sub_cons rfl (sub_cons rfl sub_nil))))))
  generalize fOf p tk = f at S plain1 plain2 hflen hfbd
  have hfl0 : (f.map D.int)[(f.map D.int).length - 1]? = some (.int (f.getD (f.length - 1) 0)) := by
    rw [List.length_map, List.getElem?_map, List.getElem?_eq_getElem (show f.length - 1 < f.length by omega), List.getD_eq_getElem?_getD, List.getElem?_eq_getElem (show f.length - 1 < f.length by omega)]; rfl
  refine x_ifb S (evt_cmp (ev_call g_is_inf rfl rfl c_is_inf (evl_cons nm evl_nil) (is_inf_call hp0 hh (by omega) (by omega))) (ev_cmp (ev_item_neg (ds := f.map D.int) nm isL_fro (ev_neg li) hfl0) li (cmp_eq _ _)) (cmp_neb _ _)) ?yes6 ?no6
  case yes6 =>
    intro h
    rw [plain1, bne_self_eq_false] at h; cases h
  case no6 =>
  intro _ s S
  refine x_nil ?_
  refine x_for (ds := pts.map dpair) hh S (src_list hh nm) (fun d => match d with | .tup [a, b] => [("y", .fro b), ("x", .fro a)] | _ => []) (fun i Γ => Γ = lF p pts tk T f) rfl (fun d hd => ?asg7) ?turn7 ?done7
  case asg7 =>
    obtain ⟨P, _, rfl⟩ := List.mem_map.mp hd
    exact assign_two hh (.inl rfl) (.inl rfl)
  case turn7 =>
    intro β' i d W' Γ' s' Q' E' hd hI S k'
    subst hI
    obtain ⟨P, hP, rfl⟩ := List.mem_map.mp (List.mem_of_getElem? hd)
    obtain ⟨hPr, hPo⟩ := hptso P hP
    obtain ⟨⟨b1, b2⟩, b3, b4⟩ := id hPr
    refine x_ifb S (evt_cmp (ev_tuple (ds := [.int P.1, .int P.2]) (evl_cons nm (evl_cons nm evl_nil)) (Nat.le_of_ble_eq_true rfl)) nm (notin_pairs (p := P) (ps := tk) isL_fro (by omega))) ?yes8 ?no8
    case no8 =>
      intro _ s S
      refine x_nil ?_
      refine x_nil ?_
      exact k' _ _ s rfl (S.sub (sub_cons rfl (sub_cons rfl (sub_cons rfl (sub_cons rfl (sub_cons rfl (sub_cons rfl sub_nil)))))))
    case yes8 =>
      intro hb8 s S
      have hPn : P ∉ tk := fun h => by
        have : tk.contains P = true := by simpa using h
        rw [this] at hb8; cases hb8
      have hplen : (parts P.1 P.2 ((tk.length : Nat) + 1)).length ≤ 6 := by
        unfold parts; rw [List.length_take]; exact Nat.le_trans (Nat.min_le_right _ _) (Nat.le_refl 6)
      have hm1 : (0 : Int) ≤ ((tk.length : Nat) : Int) + 1 := by omega
      have hsz : (List.zipWith (fun d e => D.tup [d, e]) (f.map D.int) ((parts P.1 P.2 ((tk.length : Nat) + 1)).map D.int)).length ≤ 1000 := by
        rw [List.length_zipWith, List.length_map, List.length_map]; omega
      refine x_assign (d := .int ((dot f (parts P.1 P.2 ((tk.length : Nat) + 1))).fmod p)) S (ev_bin (ev_call g_sum rfl rfl (.inl ⟨_, rfl⟩) (evl_cons (ev_new (evn_eq (ds := (List.zipWith (fun d e => D.tup [d, e]) (f.map D.int) ((parts P.1 P.2 ((tk.length : Nat) + 1)).map D.int)).filterMap fDot) ?hdot (fDot_eq _ _))) evl_nil) (call_sum hh isL_fro)) nm (op_mod _ _ hp0)) (.inl rfl) fun s S => ?_
      case hdot =>
        refine evn_comp hh (src_zip hh g_zip rfl rfl nm isL_fro (ev_call g_parts rfl rfl c_parts (evl_cons nm (evl_cons nm (evl_cons nm evl_nil))) (law_parts hh (by omega) (by omega) (by omega) hm1)) isL_fro) hsz (by with_unfolding_all rfl) (by exact trivial) (fun d => match d with | .tup [a, b] => [("two", .fro b), ("one", .fro a)] | _ => []) _ []
          (by exact fun C => trivial) (fun C d hd => ?_) (fun C d hd => ?_)
        · obtain ⟨q, hq, e⟩ := List.mem_iff_getElem.mp hd
          rw [List.getElem_zipWith] at e
          subst e
          exact assignL_two hh rfl rfl
        · obtain ⟨q, hq, e⟩ := List.mem_iff_getElem.mp hd
          rw [List.getElem_zipWith, List.getElem_map, List.getElem_map] at e
          subst e
          refine ⟨_, rfl, ev_bin nm nm (op_mul _ _ ?_)⟩
          have := hfbd _ (List.getElem_mem (l := f) (n := q) (by rw [List.length_zipWith, List.length_map, List.length_map] at hq; omega))
          omega
      refine x_ifb S (evt_cmp (ev_call g_is_inf rfl rfl c_is_inf (evl_cons (ev_call g_add rfl rfl c_add (evl_cons nm (evl_cons (ev_tuple (ds := [.fq p (P.1.fmod p), .fq p (P.2.fmod p), .fq p ((1 : Int).fmod p)])
          (evl_cons (ev_call g_FQ rfl rfl c_FQ (evl_cons nm (evl_cons nm evl_nil)) (make_fq hp0 hh (by omega)))
            (evl_cons (ev_call g_FQ rfl rfl c_FQ (evl_cons nm (evl_cons nm evl_nil)) (make_fq hp0 hh (by omega)))
              (evl_cons (ev_call g_FQ rfl rfl c_FQ (evl_cons li (evl_cons nm evl_nil)) (make_fq hp0 hh (by omega))) evl_nil))) (Nat.le_of_ble_eq_true rfl)) evl_nil)) (add_call (u := affT p P) hp7 hTr (affT_red hp7.1 P) hh (by omega) (by omega))) evl_nil) (is_inf_call hp0 hh (by omega) (by omega))) (ev_cmp nm li (cmp_eq _ _)) (cmp_neb _ _)) ?yes9 ?no9
      case yes9 =>
        intro h
        rw [plain2 P hPr hPo hPn, bne_self_eq_false] at h; cases h
      case no9 =>
        intro _ s S
        refine x_nil ?_
        refine x_nil ?_
        refine x_nil ?_
        exact k' _ _ s rfl (S.sub (sub_cons rfl (sub_cons rfl (sub_cons rfl (sub_cons rfl (sub_cons rfl (sub_cons rfl sub_nil)))))))
  case done7 =>
  intro W7 Γ7 s7 hI S
  subst hI
  exact x_ret S ev_true fun v s' S' r => k v _ _ s' S' r.bool
end
end Mine

/-! ## part J0 -/
namespace Mine
open PySem PySem.W PyProof.Rows PySem.Calls
section
variable {w : World}
theorem law_go {sc : Scope} {body : List Stmt} (h : ∃ (oc : Value) (od : Option Addr) (osl : Array (Option Value)) (fd : FuncData), (hd.heap_39 w.params).lookup 229 = some ⟨oc, od, .func fd, osl⟩ ∧ fd.body = .stmts body ∧ fd.scope = sc) : LawGoal w sc body := by
  obtain ⟨oc, od, osl, fd, e1, e2, e3⟩ := h
  obtain ⟨oc', od', osl', fd', body', f1, f2, f3⟩ := law_walk (w := w)
  rw [e1] at f1
  cases f1
  rw [e2] at f2
  cases f2
  subst e3
  exact f3
theorem repl_ints {h : Heap} {U : List Addr} {vs : List Value} {ns : List Int} (hI : IntsAre vs ns) : RepL h U (ns.map .int) vs := by
  induction hI with
  | nil => exact .nil
  | cons n t _ ih => exact .cons (Rep.mkInt n t) ih
theorem gc_of {p : Program} {loose : List Str} {mean : ExcName → Option Value} {mg mb : Str → Option Value} {h : Heap} (X : (hd.heap_39 w.params).In h) (T : Top p loose mean mg mb h) : GC w h := ⟨X, ⟨mg, T.g⟩, ⟨mb, T.b, T.builtins⟩, T.nolimit⟩
theorem st_law {base s : Shared} {L a l : Addr} {m : Str → Option Value} {o : Obj} {cv : Option Value} {sc : Scope} {q : Str} {cd : Value} {ns : List Int} {vs : List Value} (G : GC w base.heap) (F : Fr base.heap L s.heap m) (N : News base.heap L s.heap [(L + 1, o)]) (ho : o.data = .cell cv) (hm : Mv base s)
    (hk : sc.kind = .function) (hc : cellsFrom (L + 1) sc.names [] = [((("many" : Str), L + 1) : Str × Addr)]) (hkd : (lawEnv sc L a q cd).kindOf "script" = some .local) (hms : m "script" = some (.ref l)) (hL : base.heap.IsList l vs.toArray) (hI : IntsAre vs ns) :
    St w ⟨base, s, [L, L + 1], []⟩ (lawEnv sc L a q cd) [L, L + 1] [("script", .fro (.lst (ns.map .int)))] s := by
  have nL : base.heap.get? L = none := Heap.get?_none_of_le F.above
  have n1 := (N (L + 1, o) (.head _)).2.2
  have x1 := (N (L + 1, o) (.head _)).1
  have nW : ∀ u ∈ [L, L + 1], base.heap.get? u = none := fun u hu => by
    rcases List.mem_cons.mp hu with rfl | hu
    · exact nL
    · rw [List.mem_singleton.mp hu]; exact n1
  have xW : ∀ u ∈ [L, L + 1], ∃ o, s.heap.get? u = some o := fun u hu => by
    rcases List.mem_cons.mp hu with rfl | hu
    · obtain ⟨o, _, _, e, _⟩ := F.ns; exact ⟨o, e⟩
    · rw [List.mem_singleton.mp hu]; exact ⟨_, x1⟩
  have cl : ∀ n c, (lawEnv sc L a q cd).cells.lookup n = some c → n = "many" ∧ c = L + 1 := fun n c e => by
    have e : (cellsFrom (L + 1) sc.names []).lookup n = some c := e
    rw [hc, List.lookup_cons] at e
    cases hb : n == ("many" : Str) with
    | true => rw [hb] at e; cases e; exact ⟨beq_iff_eq.mp hb, rfl⟩
    | false => rw [hb] at e; cases e
  have own : ∀ x ds, Gm.get [(("script" : Str), B.fro (.lst (ns.map .int)))] x ≠ some (.own ds) := fun x ds e => by
    by_cases hx : x = "script"
    · subst hx; rw [get_cons_eq] at e; cases e
    · rw [get_cons_ne hx] at e; cases e
  refine ⟨G, hk, rfl, rfl, Keeps.of hm F.keep, Mv.refl _, fun _ _ _ e => e, nW, fun u m => .inl m, fun u m => xW u (by rw [List.append_nil] at m; exact m), fun u m h => (by cases h), xW, .head _, fun n c e => ?_, fun n n' c e e' => ?_, ⟨m, F.ns⟩, fun n c e => ?_, ⟨fun x b e => ?_, fun x y ds es a' hne e1 => absurd e1 (own _ _)⟩⟩
  · rw [(cl n c e).2]; exact .tail _ (.head _)
  · rw [(cl n c e).1, (cl n' c e').1]
  · rw [(cl n c e).2]; exact ⟨cv, o, x1, ho⟩
  · by_cases hx : x = "script"
    · subst hx
      rw [get_cons_eq] at e
      cases e
      refine ⟨.ref l, (look_local F.ns hkd).trans hms, ?_⟩
      obtain ⟨ol, hol, r⟩ := hL
      have hlW : l ∉ [L, L + 1] ++ [] := fun h => by
        rw [List.append_nil] at h
        have := nW l h
        rw [hol] at this; cases this
      exact Rep.b (Rep.mkLst hlW ⟨ol, F.keep _ _ hol, r⟩ (repl_ints hI))
    · rw [get_cons_ne hx] at e; cases e
theorem law_end {p : Program} {loose : List Str} {mean : ExcName → Option Value} {mg mb : Str → Option Value} {base : Shared} {h₁ : Heap} {tk₁ : Nat} {L a l : Addr} {m : Str → Option Value} {o : Obj} {cv : Option Value} {sc : Scope} {body : List Stmt} {q : Str} {cd : Value} {ns : List Int} {vs : List Value} {A : Around} {Q : Flow → Shared → Prop} {E : Value → Shared → Prop}
    (LG : LawGoal w sc body) (X : (hd.heap_39 w.params).In base.heap) (T : Top p loose mean mg mb base.heap) (F : Fr base.heap L h₁ m) (N : News base.heap L h₁ [(L + 1, o)]) (ho : o.data = .cell cv)
    (hk : sc.kind = .function) (hc : cellsFrom (L + 1) sc.names [] = [((("many" : Str), L + 1) : Str × Addr)]) (hkd : (lawEnv sc L a q cd).kindOf "script" = some .local) (hms : m "script" = some (.ref l)) (hL : base.heap.IsList l vs.toArray) (hI : IntsAre vs ns) (hn : ns.length ≤ 63)
    (hh : A.handled = none) (hd : A.depth < 900) (hu : A.units < 8000) (hQ : ∀ s', Keeps base s' → Q (.ret (.bool true)) s') : wpAny (M w) A (execs body (lawEnv sc L a q cd)) Q E { base with heap := h₁, toks := tk₁ } := by
  refine LG A q L a cd ⟨base, { base with heap := h₁, toks := tk₁ }, [L, L + 1], []⟩ [L, L + 1] { base with heap := h₁, toks := tk₁ } ns Q E hh hd hu hn (st_law (gc_of X T) F N ho ⟨h₁, tk₁, rfl⟩ hk hc hkd hms hL hI) fun v W' Γ' s' S' e => ?_
  subst e
  exact hQ s' S'.kp
end
end Mine

open PySem PySem.W PyProof.Rows PySem.Calls
theorem PySem.Challenge.cw_bb0058_01_holds : PySem.Challenge.rw_bb0058_01.Holds :=
  hd (by
  k_go0
  all_goals try k_fold
  rename_i w s0 s1 mg mb G Y fa o pm doc ho hg KX X V GL T B TE TW w10 w9 BM w8 w7 hcd ns hs hlay0 hLay hr1 hl2 w5 w4 l vs w1 hL ra wl r0 hI hr hcond1 hcond K0 hD h1 tk1 F oc hoc N0 X0
  refine @Mine.law_end w _ _ _ mg mb s1 h1 tk1 _ fa l _ _ _ _ _ _ _ ns vs _ _ _ ?LG KX T F N0 hoc ?hk ?hc ?hkd ?hms hL hI ?hn ?hh ?hd ?hu ?hQ
  case hh => rfl
  case hd => exact Nat.le_of_ble_eq_true rfl
  case hu => exact Nat.le_of_ble_eq_true rfl
  case hn => omega
  case hk => rfl
  case hkd => rfl
  case hc => rfl
  case hms => rfl
  case LG => exact @Mine.law_go w _ _ ⟨_, _, _, _, by k_is, by with_unfolding_all rfl, by with_unfolding_all rfl⟩
  case hQ =>
    rintro s' ⟨h2, tk2, rfl, hk2⟩
    refine ⟨.inl ⟨.bool true, .bool true, [], rfl, fun cls => rfl, .bool true, ?_, fun _ => ⟨List.nodup_nil, fun a ha => by cases ha⟩⟩, hk2, rfl, hg⟩
    first | kc_post | wrow_post | exact postW_of (X := true) rfl rfl rfl)
