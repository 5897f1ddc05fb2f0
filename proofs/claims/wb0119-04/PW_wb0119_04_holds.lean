import PyProof.Rows.All
import Wide.All
import OpenK.AllK
import Wide.FinOn
import Lean
import PySem.Challenge.RW_wb0119_04
open PySem PySem.W PyProof.Rows
set_option Elab.async false
set_option linter.all false
set_option genInjectivity false

namespace Mine
section
set_option maxRecDepth 100000 in
set_option maxHeartbeats 8000000 in
set_option synthInstance.maxSize 1 in
open_top hd for PySem.Challenge.rw_wb0119_04

end
end Mine
namespace Mine
section
open PySem.Calls

/-- pure values -/
inductive PV where
  | int (i : Int) | bool (b : Bool) | none | str (s : Str) | fn (a : Addr) | lst (xs : List PV) | tup (xs : List PV)
  deriving Inhabited

mutual
/-- the value v stands for the pure value in the heap h; no list or tuple under it lies at an address of X -/
noncomputable def Rep (h : Heap) (X : List Addr) : PV → Value → Prop
  | .int i, v => ∃ t, v = .int i t
  | .bool b, v => v = .bool b
  | .none, v => v = .none
  | .str s, v => ∃ t, v = .str s t
  | .fn a, v => v = .ref a
  | .lst xs, v => ∃ a vs, v = .ref a ∧ a ∉ X ∧ h.IsList a vs.toArray ∧ RepL h X xs vs
  | .tup xs, v => ∃ a vs, v = .ref a ∧ a ∉ X ∧ h.IsTuple a vs.toArray ∧ RepL h X xs vs
noncomputable def RepL (h : Heap) (X : List Addr) : List PV → List Value → Prop
  | [], vs => vs = []
  | x :: xs, vs => ∃ v r, vs = v :: r ∧ Rep h X x v ∧ RepL h X xs r
end

/-- a list or a tuple -/
noncomputable def IsSq (o : Obj) : Prop := (o.cls = .type "list" ∨ o.cls = .type "tuple") ∧ ∃ xs n, o.data = .seq xs n
/-- lists and tuples off X stay -/
noncomputable def Kp (X : List Addr) (h h' : Heap) : Prop := ∀ a o, a ∉ X → IsSq o → h.get? a = some o → h'.get? a = some o

/-- no dict -/
noncomputable def NoD (o : Obj) : Prop := ∀ es ep, o.data ≠ .dict es ep
theorem IsSq.noD {o : Obj} (h : IsSq o) : NoD o := let ⟨_, _, _, e⟩ := h; fun _ _ q => by rw [e] at q; cases q
/-- off W all stays, but a dict's slots may change -/
noncomputable def Ext (W : List Addr) (h h' : Heap) : Prop := ∀ b o, b ∉ W → h.get? b = some o → ∃ sl, h'.get? b = some { o with slots := sl } ∧ (NoD o → sl = o.slots)
theorem Ext.at {W : List Addr} {h h' : Heap} (x : Ext W h h') {b : Addr} {o : Obj} (hb : b ∉ W) (e : h.get? b = some o) (hc : NoD o) : h'.get? b = some o := by
  obtain ⟨sl, e1, e2⟩ := x b o hb e
  rw [e2 hc] at e1; exact e1
theorem Ext.refl (W : List Addr) (h : Heap) : Ext W h h := fun _ o _ e => ⟨o.slots, e, fun _ => rfl⟩
theorem Ext.trans {W : List Addr} {h₁ h₂ h₃ : Heap} (x : Ext W h₁ h₂) (y : Ext W h₂ h₃) : Ext W h₁ h₃ := fun b o hb e => by
  obtain ⟨sl, e1, e2⟩ := x b o hb e
  obtain ⟨sl2, e3, e4⟩ := y b _ hb e1
  exact ⟨sl2, e3, fun hc => (e4 hc).trans (e2 hc)⟩
theorem Ext.of_keep {W : List Addr} {h h' : Heap} (k : ∀ b o, h.get? b = some o → h'.get? b = some o) : Ext W h h' := fun b o _ e => ⟨o.slots, k b o e, fun _ => rfl⟩
theorem Ext.of_but {W : List Addr} {h h' : Heap} (k : ∀ b o, b ∉ W → h.get? b = some o → h'.get? b = some o) : Ext W h h' := fun b o hb e => ⟨o.slots, k b o hb e, fun _ => rfl⟩
theorem Ext.push (W : List Addr) (h : Heap) (o : Obj) : Ext W h (h.push o) := .of_keep fun _ _ e => Heap.get?_push_of_some _ e
theorem Ext.data {W : List Addr} {h h' : Heap} (x : Ext W h h') {b : Addr} {o : Obj} (hb : b ∉ W) (e : h.get? b = some o) : ∃ o', h'.get? b = some o' ∧ o'.data = o.data := let ⟨_, e1, _⟩ := x b o hb e; ⟨_, e1, rfl⟩
theorem Ext.some {W : List Addr} {h h' : Heap} (x : Ext W h h') (a : Addr) (ha : a ∉ W) (e : ∃ o, h.get? a = some o) : ∃ o, h'.get? a = some o := let ⟨o, e⟩ := e; let ⟨_, e1, _⟩ := x a o ha e; ⟨_, e1⟩

theorem Ext.ns {W : List Addr} {h h' : Heap} (x : Ext W h h') {a : Addr} (ha : a ∉ W) {m : Str → Option Value} (n : h.Ns a m) : h'.Ns a m := by
  obtain ⟨o, es, ep, ho, hd, r⟩ := n
  obtain ⟨sl, e1, _⟩ := x _ _ ha ho
  exact ⟨_, es, ep, e1, hd, r⟩
theorem Ext.cell {W : List Addr} {h h' : Heap} (x : Ext W h h') {a : Addr} (ha : a ∉ W) {m : Option Value} (n : h.IsCell a m) : h'.IsCell a m := by
  obtain ⟨o, ho, r⟩ := n
  obtain ⟨sl, e1, _⟩ := x _ _ ha ho
  exact ⟨_, e1, r⟩
/-- off W all stays, to the slot -/
noncomputable def Exa (W : List Addr) (h h' : Heap) : Prop := ∀ b o, b ∉ W → h.get? b = some o → h'.get? b = some o
theorem Exa.some {W : List Addr} {h h' : Heap} (x : Exa W h h') (a : Addr) (ha : a ∉ W) (e : ∃ o, h.get? a = some o) : ∃ o, h'.get? a = some o := let ⟨o, e⟩ := e; ⟨o, x a o ha e⟩

theorem Kp.trans {X : List Addr} {h₁ h₂ h₃ : Heap} (x : Kp X h₁ h₂) (y : Kp X h₂ h₃) : Kp X h₁ h₃ := fun a o ha hc e => y a o ha hc (x a o ha hc e)

mutual
theorem Rep.keep {X : List Addr} {h h' : Heap} (k : Kp X h h') : ∀ {x : PV} {v : Value}, Rep h X x v → Rep h' X x v
  | .int _, _, r => r
  | .bool _, _, r => r
  | .none, _, r => r
  | .str _, _, r => r
  | .fn _, _, r => r
  | .lst _, _, r => by
    obtain ⟨a, vs, e, ha, ⟨o, ho, hc, n, hd⟩, hr⟩ := r
    exact ⟨a, vs, e, ha, ⟨o, k a o ha ⟨.inl hc, _, n, hd⟩ ho, hc, n, hd⟩, RepL.keep k hr⟩
  | .tup _, _, r => by
    obtain ⟨a, vs, e, ha, ⟨o, ho, hc, n, hd⟩, hr⟩ := r
    exact ⟨a, vs, e, ha, ⟨o, k a o ha ⟨.inr hc, _, n, hd⟩ ho, hc, n, hd⟩, RepL.keep k hr⟩
theorem RepL.keep {X : List Addr} {h h' : Heap} (k : Kp X h h') : ∀ {xs : List PV} {vs : List Value}, RepL h X xs vs → RepL h' X xs vs
  | [], _, r => r
  | _ :: _, _, r => by
    obtain ⟨v, q, e, h1, h2⟩ := r
    exact ⟨v, q, e, Rep.keep k h1, RepL.keep k h2⟩
end
mutual
/-- the set to be avoided may be exchanged for one whose addresses are in it or not yet taken -/
theorem Rep.avoid {X X' : List Addr} {h : Heap} (k : ∀ a ∈ X', a ∈ X ∨ h.get? a = none) : ∀ {x : PV} {v : Value}, Rep h X x v → Rep h X' x v
  | .int _, _, r => r
  | .bool _, _, r => r
  | .none, _, r => r
  | .str _, _, r => r
  | .fn _, _, r => r
  | .lst _, _, r => by
    obtain ⟨a, vs, e, ha, ⟨o, ho, hc, hn⟩, hr⟩ := r
    refine ⟨a, vs, e, fun q => (k a q).elim ha fun z => ?_, ⟨o, ho, hc, hn⟩, RepL.avoid k hr⟩
    rw [z] at ho; cases ho
  | .tup _, _, r => by
    obtain ⟨a, vs, e, ha, ⟨o, ho, hc, hn⟩, hr⟩ := r
    refine ⟨a, vs, e, fun q => (k a q).elim ha fun z => ?_, ⟨o, ho, hc, hn⟩, RepL.avoid k hr⟩
    rw [z] at ho; cases ho
theorem RepL.avoid {X X' : List Addr} {h : Heap} (k : ∀ a ∈ X', a ∈ X ∨ h.get? a = none) : ∀ {xs : List PV} {vs : List Value}, RepL h X xs vs → RepL h X' xs vs
  | [], _, r => r
  | _ :: _, _, r => by
    obtain ⟨v, q, e, h1, h2⟩ := r
    exact ⟨v, q, e, Rep.avoid k h1, RepL.avoid k h2⟩
end
theorem Rep.sub {X X' : List Addr} {h : Heap} {x : PV} {v : Value} (r : Rep h X x v) (k : ∀ a ∈ X', a ∈ X) : Rep h X' x v := r.avoid fun a ha => .inl (k a ha)

theorem Rep.grow {W X : List Addr} {h : Heap} {x : PV} {v : Value} (r : Rep h X x v) (k : ∀ a ∈ W, h.get? a = none) : Rep h (W ++ X) x v :=
  r.avoid fun a ha => (List.mem_append.mp ha).elim (fun q => .inr (k a q)) .inl
theorem RepL.grow {W X : List Addr} {h : Heap} {x : List PV} {v : List Value} (r : RepL h X x v) (k : ∀ a ∈ W, h.get? a = none) : RepL h (W ++ X) x v :=
  r.avoid fun a ha => (List.mem_append.mp ha).elim (fun q => .inr (k a q)) .inl

section
variable {h : Heap} {X : List Addr}
theorem RepL.length : ∀ {xs : List PV} {vs : List Value}, RepL h X xs vs → vs.length = xs.length
  | [], _, r => by cases r; rfl
  | _ :: xs, _, r => by
    obtain ⟨v, q, rfl, _, h2⟩ := r
    rw [List.length_cons, List.length_cons, RepL.length h2]
theorem RepL.get : ∀ {xs : List PV} {vs : List Value} {i : Nat} {x : PV}, RepL h X xs vs → xs[i]? = some x → ∃ v, vs[i]? = some v ∧ Rep h X x v
  | [], _, _, _, _, e => by cases e
  | y :: xs, _, 0, x, r, e => by
    obtain ⟨v, q, rfl, h1, h2⟩ := r
    cases e
    exact ⟨v, rfl, h1⟩
  | y :: xs, _, i + 1, x, r, e => by
    obtain ⟨v, q, rfl, h1, h2⟩ := r
    have e' : xs[i]? = some x := by simpa using e
    obtain ⟨u, e2, e3⟩ := RepL.get h2 e'
    exact ⟨u, by simpa using e2, e3⟩
theorem RepL.get' : ∀ {xs : List PV} {vs : List Value} {i : Nat} {v : Value}, RepL h X xs vs → vs[i]? = some v → ∃ x, xs[i]? = some x ∧ Rep h X x v
  | [], _, _, _, r, e => by cases r; cases e
  | y :: xs, _, 0, x, r, e => by
    obtain ⟨v, q, rfl, h1, h2⟩ := r
    cases e
    exact ⟨y, rfl, h1⟩
  | y :: xs, _, i + 1, v, r, e => by
    obtain ⟨u, q, rfl, h1, h2⟩ := r
    have e' : q[i]? = some v := by simpa using e
    obtain ⟨x, e2, e3⟩ := RepL.get' h2 e'
    exact ⟨x, by simpa using e2, e3⟩
theorem RepL.append : ∀ {xs ys : List PV} {vs us : List Value}, RepL h X xs vs → RepL h X ys us → RepL h X (xs ++ ys) (vs ++ us)
  | [], _, _, _, r, r' => by cases r; exact r'
  | _ :: _, _, _, _, r, r' => by
    obtain ⟨v, q, rfl, h1, h2⟩ := r
    exact ⟨v, q ++ _, rfl, h1, RepL.append h2 r'⟩
theorem RepL.reverse : ∀ {xs : List PV} {vs : List Value}, RepL h X xs vs → RepL h X xs.reverse vs.reverse
  | [], _, r => by cases r; simp [RepL]
  | _ :: _, _, r => by
    obtain ⟨v, q, rfl, h1, h2⟩ := r
    simp only [List.reverse_cons]
    exact (RepL.reverse h2).append ⟨v, [], rfl, h1, rfl⟩
theorem RepL.set : ∀ {xs : List PV} {vs : List Value} (i : Nat) {x : PV} {v : Value}, RepL h X xs vs → Rep h X x v → RepL h X (xs.set i x) (vs.set i v)
  | [], _, _, _, _, r, _ => by cases r; simp [RepL]
  | _ :: _, _, 0, x, v, r, hx => by
    obtain ⟨u, q, rfl, h1, h2⟩ := r
    exact ⟨v, q, rfl, hx, h2⟩
  | _ :: _, _, i + 1, x, v, r, hx => by
    obtain ⟨u, q, rfl, h1, h2⟩ := r
    exact ⟨u, q.set i v, rfl, h1, RepL.set i h2 hx⟩
theorem RepL.snoc {xs : List PV} {vs : List Value} {x : PV} {v : Value} (r : RepL h X xs vs) (hx : Rep h X x v) : RepL h X (xs ++ [x]) (vs ++ [v]) :=
  r.append ⟨v, [], rfl, hx, rfl⟩
theorem RepL.replicate {x : PV} {v : Value} (hx : Rep h X x v) : ∀ n, RepL h X (List.replicate n x) (List.replicate n v)
  | 0 => rfl
  | n + 1 => ⟨v, _, rfl, hx, RepL.replicate hx n⟩
end

/-- ints -/
noncomputable abbrev zs (l : List Int) : List PV := l.map .int
theorem RepL.ints {h : Heap} {X : List Addr} {l : List Int} {vs : List Value} (r : RepL h X (zs l) vs) : IntsAre vs l := by
  induction l generalizing vs with
  | nil => cases r; exact .nil
  | cons i l ih =>
    obtain ⟨v, q, rfl, ⟨t, rfl⟩, h2⟩ := r
    exact .cons _ _ (ih h2)
theorem RepL.of_ints {h : Heap} {X : List Addr} {l : List Int} {vs : List Value} (r : IntsAre vs l) : RepL h X (zs l) vs := by
  induction r with
  | nil => rfl
  | cons _ _ _ ih => exact ⟨_, _, rfl, ⟨_, rfl⟩, ih⟩

end
end Mine
namespace Mine
section
open PySem.Calls

/-- a def that makes a def: its code object, the code object's table, the inner def's row and column, the inner def's full name -/
structure Tab where
  c : Addr
  P : Addr
  line : Nat
  col : Nat
  qual : Str

/-- what stays the same throughout the law's call -/
structure Cx where
  prog : Program
  w : World
  K : Frag
  p : Program
  loose : List Str
  mean : ExcName → Option Value
  mg : Str → Option Value
  mb : Str → Option Value
  tabs : List Tab
  base : Heap
  rb : Heap
noncomputable def Cx.Ps (C : Cx) : List Addr := C.tabs.map (·.P)
noncomputable abbrev Cx.M (C : Cx) : Model := model C.prog C.w

noncomputable def TabAt (Ps : List Addr) (h : Heap) (t : Tab) : Prop :=
  ∃ ps, h.get? t.P = some (tabObj ps) ∧ (ps = #[] ∨ ∃ c', ps = #[rawInt t.line, rawInt t.col, .ref c'] ∧ c' ∉ Ps ∧ h.CodeRec (.ref c') t.qual)
/-- the tables, and the ground -/
structure TabsOk (C : Cx) (h : Heap) : Prop where
  tabs : ∀ t ∈ C.tabs, TabAt C.Ps h t
  base : C.base.StaysIn h

theorem TabAt.keeps {Ps : List Addr} {h h' : Heap} {t : Tab} (x : TabAt Ps h t) (k : ∀ b o, h.get? b = some o → h'.get? b = some o) : TabAt Ps h' t := by
  obtain ⟨ps, h1, h2⟩ := x
  exact ⟨ps, k _ _ h1, h2.imp id fun ⟨c', e, n, r⟩ => ⟨c', e, n, r.keeps k⟩⟩
theorem TabAt.but {Ps : List Addr} {h h' : Heap} {t : Tab} {a : Addr} {oa : Obj} (x : TabAt Ps h t) (k : ∀ b o, b ≠ a → h.get? b = some o → h'.get? b = some o) (ha : h.get? a = some oa)
    (hn : ∀ vs, oa.data ≠ .fields vs) : TabAt Ps h' t := by
  obtain ⟨ps, h1, h2⟩ := x
  refine ⟨ps, k _ _ (fun q => ?_) h1, h2.imp id fun ⟨c', e, n, r⟩ => ⟨c', e, n, r.keepsBut k ha hn⟩⟩
  rw [q, ha] at h1; cases h1; exact hn _ rfl
theorem TabsOk.keeps {C : Cx} {h h' : Heap} (x : TabsOk C h) (k : ∀ b o, h.get? b = some o → h'.get? b = some o) : TabsOk C h' := ⟨fun t ht => (x.tabs t ht).keeps k, fun b o e => k b o (x.base b o e)⟩
theorem TabsOk.but {C : Cx} {h h' : Heap} {a : Addr} {oa : Obj} (x : TabsOk C h) (k : ∀ b o, b ≠ a → h.get? b = some o → h'.get? b = some o) (ha : h.get? a = some oa)
    (hn : ∀ vs, oa.data ≠ .fields vs) (h0 : C.base.get? a = none) : TabsOk C h' := ⟨fun t ht => (x.tabs t ht).but k ha hn, fun b o e => k b o (fun q => by rw [q, h0] at e; cases e) (x.base b o e)⟩
theorem TabsOk.push {C : Cx} {h : Heap} (x : TabsOk C h) (o : Obj) : TabsOk C (h.push o) := x.keeps fun _ _ e => Heap.get?_push_of_some _ e
/-- an address of a table holds a record of no class -/
theorem TabsOk.obj {C : Cx} {h : Heap} (x : TabsOk C h) {a : Addr} (ha : a ∈ C.Ps) : ∃ ps, h.get? a = some (tabObj ps) := by
  obtain ⟨t, ht, rfl⟩ := List.mem_map.mp ha
  obtain ⟨ps, h1, _⟩ := x.tabs t ht
  exact ⟨ps, h1⟩
theorem TabsOk.notP {C : Cx} {h : Heap} (x : TabsOk C h) {a : Addr} {o : Obj} (e : h.get? a = some o) (hc : o.cls ≠ .none) : a ∉ C.Ps := fun q => by
  obtain ⟨ps, h1⟩ := x.obj q
  rw [e] at h1; cases h1; exact hc rfl
theorem TabsOk.notPd {C : Cx} {h : Heap} (x : TabsOk C h) {a : Addr} {o : Obj} (e : h.get? a = some o) (hc : ∀ vs, o.data ≠ .fields vs) : a ∉ C.Ps := fun q => by
  obtain ⟨ps, h1⟩ := x.obj q
  rw [e] at h1; cases h1; exact hc _ rfl
theorem kp_of_ext {C : Cx} {X : List Addr} {h h' : Heap} (t : TabsOk C h) (x : Ext C.Ps h h') : Kp X h h' := fun a o _ hc e => x.at (t.notP e (by rcases hc.1 with q | q <;> rw [q] <;> nofun)) e hc.noD
theorem Rep.ext {C : Cx} {X : List Addr} {h h' : Heap} {x : PV} {v : Value} (r : Rep h X x v) (t : TabsOk C h) (k : Ext C.Ps h h') : Rep h' X x v := r.keep (kp_of_ext t k)
theorem RepL.ext {C : Cx} {X : List Addr} {h h' : Heap} {x : List PV} {v : List Value} (r : RepL h X x v) (t : TabsOk C h) (k : Ext C.Ps h h') : RepL h' X x v := r.keep (kp_of_ext t k)

/-- the frames, each with its dict -/
noncomputable def FF (rb h : Heap) (l : List Env) : Prop := ∀ env ∈ l, env.scope.kind ≠ .module ∧ ∃ L m, env.frame = some L ∧ rb.get? L = none ∧ h.Ns L m
/-- an activation: its own frame e₀ over the ground h₀, at the heap h -/
structure Act (C : Cx) (A : Around) (e₀ : Env) (h₀ h : Heap) : Prop where
  hh : A.handled = none
  bel : ∃ outer, A.frames = some (e₀ :: outer) ∧ FF C.rb h (e₀ :: outer)
  rbs : C.rb.objs.size ≤ e₀.locals
  frame : e₀.frame = some e₀.locals
  kind : e₀.scope.kind = .function
  fr : ∃ m, Fr h₀ e₀.locals h m
  kin : C.K.In h₀
  top : Top C.p C.loose C.mean C.mg C.mb h₀
  tab : TabsOk C h
  tab0 : ∀ t ∈ C.tabs, h₀.get? t.P = none ∧ t.P ≠ e₀.locals
  code : ∀ t ∈ C.tabs, CodeHd h₀ t.c t.P
  h0 : h₀ = C.base

section
variable {C : Cx} {A : Around} {e₀ : Env} {h₀ h h' : Heap}
theorem Act.ground (a : Act C A e₀ h₀ h) {b : Addr} (hb : b ∈ C.Ps) : h₀.get? b = none ∧ b ≠ e₀.locals := by
  obtain ⟨t, ht, rfl⟩ := List.mem_map.mp hb
  exact a.tab0 t ht
theorem FF.of {rb h h' : Heap} (k : ∀ L m, h.Ns L m → ∃ m', h'.Ns L m') {l : List Env} (x : FF rb h l) : FF rb h' l := fun env he => let ⟨h1, L, m, h2, h3, h4⟩ := x env he; let ⟨m', h5⟩ := k L m h4; ⟨h1, L, m', h2, h3, h5⟩
theorem FF.cons {rb h : Heap} {env : Env} {l : List Env} {L : Addr} {m : Str → Option Value} (h1 : env.scope.kind ≠ .module) (h2 : env.frame = some L) (h3 : h.Ns L m) (h4 : rb.get? L = none) (x : FF rb h l) : FF rb h (env :: l) := fun e he => (List.mem_cons.mp he).elim (fun q => q ▸ ⟨h1, L, m, h2, h4, h3⟩) (x e)
/-- a later heap -/
theorem Act.re (a : Act C A e₀ h₀ h) (ns : ∃ m, h'.Ns e₀.locals m) (t : TabsOk C h') (k : ∀ L m, h.Ns L m → ∃ m', h'.Ns L m') : Act C A e₀ h₀ h' := by
  obtain ⟨outer, hA, hl⟩ := a.bel
  obtain ⟨m, F⟩ := a.fr
  obtain ⟨m', n'⟩ := ns
  exact { a with bel := ⟨outer, hA, hl.of k⟩, fr := ⟨m', n', fun b o e => t.base b o (a.h0 ▸ e), F.above⟩, tab := t }
theorem ns_notP (t : TabsOk C h) {L : Addr} {m : Str → Option Value} (n : h.Ns L m) : L ∉ C.Ps := by
  obtain ⟨o, es, ep, e1, e2, _⟩ := n
  exact t.notPd e1 fun vs q => by rw [e2] at q; cases q
theorem Act.step (a : Act C A e₀ h₀ h) (k : Ext C.Ps h h') (t : TabsOk C h') : Act C A e₀ h₀ h' := by
  obtain ⟨m, F⟩ := a.fr
  exact a.re ⟨m, k.ns (fun q => (a.ground q).2 rfl) F.ns⟩ t fun L m n => ⟨m, k.ns (ns_notP a.tab n) n⟩
theorem Act.loc0 (a : Act C A e₀ h₀ h) : h₀.get? e₀.locals = none := by
  obtain ⟨m, F⟩ := a.fr
  cases q : h₀.get? e₀.locals with
  | none => rfl
  | some o => exact absurd (Nat.lt_of_lt_of_le (Heap.lt_size q) F.above) (Nat.lt_irrefl _)
theorem Act.keep0 (a : Act C A e₀ h₀ h) : ∀ b o, h₀.get? b = some o → h.get? b = some o := let ⟨_, F⟩ := a.fr; F.keep
theorem Act.nolimit (a : Act C A e₀ h₀ h) : h.NoLimit := a.top.nolimit.keeps a.keep0
end

/-- what a name of a frame or of a comprehension's block holds -/
noncomputable def Slot (env : Env) (x : Str) (h : Heap) (v : Value) : Prop :=
  (env.kindOf x = some .local ∧ ∃ m, h.Ns env.locals m ∧ m x = some v) ∨
  ((env.kindOf x = some .cell ∨ env.kindOf x = some .free) ∧ ∃ c, env.cells.lookup x = some c ∧ h.IsCell c (some v))

structure EnvOk (C : Cx) (sc : Scope) (env : Env) (h : Heap) : Prop where
  kind : env.scope.kind = .function
  glob : env.globals = mainGlobals
  bltn : env.builtins = builtinsNs
  loc : ∃ m, h.Ns env.locals m
  kloc : ∀ x, sc.names.lookup x = some .local → env.kindOf x = some .local
  kcell : ∀ x, sc.names.lookup x = some .cell → env.kindOf x = some .cell ∧ ∃ c, env.cells.lookup x = some c
  kfree : ∀ x, sc.names.lookup x = some .free → (env.kindOf x = some .cell ∨ env.kindOf x = some .free) ∧ ∃ c, env.cells.lookup x = some c
  kglob : ∀ x, sc.names.lookup x = some .globalImplicit → env.kindOf x = some .globalImplicit
  cell : ∀ x c, env.cells.lookup x = some c → ∃ v, h.IsCell c v
  inj : ∀ x y c, env.cells.lookup x = some c → env.cells.lookup y = some c → x = y

section
variable {C : Cx} {sc : Scope} {env : Env} {h h' : Heap} {x : Str} {v : Value}
theorem Ns.data {a : Addr} {m : Str → Option Value} (n : h.Ns a m) : ∃ o, h.get? a = some o ∧ ∀ vs, o.data ≠ .fields vs := let ⟨o, es, ep, ho, hd, _⟩ := n; ⟨o, ho, fun vs q => by rw [hd] at q; cases q⟩
theorem Cell.data {a : Addr} {m : Option Value} (n : h.IsCell a m) : ∃ o, h.get? a = some o ∧ ∀ vs, o.data ≠ .fields vs := let ⟨o, ho, hd⟩ := n; ⟨o, ho, fun vs q => by rw [hd] at q; cases q⟩
theorem Ns.ext (t : TabsOk C h) (k : Ext C.Ps h h') {a : Addr} {m : Str → Option Value} (n : h.Ns a m) : h'.Ns a m := by
  obtain ⟨o', e', q⟩ := Ns.data n
  obtain ⟨o, es, ep, ho, hd, r⟩ := n
  obtain ⟨sl, e1, _⟩ := k _ _ (t.notPd e' q) ho
  exact ⟨_, es, ep, e1, hd, r⟩
theorem Cell.ext (t : TabsOk C h) (k : Ext C.Ps h h') {a : Addr} {m : Option Value} (n : h.IsCell a m) : h'.IsCell a m := by
  obtain ⟨o', e', q⟩ := Cell.data n
  obtain ⟨o, ho, r⟩ := n
  obtain ⟨sl, e1, _⟩ := k _ _ (t.notPd e' q) ho
  exact ⟨_, e1, r⟩
theorem Slot.ext (t : TabsOk C h) (k : Ext C.Ps h h') (s : Slot env x h v) : Slot env x h' v := by
  rcases s with ⟨a, m, n, e⟩ | ⟨a, c, l, n⟩
  · exact .inl ⟨a, m, Ns.ext t k n, e⟩
  · exact .inr ⟨a, c, l, Cell.ext t k n⟩
theorem EnvOk.ext (E : EnvOk C sc env h) (t : TabsOk C h) (k : Ext C.Ps h h') : EnvOk C sc env h' :=
  { E with loc := let ⟨m, n⟩ := E.loc; ⟨m, Ns.ext t k n⟩, cell := fun x c e => let ⟨v, n⟩ := E.cell x c e; ⟨v, Cell.ext t k n⟩ }
theorem Slot.name {M : Model} {A : Around} {s : Shared} {E : Value → Shared → Prop} {pos : Pos} {Q : Value → Shared → Prop} (hk : env.scope.kind = .function) (S : Slot env x s.heap v) (hq : Q v s)
    (hd : (x == ("__debug__" : Str)) = false) (hc : (x == ("__classdict__" : Str)) = false) : wpAny M A (eval (.Name x pos) env) Q E s := by
  refine wpAny_Name ?_ hd
  rcases S with ⟨a, m, n, e⟩ | ⟨a | a, c, l, n⟩
  · exact wpAny_loadName_local hk a n e hq
  · exact wpAny_loadName_cell hk a l n hq
  · exact wpAny_loadName_free hk a l n hq hc
end


end
end Mine
namespace Mine
section
open PySem.Calls

noncomputable abbrev never : Value → Shared → Prop := fun _ _ => False

/-- all that was stays; Y of the value at the new heap -/
noncomputable def Kept (s : Shared) (Y : Value → Heap → Prop) (v : Value) (s' : Shared) : Prop :=
  ∃ h' tk, s' = { s with heap := h', toks := tk } ∧ (∀ b o, s.heap.get? b = some o → h'.get? b = some o) ∧ Y v h'
theorem Kept.same {s : Shared} {Y : Value → Heap → Prop} {v : Value} {tk : Nat} (y : Y v s.heap) : Kept s Y v { s with toks := tk } := ⟨s.heap, tk, rfl, fun _ _ e => e, y⟩
theorem Kept.push {s : Shared} {Y : Value → Heap → Prop} {v : Value} {tk : Nat} (o : Obj) (y : Y v (s.heap.push o)) : Kept s Y v { s with heap := s.heap.push o, toks := tk } := ⟨_, tk, rfl, fun _ _ e => Heap.get?_push_of_some _ e, y⟩

theorem push_list (h : Heap) (vs : List Value) : (h.push { cls := .type "list", data := .seq vs.toArray }).IsList h.objs.size vs.toArray := ⟨_, Heap.get?_push_size _ rfl, rfl, _, rfl⟩
theorem push_tuple (h : Heap) (vs : List Value) : (h.push { cls := .type "tuple", data := .seq vs.toArray }).IsTuple h.objs.size vs.toArray := ⟨_, Heap.get?_push_size _ rfl, rfl, _, rfl⟩
theorem fresh_none {h : Heap} {a : Addr} (q : h.objs.size ≤ a) : h.get? a = none := by
  cases e : h.get? a with
  | none => rfl
  | some o => exact absurd (Heap.lt_size e) (Nat.not_lt.mpr q)

noncomputable def IsInt (i : Int) : Value → Heap → Prop := fun v _ => ∃ t, v = .int i t
section
variable {prog : Program} {w : World} {A : Around} {s : Shared}

theorem IntsAre.allInts' {vs : List Value} {ns : List Int} (h : IntsAre vs ns) : ∃ xs : Array (Int × Tok), vs.toArray = intItems xs ∧ xs.toList.map (·.1) = ns := by
  induction h with
  | nil => exact ⟨#[], by simp [intItems], rfl⟩
  | cons n t _ ih =>
    obtain ⟨xs, e1, e2⟩ := ih
    refine ⟨((n, t) :: xs.toList).toArray, ?_, by simp [e2]⟩
    simp only [intItems] at e1 ⊢
    have e3 := congrArg Array.toList e1
    simp at e3
    simp [e3]

theorem b_sum {l : Addr} {vs : List Value} {ns : List Int} (hh : A.handled = none) (hl : s.heap.IsList l vs.toArray) (hi : IntsAre vs ns) :
    wpAny (model prog w) A (call (.builtin "sum") [.ref l]) (Kept s (IsInt ns.sum)) never s := by
  obtain ⟨xs, e, e2⟩ := IntsAre.allInts' hi
  rw [e] at hl
  refine sum_intListG hh hl fun h' tk t' hk => ?_
  rw [preSum_eq, e2]
  have : ns.take xs.size = ns := by rw [← e2, List.take_of_length_le]; rw [List.length_map, Array.length_toList]; exact Nat.le_refl _
  rw [this]
  exact ⟨h', tk, rfl, hk, t', rfl⟩

/-- the greatest of n and ns -/
noncomputable def maxL : Int → List Int → Int
  | m, [] => m
  | m, n :: ns => maxL (if n > m then n else m) ns
theorem maxL_spec : ∀ (ns : List Int) (m : Int), (maxL m ns = m ∨ maxL m ns ∈ ns) ∧ m ≤ maxL m ns ∧ ∀ a ∈ ns, a ≤ maxL m ns
  | [], m => by simp [maxL]
  | n :: ns, m => by
    obtain ⟨h1, h2, h3⟩ := maxL_spec ns (if n > m then n else m)
    have e : maxL m (n :: ns) = maxL (if n > m then n else m) ns := rfl
    rw [e]
    generalize hM : maxL (if n > m then n else m) ns = M at h1 h2 h3 ⊢
    refine ⟨?_, ?_, ?_⟩
    · rcases h1 with h1 | h1
      · rw [h1]
        split
        · exact .inr (.head _)
        · exact .inl rfl
      · exact .inr (.tail _ h1)
    · split at h2 <;> (first | lia | omega)
    · intro a ha
      rcases List.mem_cons.mp ha with rfl | ha
      · split at h2 <;> (first | lia | omega)
      · exact h3 a ha
theorem maxL_unique {n M : Int} {ns : List Int} (h1 : M ∈ n :: ns) (h2 : ∀ a ∈ n :: ns, a ≤ M) : M = maxL n ns := by
  obtain ⟨k1, k2, k3⟩ := maxL_spec ns n
  have e1 : M ≤ maxL n ns := by
    rcases List.mem_cons.mp h1 with rfl | h1
    · exact k2
    · exact k3 _ h1
  have e2 : maxL n ns ≤ M := by
    rcases k1 with k1 | k1
    · rw [k1]; exact h2 _ (.head _)
    · exact h2 _ (.tail _ k1)
  (first | lia | omega)
theorem b_max {l : Addr} {vs : List Value} {n : Int} {ns : List Int} (hh : A.handled = none) (hl : s.heap.IsList l vs.toArray) (hi : IntsAre vs (n :: ns)) :
    wpAny (model prog w) A (call (.builtin "max") [.ref l]) (Kept s (IsInt (maxL n ns))) never s := by
  obtain ⟨xs, e, e2⟩ := IntsAre.allInts' hi
  rw [e] at hl
  have hsz : 0 < xs.size := by
    have := congrArg List.length e2
    simp at this; omega
  refine max_intList hh hl hsz fun v h' tk hv hk => ?_
  obtain ⟨t, rfl⟩ := intItems_at hv
  obtain ⟨h1, h2⟩ := argBest_gt (numAt xs) (xs.size - 1)
  refine ⟨h', tk, rfl, hk, t, ?_⟩
  have e3 : numAt xs (argBest (fun i j => decide (numAt xs i > numAt xs j)) (xs.size - 1)) = maxL n ns := by
    refine maxL_unique ?_ fun a ha => ?_
    · rw [numAt_eq, ← e2]; exact getD_mem (by rw [List.length_map, Array.length_toList]; omega)
    · rw [← e2] at ha
      obtain ⟨j, hj, rfl⟩ := mem_getD ha
      rw [List.length_map, Array.length_toList] at hj
      rw [← numAt_eq]; exact h2 j (by omega)
  rw [e3]
theorem b_max2 {a b : Int} {t u : Tok} (hh : A.handled = none) : wpAny (model prog w) A (call (.builtin "max") [.int a t, .int b u]) (Kept s (IsInt (if b > a then b else a))) never s := by
  refine max_two_ints hh fun h' tk hk => ?_
  by_cases hc : b > a
  · rw [if_pos hc, if_pos hc]; exact ⟨h', tk, rfl, hk, u, rfl⟩
  · rw [if_neg hc, if_neg hc]; exact ⟨h', tk, rfl, hk, t, rfl⟩
theorem b_abs {a : Int} {t : Tok} : wpAny (model prog w) A (call (.builtin "abs") [.int a t]) (Kept s (IsInt (if a < 0 then -a else a))) never s :=
  call_abs_int fun u tk => ⟨s.heap, tk, rfl, fun _ _ e => e, u, rfl⟩
theorem b_len {l : Addr} {vs : List Value} (hl : s.heap.IsList l vs.toArray) (hf : vs.length < 2 ^ 63) : wpAny (model prog w) A (call (.builtin "len") [.ref l]) (Kept s (IsInt vs.length)) never s :=
  call_len_list hl (by simp; (first | lia | omega)) ⟨s.heap, _, rfl, fun _ _ e => e, s.toks + 1, by simp⟩
theorem b_lenT {l : Addr} {vs : List Value} (hl : s.heap.IsTuple l vs.toArray) (hf : vs.length < 2 ^ 63) : wpAny (model prog w) A (call (.builtin "len") [.ref l]) (Kept s (IsInt vs.length)) never s :=
  len_tuple hl (by simp; (first | lia | omega)) ⟨s.heap, _, rfl, fun _ _ e => e, s.toks + 1, by simp⟩
theorem b_divmod {a b : Int} {t u : Tok} (hb : b ≠ 0) (hp : Builtin.divisionGoesByPylong a b = false) :
    wpAny (model prog w) A (call (.builtin "divmod") [.int a t, .int b u]) (Kept s (fun v h' => ∃ c t u, v = .ref c ∧ s.heap.get? c = none ∧ h'.IsTuple c #[.int (a.fdiv b) t, .int (a.fmod b) u])) never s :=
  divmod_int hb (.push _ ⟨_, _, _, rfl, fresh_none (Nat.le_refl _), _, Heap.get?_push_size _ rfl, rfl, _, rfl⟩) (.inl hp)
theorem b_bits {a : Int} {t : Tok} : wpAny (model prog w) A (call (.builtin "int.bit_length") [.int a t]) (Kept s (IsInt (Builtin.Int.intBits a))) never s :=
  call_int_bit_length ⟨s.heap, _, rfl, fun _ _ e => e, _, rfl⟩
noncomputable def IsRng (a b c : Int) : Value → Heap → Prop := fun v h => ∃ r t u x, v = .ref r ∧ IsRange h r a b c t u x
theorem b_range1 {n : Int} {t : Tok} : wpAny (model prog w) A (call (.type "range") [.int n t]) (Kept s (fun v h' => IsRng 0 n 1 v h' ∧ ∀ a, v = .ref a → s.heap.get? a = none)) never s :=
  call_range_1 (.push _ ⟨⟨_, _, _, _, rfl, Heap.get?_push_size _ rfl⟩, fun a e => by cases e; exact fresh_none (Nat.le_refl _)⟩)
theorem b_range2 {a n : Int} {t u : Tok} : wpAny (model prog w) A (call (.type "range") [.int a t, .int n u]) (Kept s (fun v h' => IsRng a n 1 v h' ∧ ∀ a, v = .ref a → s.heap.get? a = none)) never s :=
  call_range_2 (.push _ ⟨⟨_, _, _, _, rfl, Heap.get?_push_size _ rfl⟩, fun a e => by cases e; exact fresh_none (Nat.le_refl _)⟩)
theorem b_range3 {a n c : Int} {t u x : Tok} (hc : c ≠ 0) (hs : c.natAbs < 1073741824) : wpAny (model prog w) A (call (.type "range") [.int a t, .int n u, .int c x]) (Kept s (fun v h' => IsRng a n c v h' ∧ ∀ a, v = .ref a → s.heap.get? a = none)) never s :=
  call_range_3 hc (.push _ ⟨⟨_, _, _, _, rfl, Heap.get?_push_size _ rfl⟩, fun a e => by cases e; exact fresh_none (Nat.le_refl _)⟩) (.inl (PyProof.noPylong_small hs))
noncomputable def rng (a c : Int) (n : Nat) : List Int := (List.range n).map fun (i : Nat) => a + (i : Int) * c
theorem b_listRange {r : Addr} {a b c : Int} {t u x : Tok} (hh : A.handled = none) (hr : IsRange s.heap r a b c t u x) (hs : Builtin.Range.small a b c = true) (hn : (Builtin.Range.rangeSize a b c).toNat ≤ 2 ^ 24) (h0 : 0 ≤ Builtin.Range.rangeSize a b c) :
    wpAny (model prog w) A (call (.type "list") [.ref r]) (Kept s (fun v h' => ∃ l vs, v = .ref l ∧ s.heap.get? l = none ∧ h'.IsList l vs.toArray ∧ IntsAre vs (rng a c (Builtin.Range.rangeSize a b c).toNat))) never s := by
  refine call_list_range hh hr hs (n := (Builtin.Range.rangeSize a b c).toNat) (by (first | lia | omega)) hn fun h' tk acc' c' hk hS hacc => ?_
  refine ⟨h', tk, rfl, hk, _, acc'.toList, rfl, fresh_none (Nat.le_refl _), ⟨_, hS, rfl, c', by simp⟩, ?_⟩
  obtain ⟨e1, e2⟩ := hacc
  generalize (Builtin.Range.rangeSize a b c).toNat = n at e1 e2
  obtain ⟨l⟩ := acc'
  simp only at e1 e2 ⊢
  have key : ∀ (l : List Value) (k : Nat), (∀ i v, l[i]? = some v → ∃ t, v = Value.int (a + ((k + i : Nat) : Int) * c) t) → IntsAre l ((List.range' k l.length).map fun (i : Nat) => a + (i : Int) * c) := by
    intro l
    induction l with
    | nil => intro k _; exact .nil
    | cons v l ih =>
      intro k hk'
      obtain ⟨t, rfl⟩ := hk' 0 v rfl
      simp only [List.length_cons, List.range'_succ, List.map_cons]
      refine .cons _ _ (ih (k + 1) fun i v hv => ?_)
      obtain ⟨t, e⟩ := hk' (i + 1) v (by simpa using hv)
      exact ⟨t, by rw [e]; congr 3; (first | lia | omega)⟩
  have := key l 0 fun i v hv => by
    obtain ⟨t, e⟩ := e2 i v (by simpa using hv)
    exact ⟨t, by rw [e]; simp⟩
  have e3 : l.length = n := by simpa using e1
  rw [e3, ← List.range_eq_range'] at this
  exact this
end

end
end Mine
namespace Mine
section
open PySem.Calls
set_option backward.match.sparseCases false

noncomputable abbrev bits (i : Int) : Nat := Builtin.Int.intBits i

noncomputable def intOp : Operator → Int → Int → Option Int
  | .Add, a, b => some (a + b)
  | .Sub, a, b => some (a - b)
  | .Mult, a, b => if bits a + bits b ≤ 134217728 then some (a * b) else none
  | .FloorDiv, a, b => if b ≠ 0 ∧ Builtin.divisionGoesByPylong a b = false then some (a.fdiv b) else none
  | .Mod, a, b => if b ≠ 0 then some (a.fmod b) else none
  | .LShift, a, n => if 0 ≤ n ∧ (bits a : Int) + n ≤ 134217728 then some (a * 2 ^ n.toNat) else none
  | .RShift, a, n => if 0 ≤ n then some (a.fdiv (2 ^ n.toNat)) else none
  | .Pow, a, n => if 0 ≤ n ∧ (bits a : Int) * n ≤ 134217728 then some (a ^ n.toNat) else none
  | .BitAnd, a, b => some (Builtin.bitAnd a b)
  | .BitOr, a, b => some (Builtin.bitOr a b)
  | .BitXor, a, b => some (Builtin.bitXor a b)
  | _, _, _ => none

theorem ite_get {α : Type} {p : Prop} [Decidable p] {x z : α} (e : (if p then some x else none) = some z) : p ∧ x = z := by
  by_cases h : p
  · rw [if_pos h] at e; exact ⟨h, Option.some.inj e⟩
  · rw [if_neg h] at e; cases e
noncomputable def binA (xs ys : List PV) : Operator → Option PV
  | .Add => if xs.length + ys.length ≤ 16777216 then some (.lst (xs ++ ys)) else none
  | _ => none
noncomputable def binM (xs : List PV) (n : Int) : Operator → Option PV
  | .Mult => if -(2 ^ 63 : Int) ≤ n ∧ n < 2 ^ 63 ∧ xs.length * n.toNat ≤ 1048576 then some (.lst (List.replicate n.toNat xs).flatten) else none
  | _ => none
noncomputable def binop (op : Operator) : PV → PV → Option PV
  | .int a, .int b => (intOp op a b).map .int
  | .lst xs, .lst ys => binA xs ys op
  | .lst xs, .int n => binM xs n op
  | _, _ => none

section
variable {prog : Program} {w : World} {A : Around} {s : Shared} {X : List Addr}

/-- no object of before; it has no dict -/
noncomputable def New (h : Heap) (v : Value) (h' : Heap) : Prop := ∀ a, v = .ref a → h.get? a = none ∧ ∃ o, h'.get? a = some o ∧ o.dict = none ∧ o.slots = #[]
theorem New.plain {h h' : Heap} {a : Addr} {items : Array Value} (n : New h (.ref a) h') (l : h'.IsList a items) : h'.PlainList a items := by
  obtain ⟨_, ⟨c, d, dt, sl⟩, e, rfl, rfl⟩ := n a rfl
  obtain ⟨o', e', hc, k, hd⟩ := l
  rw [e] at e'; cases e'
  cases hc; cases hd
  exact ⟨k, e⟩
noncomputable def Got (s : Shared) (X : List Addr) (z : PV) : Value → Shared → Prop := Kept s fun v h' => Rep h' X z v ∧ New s.heap v h'

theorem got_int {i : Int} {t : Tok} {tk : Nat} : Got s X (.int i) (.int i t) { s with toks := tk } := .same ⟨⟨_, rfl⟩, nofun⟩

theorem intOp_ok {op : Operator} {a b c : Int} {t u : Tok} (e : intOp op a b = some c) : wpAny (model prog w) A (binaryOp op (.int a t) (.int b u)) (Got s X (.int c)) never s := by
  cases op with
  | Add => cases e; exact PyProof.Rows.add_int got_int
  | Sub => cases e; exact sub_int' got_int
  | Mult => obtain ⟨h, rfl⟩ := ite_get e; exact mul_int got_int (mulOk_of_bits (Nat.le_refl _) (Nat.le_refl _) h)
  | FloorDiv => obtain ⟨h, rfl⟩ := ite_get e; exact floordiv_int h.1 got_int (.inl h.2)
  | Mod => obtain ⟨h, rfl⟩ := ite_get e; exact mod_int' h got_int
  | LShift => obtain ⟨h, rfl⟩ := ite_get e; exact lshift_int h.1 h.2 got_int
  | RShift => obtain ⟨h, rfl⟩ := ite_get e; exact rshift_int h got_int
  | Pow => obtain ⟨h, rfl⟩ := ite_get e; exact pow_int h.1 h.2 got_int
  | BitAnd => cases e; exact and_int got_int
  | BitOr => cases e; exact or_int got_int
  | BitXor => cases e; exact xor_int got_int
  | _ => cases e
theorem intOp_ip {op : Operator} {a b c : Int} {t u : Tok} (e : intOp op a b = some c) : wpAny (model prog w) A (inplaceOp op (.int a t) (.int b u)) (Got s X (.int c)) never s := by
  cases op with
  | Add => cases e; exact PyProof.Rows.iadd_int got_int
  | Sub => cases e; exact isub_int got_int
  | Mult => obtain ⟨h, rfl⟩ := ite_get e; exact imul_int got_int (mulOk_of_bits (Nat.le_refl _) (Nat.le_refl _) h)
  | FloorDiv => obtain ⟨h, rfl⟩ := ite_get e; exact ifloordiv_int h.1 got_int (.inl h.2)
  | Mod => obtain ⟨h, rfl⟩ := ite_get e; exact imod_int h got_int
  | LShift => obtain ⟨h, rfl⟩ := ite_get e; exact ilshift_int h.1 h.2 got_int
  | RShift => obtain ⟨h, rfl⟩ := ite_get e; exact irshift_int h got_int
  | Pow => obtain ⟨h, rfl⟩ := ite_get e; exact ipow_int h.1 h.2 got_int
  | BitAnd => cases e; exact iand_int got_int
  | BitOr => cases e; exact ior_int got_int
  | BitXor => cases e; exact ixor_int got_int
  | _ => cases e

/-- a new list -/
theorem got_list {xs : List PV} {vs : List Value} {tk : Nat} (hX : ∀ a ∈ X, ∃ o, s.heap.get? a = some o) (r : RepL s.heap X xs vs) :
    Got s X (.lst xs) (.ref s.heap.objs.size) { s with heap := s.heap.push { cls := .type "list", data := .seq vs.toArray }, toks := tk } := by
  refine .push _ ⟨⟨_, vs, rfl, fun q => ?_, push_list _ _, r.keep fun a o _ _ e => Heap.get?_push_of_some _ e⟩, fun a e => by cases e; exact ⟨fresh_none (Nat.le_refl _), _, Heap.get?_push_size _ rfl, rfl, rfl⟩⟩
  obtain ⟨o, e⟩ := hX _ q
  exact Nat.lt_irrefl _ (Heap.lt_size e)
theorem got_tuple {xs : List PV} {vs : List Value} {tk : Nat} (hX : ∀ a ∈ X, ∃ o, s.heap.get? a = some o) (r : RepL s.heap X xs vs) :
    Got s X (.tup xs) (.ref s.heap.objs.size) { s with heap := s.heap.push { cls := .type "tuple", data := .seq vs.toArray }, toks := tk } := by
  refine .push _ ⟨⟨_, vs, rfl, fun q => ?_, push_tuple _ _, r.keep fun a o _ _ e => Heap.get?_push_of_some _ e⟩, fun a e => by cases e; exact ⟨fresh_none (Nat.le_refl _), _, Heap.get?_push_size _ rfl, rfl, rfl⟩⟩
  obtain ⟨o, e⟩ := hX _ q
  exact Nat.lt_irrefl _ (Heap.lt_size e)

theorem concat_ok {l b : Addr} {vs us : List Value} {xs ys : List PV} (hX : ∀ a ∈ X, ∃ o, s.heap.get? a = some o) (hl : s.heap.IsList l vs.toArray) (hb : s.heap.IsList b us.toArray) (r : RepL s.heap X xs vs) (r' : RepL s.heap X ys us) (hs : xs.length + ys.length ≤ 16777216) :
    wpAny (model prog w) A (binaryOp .Add (.ref l) (.ref b)) (Got s X (.lst (xs ++ ys))) never s := by
  obtain ⟨⟨cls, dd, data, sl⟩, ho, hc, n, hd⟩ := id hl
  obtain ⟨⟨cls2, dd2, data2, sl2⟩, ho2, hc2, n2, hd2⟩ := id hb
  simp only at hc hd hc2 hd2
  subst hc hd hc2 hd2
  have e : vs.toArray ++ us.toArray = (vs ++ us).toArray := by simp
  refine concat_meets ⟨_, ho, rfl⟩ ⟨_, ho2, rfl⟩ noFill_list_add seq_list_add PySem.F.slot_list_add PySem.F.entry_list_add (PySem.F.args_list_add_2 _ _) (list_addW l b vs.toArray us.toArray n n2 dd dd2 sl sl2 (by simp [r.length, r'.length, sizeLine]; exact hs)) ⟨ho, ho2, ?_⟩
  rw [e]
  exact got_list hX (r.append r')

theorem RepL.flatten {h : Heap} {xs : List PV} {vs : List Value} (r : RepL h X xs vs) : ∀ n, RepL h X (List.replicate n xs).flatten (List.replicate n vs).flatten
  | 0 => rfl
  | n + 1 => by
    simp only [List.replicate_succ, List.flatten_cons]
    exact r.append (RepL.flatten r n)
theorem repeat_ok {l : Addr} {vs : List Value} {xs : List PV} {x : Int} {u : Tok} (hX : ∀ a ∈ X, ∃ o, s.heap.get? a = some o) (hl : s.heap.IsList l vs.toArray) (r : RepL s.heap X xs vs)
    (hlo : -(2 ^ 63 : Int) ≤ x) (hhi : x < 2 ^ 63) (hs : xs.length * x.toNat ≤ 1048576) :
    wpAny (model prog w) A (binaryOp .Mult (.ref l) (.int x u)) (Got s X (.lst (List.replicate x.toNat xs).flatten)) never s := by
  obtain ⟨⟨cls, d, data, sl⟩, ho, hcl, k, hd⟩ := id hl
  simp only at hcl hd
  subst hcl hd
  have hsz' : vs.toArray.size * x.toNat ≤ 2 ^ 20 := by simpa [r.length] using hs
  refine wpAny_binaryOp_repeat_ref (T := "list") (U := "int") (by decide) ⟨_, ho, rfl⟩ (fun s' => typeIs_int s' x u) noFill_list_mul F.fills_int_mul F.slot_int_rmul repeat_list F.slot_int_index.lookup
    (call_meets F.slot_int_rmul (typeIs_int s x u) F.entry_int_rmul (F.args_int_rmul_2 _ _) (lm_int_rmul_list_any x u l vs.toArray k d sl)
      ⟨ho, rfl, ⟨_, ho, rfl⟩, call_meets F.slot_list_mul ⟨_, ho, rfl⟩ F.entry_list_mul (F.args_list_mul_2 _ _)
        (lm_list_mul_any l vs.toArray k d sl x u (by simp [Builtin.List.listFitsIndex]; (first | lia | omega)) (by (first | lia | omega)) (by simp [Builtin.List.listTooLong, sizeLine]; simp at hsz'; (first | lia | omega)))
        ⟨ho, ?_⟩⟩)
  rw [listMul_foldl_if]
  exact got_list hX (r.flatten _)

theorem binA_ok {op : Operator} {xs ys : List PV} {z : PV} {v u : Value} (hX : ∀ a ∈ X, ∃ o, s.heap.get? a = some o) (hv : Rep s.heap X (.lst xs) v) (hu : Rep s.heap X (.lst ys) u) (e : binA xs ys op = some z) :
    wpAny (model prog w) A (binaryOp op v u) (Got s X z) never s := by
  cases op with
  | Add =>
    obtain ⟨h, rfl⟩ := ite_get e
    obtain ⟨a, vs, rfl, ha, hl, hr⟩ := hv
    obtain ⟨b, us, rfl, hb, hl', hr'⟩ := hu
    exact concat_ok hX hl hl' hr hr' h
  | _ => cases e
theorem binM_ok {op : Operator} {xs : List PV} {n : Int} {z : PV} {v u : Value} (hX : ∀ a ∈ X, ∃ o, s.heap.get? a = some o) (hv : Rep s.heap X (.lst xs) v) (hu : Rep s.heap X (.int n) u) (e : binM xs n op = some z) :
    wpAny (model prog w) A (binaryOp op v u) (Got s X z) never s := by
  cases op with
  | Mult =>
    obtain ⟨h, rfl⟩ := ite_get e
    obtain ⟨a, vs, rfl, ha, hl, hr⟩ := hv
    obtain ⟨t, rfl⟩ := hu
    exact repeat_ok hX hl hr h.1 h.2.1 h.2.2
  | _ => cases e
theorem binop_ok {op : Operator} {x y z : PV} {v u : Value} (hX : ∀ a ∈ X, ∃ o, s.heap.get? a = some o) (hv : Rep s.heap X x v) (hu : Rep s.heap X y u) (e : binop op x y = some z) :
    wpAny (model prog w) A (binaryOp op v u) (Got s X z) never s := by
  cases x with
  | int a =>
    cases y with
    | int b =>
      obtain ⟨t, rfl⟩ := hv
      obtain ⟨t', rfl⟩ := hu
      obtain ⟨c, e1, rfl⟩ := Option.map_eq_some_iff.1 e
      exact intOp_ok e1
    | _ => cases e
  | lst xs =>
    cases y with
    | lst ys => exact binA_ok hX hv hu e
    | int n => exact binM_ok hX hv hu e
    | _ => cases e
  | _ => cases e

-- equality
mutual
noncomputable def toD : PV → Option PyData
  | .int i => some (.int i)
  | .bool b => some (.bool b)
  | .none => some .none
  | .str x => some (.str x)
  | .fn _ => none
  | .lst xs => (toDs xs).map .list
  | .tup xs => (toDs xs).map .tuple
noncomputable def toDs : List PV → Option (List PyData)
  | [] => some []
  | x :: xs => (toD x).bind fun d => (toDs xs).map (d :: ·)
end
mutual
theorem Rep.reads {h : Heap} : ∀ {x : PV} {v : Value} {d : PyData}, Rep h X x v → toD x = some d → ∃ as, Reads h v d as
  | .int _, _, _, r, e => by obtain ⟨t, rfl⟩ := r; cases e; exact ⟨_, .int _ _⟩
  | .bool _, _, _, r, e => by cases r; cases e; exact ⟨_, .bool _⟩
  | .none, _, _, r, e => by cases r; cases e; exact ⟨_, .none⟩
  | .str _, _, _, r, e => by obtain ⟨t, rfl⟩ := r; cases e; exact ⟨_, .str _ _⟩
  | .fn _, _, _, _, e => by cases e
  | .lst xs, _, _, r, e => by
    obtain ⟨a, vs, rfl, _, ⟨o, ho, hc, n, hd⟩, hr⟩ := r
    simp only [toD, Option.map_eq_some_iff] at e
    obtain ⟨ds, e, rfl⟩ := e
    obtain ⟨as, q⟩ := RepL.reads hr e
    exact ⟨_, .list ho hc hd (by simpa using q)⟩
  | .tup xs, _, _, r, e => by
    obtain ⟨a, vs, rfl, _, ⟨o, ho, hc, n, hd⟩, hr⟩ := r
    simp only [toD, Option.map_eq_some_iff] at e
    obtain ⟨ds, e, rfl⟩ := e
    obtain ⟨as, q⟩ := RepL.reads hr e
    exact ⟨_, .tuple ho hc hd (by simpa using q)⟩
theorem RepL.reads {h : Heap} : ∀ {xs : List PV} {vs : List Value} {ds : List PyData}, RepL h X xs vs → toDs xs = some ds → ∃ as, ReadsAll h vs ds as
  | [], _, _, r, e => by cases r; cases e; exact ⟨_, .nil⟩
  | x :: xs, _, _, r, e => by
    obtain ⟨v, q, rfl, h1, h2⟩ := r
    simp only [toDs, Option.bind_eq_some_iff, Option.map_eq_some_iff] at e
    obtain ⟨d, e1, ds, e2, rfl⟩ := e
    obtain ⟨as, q1⟩ := Rep.reads h1 e1
    obtain ⟨bs, q2⟩ := RepL.reads h2 e2
    exact ⟨_, .cons q1 q2⟩
end
noncomputable def eqP (x y : PV) : Option Bool := match toD x, toD y with
  | some a, some b => if SeqAt.shaped a && SeqAt.shaped b then some (PyData.eqv a b) else none
  | _, _ => none

noncomputable def cmpI (a b : Int) : CmpOp → Option Bool
  | .Lt => some (decide (a < b))
  | .LtE => some (decide (a ≤ b))
  | .Gt => some (decide (b < a))
  | .GtE => some (decide (b ≤ a))
  | .Eq => some (a == b)
  | .NotEq => some (a != b)
  | _ => none
noncomputable def cmpE (x y : PV) : CmpOp → Option Bool
  | .Eq => eqP x y
  | .NotEq => (eqP x y).map (!·)
  | _ => none
noncomputable def cmpop (op : CmpOp) : PV → PV → Option Bool
  | .int a, .int b => cmpI a b op
  | x, y => cmpE x y op
theorem cmpop_ints {op : CmpOp} {x y : PV} : (∃ a b, x = .int a ∧ y = .int b) ∨ cmpop op x y = cmpE x y op := by
  cases x with
  | int a =>
    cases y with
    | int b => exact .inl ⟨_, _, rfl, rfl⟩
    | _ => exact .inr rfl
  | _ => exact .inr rfl

theorem eqP_get {x y : PV} {b : Bool} {v u : Value} (hv : Rep s.heap X x v) (hw : Rep s.heap X y u) (e : eqP x y = some b) :
    ∃ d d' as bs, Reads s.heap v d as ∧ Reads s.heap u d' bs ∧ SeqAt.shaped d = true ∧ SeqAt.shaped d' = true ∧ PyData.eqv d d' = b := by
  unfold eqP at e
  split at e
  · rename_i a b' h1 h2
    obtain ⟨h3, e⟩ := ite_get e
    rw [Bool.and_eq_true] at h3
    obtain ⟨as, r1⟩ := hv.reads h1
    obtain ⟨bs, r2⟩ := hw.reads h2
    exact ⟨_, _, _, _, r1, r2, h3.1, h3.2, e⟩
  · cases e
theorem eqP_ok {x y : PV} {b : Bool} {v u : Value} {Q : Value → Shared → Prop} (hu : A.units + 64 < cLine) (hv : Rep s.heap X x v) (hw : Rep s.heap X y u) (e : eqP x y = some b) (h : Q (.bool b) s) :
    wpAny (model prog w) A (compareOp .Eq v u) Q never s := by
  obtain ⟨_, _, _, _, r1, r2, h1, h2, rfl⟩ := eqP_get hv hw e
  exact eq_dataH r1 r2 h1 h2 hu h
theorem neP_ok {x y : PV} {b : Bool} {v u : Value} {Q : Value → Shared → Prop} (hu : A.units + 64 < cLine) (hv : Rep s.heap X x v) (hw : Rep s.heap X y u) (e : (eqP x y).map (!·) = some b) (h : Q (.bool b) s) :
    wpAny (model prog w) A (compareOp .NotEq v u) Q never s := by
  obtain ⟨_, e1, rfl⟩ := Option.map_eq_some_iff.1 e
  obtain ⟨_, _, _, _, r1, r2, h1, h2, rfl⟩ := eqP_get hv hw e1
  exact ne_dataH r1 r2 h1 h2 hu h
theorem cmpI_ok {op : CmpOp} {i j : Int} {t t' : Tok} {b : Bool} {Q : Value → Shared → Prop} (e : cmpI i j op = some b) (h : Q (.bool b) s) :
    wpAny (model prog w) A (compareOp op (.int i t) (.int j t')) Q never s := by
  cases op with
  | Lt => cases e; exact PyProof.Rows.lt_int h
  | LtE => cases e; exact PyProof.Rows.le_int h
  | Gt => cases e; exact PyProof.Rows.gt_int h
  | GtE => cases e; exact PyProof.Rows.ge_int h
  | Eq => cases e; exact PyProof.Rows.eq_int h
  | NotEq => cases e; exact PyProof.Rows.ne_int h
  | _ => cases e
theorem cmpE_ok {op : CmpOp} {x y : PV} {b : Bool} {v u : Value} {Q : Value → Shared → Prop} (hun : A.units + 64 < cLine) (hv : Rep s.heap X x v) (hu : Rep s.heap X y u) (e : cmpE x y op = some b) (h : Q (.bool b) s) :
    wpAny (model prog w) A (compareOp op v u) Q never s := by
  cases op with
  | Eq => exact eqP_ok hun hv hu e h
  | NotEq => exact neP_ok hun hv hu e h
  | _ => cases e
theorem cmpop_ok {op : CmpOp} {x y : PV} {b : Bool} {v u : Value} {Q : Value → Shared → Prop} (hun : A.units + 64 < cLine) (hv : Rep s.heap X x v) (hu : Rep s.heap X y u) (e : cmpop op x y = some b) (h : Q (.bool b) s) :
    wpAny (model prog w) A (compareOp op v u) Q never s := by
  rcases cmpop_ints (op := op) (x := x) (y := y) with ⟨_, _, rfl, rfl⟩ | q
  · obtain ⟨t, rfl⟩ := hv; obtain ⟨t', rfl⟩ := hu; exact cmpI_ok e h
  · exact cmpE_ok hun hv hu (q ▸ e) h

-- truth
noncomputable def tru : PV → Option Bool
  | .int i => some (i != 0)
  | .bool b => some b
  | .lst xs => if xs.length ≤ 16777216 then some (!xs.isEmpty) else none
  | _ => none
noncomputable def GotB (s : Shared) (b : Bool) : Bool → Shared → Prop := fun c s' => c = b ∧ ∃ h' tk, s' = { s with heap := h', toks := tk } ∧ (∀ b o, s.heap.get? b = some o → h'.get? b = some o)
theorem tru_ok {x : PV} {v : Value} {b : Bool} (hv : Rep s.heap X x v) (e : tru x = some b) : wpAny (model prog w) A (truthy v) (GotB s b) never s := by
  cases x with
  | int i => obtain ⟨t, rfl⟩ := hv; cases e; exact PyProof.Rows.truthy_int ⟨rfl, _, _, rfl, fun _ _ e => e⟩
  | bool b => cases hv; cases e; exact wpAny_truthy_bool ⟨rfl, _, _, rfl, fun _ _ e => e⟩
  | lst xs =>
    obtain ⟨hlen, rfl⟩ := ite_get e
    obtain ⟨a, vs, rfl, _, hl, hr⟩ := hv
    have hl' := hr.length
    refine wpAny_truthy_list hl (by simp; (first | lia | omega)) ?_
    refine ⟨?_, s.heap, _, rfl, fun _ _ e => e⟩
    cases xs with
    | nil => cases hr; rfl
    | cons x xs => obtain ⟨v, r, rfl, _, _⟩ := hr; simp
  | _ => cases e
end

end
end Mine
namespace Mine
section
open PySem.Calls
set_option backward.match.sparseCases false

noncomputable def idx (n : Nat) (k : Int) : Option Nat := if 0 ≤ k ∧ k < n ∧ k < 9223372036854775808 then some k.toNat else none
theorem idx_get {n : Nat} {k : Int} {i : Nat} (e : idx n k = some i) : (i : Int) = k ∧ i < n ∧ k < 9223372036854775808 := by
  obtain ⟨h, rfl⟩ := ite_get e
  omega
theorem idx_lt {n : Nat} {k : Int} {i : Nat} (e : idx n k = some i) : i < n := (idx_get e).2.1

noncomputable def isSeq (h : Heap) (T : Bool) (a : Addr) (vs : List Value) : Prop := if T then h.IsTuple a vs.toArray else h.IsList a vs.toArray

section
variable {prog : Program} {w : World} {A : Around} {s : Shared} {X : List Addr}

theorem getItem_ok {T : Bool} {a : Addr} {vs : List Value} {k : Int} {t : Tok} {i : Nat} {v : Value} {Q : Value → Shared → Prop} (hl : isSeq s.heap T a vs) (e : idx vs.length k = some i) (hi : vs[i]? = some v) (h : Q v s) :
    wpAny (model prog w) A (getItem (.ref a) (.int k t)) Q never s := by
  obtain ⟨rfl, h1, h2⟩ := idx_get e
  cases T with
  | false => exact wpAny_getItem_list hl (Int.natCast_nonneg i) h2 ((List.getElem?_toArray ..).trans hi) h
  | true =>
    refine PyProof.Rows.getItem_tuple hl (j := i) (Int.le_trans (by decide) (Int.natCast_nonneg i)) h2 ?_ ((List.getElem?_toArray ..).trans hi) h
    unfold seqIndex?
    rw [List.size_toArray, if_neg (Int.not_lt.mpr (Int.natCast_nonneg i)), if_pos (by simpa using h1)]
    rfl

/-- xs[lo:hi:st] -/
noncomputable def slc {α : Type} (xs : List α) (lo hi st : Option Int) : List α :=
  (sliceRange (sliceBounds lo hi st xs.length).1 (sliceBounds lo hi st xs.length).2.1 (sliceBounds lo hi st xs.length).2.2).filterMap (xs[·]?)
theorem RepL.picks {h : Heap} {xs : List PV} {vs : List Value} (r : RepL h X xs vs) : ∀ l : List Nat, RepL h X (l.filterMap (xs[·]?)) (l.filterMap (vs[·]?))
  | [] => rfl
  | i :: l => by
    simp only [List.filterMap_cons]
    cases e : xs[i]? with
    | none =>
      have : vs[i]? = none := by
        rw [List.getElem?_eq_none_iff] at e ⊢
        rw [r.length]; exact e
      rw [this]
      exact RepL.picks r l
    | some x =>
      obtain ⟨v, e2, hx⟩ := r.get e
      rw [e2]
      exact ⟨v, _, rfl, hx, RepL.picks r l⟩
theorem slice_ok {a sl : Addr} {vs : List Value} {xs : List PV} {vl vu vt : Value} {lo hi st : Option Int} (hX : ∀ a ∈ X, ∃ o, s.heap.get? a = some o) (hl : s.heap.IsList a vs.toArray) (hr : RepL s.heap X xs vs)
    (hs : s.heap.IsSliceOf sl vl vu vt) (pl : IsPart vl lo) (pu : IsPart vu hi) (pt : IsPart vt st) (h0 : st ≠ some 0) (hn : xs.length ≤ 16777216) :
    wpAny (model prog w) A (getItem (.ref a) (.ref sl)) (Got s X (.lst (slc xs lo hi st))) never s := by
  refine wpAny_getItem_list_slice hl hs pl pu pt h0 ?_ (by simp [hr.length, sizeLine]; exact hn)
  have e : slicePick vs.toArray lo hi st = (slc vs lo hi st).toArray := by
    unfold slicePick slc
    simp
  rw [e]
  refine got_list hX ?_
  unfold slc
  rw [hr.length]
  exact hr.picks _

theorem tail_ok {value slice : Expr} {o i : Value} {T : String} {id : String} {Q : Value → Shared → Prop} (hT : s.TypeIs o T) (hl : typeLookup (.type T) "__getitem__" = pure (some (.builtin id)))
    (hg : wpAny (model prog w) A (getItem o i) Q never s) : wpAny (model prog w) A (subscriptTail value slice o i) Q never s := by
  have e : ∃ ops, subscripted slice false o i = operate ops (getItem o i) := by
    cases slice with
    | Slice l u t p => cases t <;> exact ⟨_, rfl⟩
    | _ => exact ⟨_, rfl⟩
  obtain ⟨ops, e⟩ := e
  exact tail_any hT hl hg e
theorem isSeq.tail {T : Bool} {a : Addr} {vs : List Value} (h : isSeq s.heap T a vs) : ∃ Ty id, s.TypeIs (.ref a) Ty ∧ typeLookup (.type Ty) "__getitem__" = pure (some (.builtin id)) := by
  unfold isSeq at h
  cases T with
  | false => exact ⟨"list", _, Heap.IsList.typeIs (by simpa using h), slot_list_getitem.lookup⟩
  | true => exact ⟨"tuple", _, Heap.IsTuple.typeIs (by simpa using h), PyProof.Rows.slot_tuple_getitem.lookup⟩

noncomputable def unop : UnaryOp → PV → Option PV
  | .USub, .int a => some (.int (-a))
  | .Invert, .int a => some (.int (Builtin.bitNot a))
  | _, _ => none
theorem unop_ok {op : UnaryOp} {x z : PV} {v : Value} (hv : Rep s.heap X x v) (e : unop op x = some z) : wpAny (model prog w) A (unaryOp op v) (Got s X z) never s := by
  unfold unop at e
  split at e
  · obtain ⟨t, rfl⟩ := hv; cases e; exact PyProof.Rows.neg_int got_int
  · obtain ⟨t, rfl⟩ := hv; cases e; exact PyProof.Rows.invert_int got_int
  · cases e
end

/-- an address that holds no list and no code object's record -/
noncomputable def NotL (h : Heap) (b : Addr) : Prop := ∃ o, h.get? b = some o ∧ o.cls ≠ .type "list" ∧ ∀ vs q t, o.data = .fields vs → vs[1]? ≠ some (.str q t)
theorem NotL.of {h : Heap} {b : Addr} {o : Obj} (e : h.get? b = some o) (hc : o.cls ≠ .type "list") (hf : ∀ vs q t, o.data = .fields vs → vs[1]? ≠ some (.str q t)) : NotL h b := ⟨o, e, hc, hf⟩
/-- no frame -/
noncomputable def NotF (h : Heap) (b : Addr) : Prop := ∀ o, h.get? b = some o → NoD o
theorem NotF.of {h : Heap} {b : Addr} {o : Obj} (e : h.get? b = some o) (hc : NoD o) : NotF h b := fun o' e' => by rw [e] at e'; cases e'; exact hc
structure Pull (C : Cx) (A : Around) (X : List Addr) (tgt : Expr) (it : Value) (xs : List PV) (fp wr : List Addr) (St : Nat → Heap → Prop) : Prop where
  sub : ∀ b ∈ wr, b ∈ fp
  frame : ∀ i h h', St i h → (∀ b ∈ fp, ∀ o, h.get? b = some o → NoD o → h'.get? b = some o) → Kp X h h' → St i h'
  item : ∀ i x (s : Shared), xs[i]? = some x → St i s.heap → (∀ a ∈ X, ∃ o, s.heap.get? a = some o) →
    wpAny C.M A (pyNext it) (fun r s₁ => ∃ v, r = some v ∧ wpAny C.M A (letOwnedTupleGo tgt it v) (fun _ s₂ => ∃ h' tk, s₂ = { s with heap := h', toks := tk } ∧ Exa wr s.heap h' ∧ St (i + 1) h' ∧ Rep h' X x v) never s₁) never s
  done : ∀ (s : Shared), St xs.length s.heap → wpAny C.M A (pyNext it) (fun r s₂ => r = none ∧ ∃ h' tk, s₂ = { s with heap := h', toks := tk } ∧ Exa wr s.heap h') never s
  apart : ∀ i h, St i h → ∀ b ∈ wr, NotL h b
  self : ∀ i (s : Shared), St i s.heap → wpAny C.M A (pyIter it) (fun v s' => v = it ∧ s' = s) never s

/-- the places that a source leans on: new ones, or lists and tuples off X -/
noncomputable def Leans (X : List Addr) (h h' : Heap) (fp wr : List Addr) : Prop :=
  (∀ b ∈ wr, h.get? b = none) ∧ (∀ b ∈ fp, ∃ o, h'.get? b = some o) ∧ ∀ b ∈ fp, b ∈ wr ∨ (b ∉ X ∧ ∃ o, h'.get? b = some o ∧ IsSq o) ∨ h.get? b = none

noncomputable def Pulls (C : Cx) (A : Around) (X : List Addr) (tgt : Expr) (xs : List PV) (h : Heap) (it : Value) (h' : Heap) : Prop :=
  ∃ fp wr, Leans X h h' fp wr ∧ ∀ W, (∀ a ∈ W, h'.get? a = none) → ∃ St, Pull C A (W ++ (wr ++ X)) tgt it xs fp wr St ∧ St 0 h'

section
variable {C : Cx} {A : Around} {X : List Addr} {s : Shared}
theorem pull_of_walks {I : Addr} {fp wr : List Addr} {n : Nat} {P : Nat → Value → Prop} {St : Nat → Heap → Prop} {tgt : Expr} {xs : List PV} (W : Walks C.prog C.w A I fp wr n P St) (hn : n = xs.length)
    (R : Heap → Prop) (hR : ∀ h h', R h → Kp X h h' → R h') (hP : ∀ i x v h, xs[i]? = some x → P i v → R h → Rep h X x v) (hw : ∀ b ∈ wr, b ∈ X) (hnf : ∀ i h, St i h → ∀ b ∈ fp, NotF h b) (hap : ∀ i h, St i h → ∀ b ∈ wr, NotL h b)
    (hgo : ∀ v (i : Nat) (s : Shared), St i s.heap → wpAny C.M A (letOwnedTupleGo tgt (.ref I) v) (fun _ s' => s' = s) never s) :
    Pull C A X tgt (.ref I) xs fp wr (fun i h => St i h ∧ R h) where
  sub := W.sub
  frame := fun i h h' st k kp => ⟨W.frame i h h' st.1 fun b hb o e => k b hb o e (hnf i h st.1 b hb o e), hR h h' st.2 kp⟩
  item := fun i x s hx st hX => by
    have hi : i < n := by rw [hn]; exact (List.getElem?_eq_some_iff.mp hx).1
    refine W.item i s _ _ hi st.1 fun v h' tk hv st' hk => ?_
    refine ⟨v, rfl, wpAny_mono (hgo v (i + 1) _ st') (fun _ s' e => ?_) fun _ _ f => f.elim⟩
    subst e
    have hr' : R h' := hR _ _ st.2 fun a o ha _ e => hk a o (fun q => ha (hw a q)) e
    exact ⟨h', tk, rfl, fun b o hb e => hk b o hb e, ⟨st', hr'⟩, hP i x v h' hx hv hr'⟩
  done := fun s st => W.done s _ _ (by rw [hn]; exact st.1) fun h' tk hk => ⟨rfl, h', tk, rfl, fun b o hb e => hk b o hb e⟩
  apart := fun i h st => hap i h st.1
  self := fun i s st => W.self i s _ _ st.1 ⟨rfl, rfl⟩
end

end
end Mine
namespace Mine
section
open PySem.Calls

noncomputable def IsName (tgt : PySem.Expr) : Prop := ∃ x p, tgt = .Name x p
noncomputable def IsTupT (tgt : PySem.Expr) : Prop := ∃ es k p, tgt = .Tuple es k p

/-- what drawing from a value gives -/
noncomputable def Iter (C : Cx) (A : Around) (X : List Addr) (tgt : PySem.Expr) (xs : List PV) (s : Shared) : Value → Shared → Prop :=
  fun it s' => ∃ h' tk, s' = { s with heap := h', toks := tk } ∧ (∀ b o, s.heap.get? b = some o → h'.get? b = some o) ∧ Pulls C A X tgt xs s.heap it h'

section
variable {C : Cx} {A : Around} {X : List Addr} {s : Shared} {tgt : PySem.Expr}

theorem go_name (h : IsName tgt) {it v : Value} : wpAny C.M A (letOwnedTupleGo tgt it v) (fun _ s' => s' = s) never s := by
  obtain ⟨x, p, rfl⟩ := h
  exact wpAny_pure rfl
theorem go_list (h : IsName tgt ∨ IsTupT tgt) {I l : Addr} {i : Nat} {v : Value} (hit : s.heap.IsListIter I l i) : wpAny C.M A (letOwnedTupleGo tgt (.ref I) v) (fun _ s' => s' = s) never s := by
  rcases h with h | ⟨es, k, p, rfl⟩
  · exact go_name h
  · cases v with
    | ref T => exact wpAny_letOwnedTupleGo_listiter hit rfl
    | _ => exact wpAny_pure rfl

theorem iter_list (hA : A.handled = none) (ht : IsName tgt ∨ IsTupT tgt) {a : Addr} {vs : List Value} {xs : List PV} (hl : s.heap.IsList a vs.toArray) (ha : a ∉ X) (hr : RepL s.heap X xs vs) :
    wpAny C.M A (pyIter (.ref a)) (Iter C A X tgt xs s) never s := by
  obtain ⟨o, ho, hc, n, hd⟩ := id hl
  have hlt : a < s.heap.objs.size := Heap.lt_size ho
  refine wpAny_pyIter_list hl ⟨_, _, rfl, fun _ _ e => Heap.get?_push_of_some _ e, [s.heap.objs.size, a], [s.heap.objs.size], ?_, fun W hW => ⟨_,
    pull_of_walks (Walks.list hA s.heap.objs.size a (Nat.ne_of_lt hlt) vs.toArray) (by simp [hr.length]) (fun h => RepL h (W ++ ([s.heap.objs.size] ++ X)) xs vs) (fun _ _ r k => r.keep k) ?_ ?_ ?_ ?_ ?_, ⟨⟨⟨_, Heap.get?_push_size _ rfl, rfl, rfl⟩, hl.push _⟩, ((hr.grow fun b hb => by rw [List.mem_singleton.mp hb]; exact fresh_none (Nat.le_refl _)).keep fun _ _ _ _ e => Heap.get?_push_of_some _ e).grow hW⟩⟩⟩
  · refine ⟨fun b hb => ?_, fun b hb => ?_, fun b hb => ?_⟩
    · rw [List.mem_singleton.mp hb]; exact fresh_none (Nat.le_refl _)
    · rcases List.mem_cons.mp hb with rfl | hb
      · exact ⟨_, Heap.get?_push_size _ rfl⟩
      · rw [List.mem_singleton.mp hb]; exact ⟨o, Heap.get?_push_of_some _ ho⟩
    · rcases List.mem_cons.mp hb with rfl | hb
      · exact .inl (.head _)
      · rw [List.mem_singleton.mp hb]; exact .inr (.inl ⟨ha, o, Heap.get?_push_of_some _ ho, .inl hc, _, n, hd⟩)
  · intro i x v h hx hv r
    obtain ⟨u, e, hu⟩ := r.get hx
    have : v = u := by simpa [e] using hv.symm
    rw [this]; exact hu
  · exact fun b hb => List.mem_append_right _ (List.mem_append_left _ hb)
  · rintro i h ⟨⟨o', e1, e2, e3⟩, o4, e4, e5, n4, e6⟩ b hb
    rcases List.mem_cons.mp hb with rfl | hb
    · exact NotF.of e1 fun _ _ q => by rw [e3] at q; cases q
    · rw [List.mem_singleton.mp hb]; exact NotF.of e4 fun _ _ q => by rw [e6] at q; cases q
  · rintro i h ⟨⟨o', e1, e2, e3⟩, _⟩ b hb
    rw [List.mem_singleton.mp hb]
    refine NotL.of e1 (by rw [e2]; decide) fun vs q t hv => ?_
    rw [e3] at hv; cases hv; simp
  · exact fun v i s st => go_list ht st.1

theorem iter_tuple (hA : A.handled = none) (ht : IsName tgt) {a : Addr} {vs : List Value} {xs : List PV} (hl : s.heap.IsTuple a vs.toArray) (ha : a ∉ X) (hr : RepL s.heap X xs vs) :
    wpAny C.M A (pyIter (.ref a)) (Iter C A X tgt xs s) never s := by
  obtain ⟨o, ho, hc, n, hd⟩ := id hl
  have hlt : a < s.heap.objs.size := Heap.lt_size ho
  refine wpAny_pyIter_tuple hl ⟨_, _, rfl, fun _ _ e => Heap.get?_push_of_some _ e, [s.heap.objs.size, a], [s.heap.objs.size], ?_, fun W hW => ⟨_,
    pull_of_walks (Walks.tuple hA s.heap.objs.size a (Nat.ne_of_lt hlt) vs.toArray) (by simp [hr.length]) (fun h => RepL h (W ++ ([s.heap.objs.size] ++ X)) xs vs) (fun _ _ r k => r.keep k) ?_ ?_ ?_ ?_ ?_, ⟨⟨⟨_, Heap.get?_push_size _ rfl, rfl, rfl⟩, hl.push _⟩, ((hr.grow fun b hb => by rw [List.mem_singleton.mp hb]; exact fresh_none (Nat.le_refl _)).keep fun _ _ _ _ e => Heap.get?_push_of_some _ e).grow hW⟩⟩⟩
  · refine ⟨fun b hb => ?_, fun b hb => ?_, fun b hb => ?_⟩
    · rw [List.mem_singleton.mp hb]; exact fresh_none (Nat.le_refl _)
    · rcases List.mem_cons.mp hb with rfl | hb
      · exact ⟨_, Heap.get?_push_size _ rfl⟩
      · rw [List.mem_singleton.mp hb]; exact ⟨o, Heap.get?_push_of_some _ ho⟩
    · rcases List.mem_cons.mp hb with rfl | hb
      · exact .inl (.head _)
      · rw [List.mem_singleton.mp hb]; exact .inr (.inl ⟨ha, o, Heap.get?_push_of_some _ ho, .inr hc, _, n, hd⟩)
  · intro i x v h hx hv r
    obtain ⟨u, e, hu⟩ := r.get hx
    have : v = u := by simpa [e] using hv.symm
    rw [this]; exact hu
  · exact fun b hb => List.mem_append_right _ (List.mem_append_left _ hb)
  · rintro i h ⟨⟨o', e1, e2, e3⟩, o4, e4, e5, n4, e6⟩ b hb
    rcases List.mem_cons.mp hb with rfl | hb
    · exact NotF.of e1 fun _ _ q => by rw [e3] at q; cases q
    · rw [List.mem_singleton.mp hb]; exact NotF.of e4 fun _ _ q => by rw [e6] at q; cases q
  · rintro i h ⟨⟨o', e1, e2, e3⟩, _⟩ b hb
    rw [List.mem_singleton.mp hb]
    refine NotL.of e1 (by rw [e2]; decide) fun vs q t hv => ?_
    rw [e3] at hv; cases hv; simp
  · exact fun v i s st => go_name ht

/-- the items of a range -/
theorem iter_range (hA : A.handled = none) (ht : IsName tgt) {r : Addr} {a b c : Int} {t u v : Tok} (hr : IsRange s.heap r a b c t u v) (hs : Builtin.Range.small a b c = true) (h0 : 0 ≤ Builtin.Range.rangeSize a b c) :
    wpAny C.M A (pyIter (.ref r)) (Iter C A X tgt (zs (rng a c (Builtin.Range.rangeSize a b c).toNat)) s) never s := by
  refine wpAny_pyIter_range hr hs ⟨_, _, rfl, fun _ _ e => Heap.get?_push_of_some _ e, [s.heap.objs.size], [s.heap.objs.size], ?_, fun W hW => ⟨_,
    pull_of_walks (Walks.range hA s.heap.objs.size a c (Builtin.Range.rangeSize a b c).toNat) (by simp [rng]) (fun _ => True) (fun _ _ _ _ => trivial) ?_ ?_ ?_ ?_ ?_, ⟨?_, trivial⟩⟩⟩
  · refine ⟨fun b hb => ?_, fun b hb => ?_, fun b hb => ?_⟩
    · rw [List.mem_singleton.mp hb]; exact fresh_none (Nat.le_refl _)
    · rw [List.mem_singleton.mp hb]; exact ⟨_, Heap.get?_push_size _ rfl⟩
    · exact .inl hb
  · intro i x v h hx hv _
    obtain ⟨t, rfl⟩ := hv
    simp only [rng, List.map_map, List.getElem?_map, Option.map_eq_some_iff] at hx
    obtain ⟨j, hj, rfl⟩ := hx
    have : j = i := by
      rw [List.getElem?_range] at hj
      · cases hj; rfl
      · exact (by simpa using (List.getElem?_eq_some_iff.mp hj).1)
    subst this
    exact ⟨t, rfl⟩
  · exact fun b hb => List.mem_append_right _ (List.mem_append_left _ hb)
  · intro i h e1 b hb
    rw [List.mem_singleton.mp hb]
    exact NotF.of e1 fun _ _ q => by cases q
  · intro i h e1 b hb
    rw [List.mem_singleton.mp hb]
    refine NotL.of e1 (fun e => absurd (Value.type.inj e) (by decide)) fun vs q t hv => ?_
    cases hv; simp [rawInt]
  · exact fun v i s st => go_name ht
  · show IsRangeIter _ _ _ _ _
    have e2 : (((Builtin.Range.rangeSize a b c).toNat : Nat) : Int) = Builtin.Range.rangeSize a b c := by (first | lia | omega)
    rw [e2]
    simp only [Int.natCast_zero, Int.zero_mul, Int.add_zero, Int.sub_zero]
    exact Heap.get?_push_size _ rfl
end

end
end Mine
namespace Mine
section
open PySem.Calls

section
variable {C : Cx} {A : Around} {X : List Addr} {s : Shared} {tgt : PySem.Expr}

theorem call_reversed (hA : A.handled = none) (ht : IsName tgt) {a : Addr} {vs : List Value} {xs : List PV} (hl : s.heap.IsList a vs.toArray) (ha : a ∉ X) (hr : RepL s.heap X xs vs) :
    wpAny C.M A (call (.type "reversed") [.ref a]) (fun x s₁ => wpAny C.M A (pyIter x) (Iter C A X tgt xs.reverse s) never s₁) never s := by
  obtain ⟨o, ho, hc, n, hd⟩ := id hl
  have hlt : a < s.heap.objs.size := Heap.lt_size ho
  refine call_reversed_list hl ?_
  have hit : (s.heap.push (revObj a ((vs.toArray.size : Int) - 1))).IsRevIter s.heap.objs.size a ((vs.toArray.size : Int) - 1) := ⟨_, Heap.get?_push_size _ rfl, rfl, rfl⟩
  refine wpAny_pyIter_revIter hit ⟨_, _, rfl, fun _ _ e => Heap.get?_push_of_some _ e, [s.heap.objs.size, a], [s.heap.objs.size], ?_, fun W hW => ⟨_,
    pull_of_walks (Walks.listRev hA s.heap.objs.size a (Nat.ne_of_lt hlt) vs.toArray) (by simp [hr.length]) (fun h => RepL h (W ++ ([s.heap.objs.size] ++ X)) xs vs) (fun _ _ r k => r.keep k) ?_ ?_ ?_ ?_ ?_, ⟨⟨Nat.zero_le _, by simpa using hit, hl.push _⟩, ((hr.grow fun b hb => by rw [List.mem_singleton.mp hb]; exact fresh_none (Nat.le_refl _)).keep fun _ _ _ _ e => Heap.get?_push_of_some _ e).grow hW⟩⟩⟩
  · refine ⟨fun b hb => ?_, fun b hb => ?_, fun b hb => ?_⟩
    · rw [List.mem_singleton.mp hb]; exact fresh_none (Nat.le_refl _)
    · rcases List.mem_cons.mp hb with rfl | hb
      · exact ⟨_, Heap.get?_push_size _ rfl⟩
      · rw [List.mem_singleton.mp hb]; exact ⟨o, Heap.get?_push_of_some _ ho⟩
    · rcases List.mem_cons.mp hb with rfl | hb
      · exact .inl (.head _)
      · rw [List.mem_singleton.mp hb]; exact .inr (.inl ⟨ha, o, Heap.get?_push_of_some _ ho, .inl hc, _, n, hd⟩)
  · intro i x v h hx hv r
    have hi : i < xs.length := by simpa using (List.getElem?_eq_some_iff.mp hx).1
    rw [List.getElem?_reverse hi] at hx
    obtain ⟨u, e, hu⟩ := r.get hx
    have : v = u := by simpa [r.length, e] using hv.symm
    rw [this]; exact hu
  · exact fun b hb => List.mem_append_right _ (List.mem_append_left _ hb)
  · rintro i h ⟨_, ⟨o', e1, e2, e3⟩, o4, e4, e5, n4, e6⟩ b hb
    rcases List.mem_cons.mp hb with rfl | hb
    · exact NotF.of e1 fun _ _ q => by rw [e3] at q; cases q
    · rw [List.mem_singleton.mp hb]; exact NotF.of e4 fun _ _ q => by rw [e6] at q; cases q
  · rintro i h ⟨_, ⟨o', e1, e2, e3⟩, _⟩ b hb
    rw [List.mem_singleton.mp hb]
    refine NotL.of e1 (by rw [e2]; decide) fun vs q t hv => ?_
    rw [e3] at hv; cases hv; simp [rawInt]
  · exact fun v i s st => go_name ht

theorem pull_of_walksT {I : Addr} {fp wr : List Addr} {n : Nat} {Pt : Nat → Array Value → Prop} {St : Nat → Heap → Prop} {Mid : Nat → Addr → Heap → Prop} {es : List PySem.Expr} {k : Nat} {p : Pos} {xs : List PV}
    (W : WalksT C.prog C.w A I fp wr n Pt St Mid) (hn : n = xs.length)
    (R : Heap → Prop) (hR : ∀ h h', R h → Kp X h h' → R h') (hP : ∀ i x vals h, xs[i]? = some x → Pt i vals → R h → ∃ ys, x = .tup ys ∧ RepL h X ys vals.toList) (hw : ∀ b ∈ wr, b ∈ X) (hnf : ∀ i h, St i h → ∀ b ∈ fp, NotF h b) (hap : ∀ i h, St i h → ∀ b ∈ wr, NotL h b) :
    Pull C A X (.Tuple es k p) (.ref I) xs fp wr (fun i h => St i h ∧ R h) where
  sub := W.sub
  frame := fun i h h' st k kp => ⟨W.frame i h h' st.1 fun b hb o e => k b hb o e (hnf i h st.1 b hb o e), hR h h' st.2 kp⟩
  item := fun i x s hx st hX => by
    have hi : i < n := by rw [hn]; exact (List.getElem?_eq_some_iff.mp hx).1
    refine W.item i s _ _ hi st.1 fun T vals h' tk hv hT hTup hMid hk => ?_
    have kp : Kp X s.heap h' := fun a o ha _ e => hk a o (fun q => ha (hw a q)) e
    refine ⟨_, rfl, W.go es _ p i T _ _ _ hMid fun h'' st' hk' => ?_⟩
    have kp' : Kp X h' h'' := fun a o ha _ e => hk' a o (fun q => ha (hw a q)) e
    have hr := hR _ _ (hR _ _ st.2 kp) kp'
    obtain ⟨ys, rfl, hys⟩ := hP i x vals h'' hx hv hr
    refine ⟨h'', tk, rfl, fun b o hb e => hk' b o hb (hk b o hb e), ⟨st', hr⟩, T, vals.toList, rfl, fun q => ?_, ?_, hys⟩
    · obtain ⟨o, e⟩ := hX T q
      exact absurd (Heap.lt_size e) (Nat.not_lt.mpr hT)
    · exact hTup.at fun o e => hk' T o (W.apart _ _ _ hMid) e
  done := fun s st => W.done s _ _ (by rw [hn]; exact st.1) fun h' tk hk => ⟨rfl, h', tk, rfl, fun b o hb e => hk b o hb e⟩
  apart := fun i h st => hap i h st.1
  self := fun i s st => W.self i s _ _ st.1 ⟨rfl, rfl⟩

noncomputable def enumL (xs : List PV) : List PV := (List.range xs.length).zipWith (fun (i : Nat) x => .tup [.int i, x]) xs

theorem call_enumerate (hA : A.handled = none) {es : List PySem.Expr} {k : Nat} {p : Pos} {a : Addr} {vs : List Value} {xs : List PV} (hl : s.heap.IsList a vs.toArray) (ha : a ∉ X) (hr : RepL s.heap X xs vs) :
    wpAny C.M A (call (.type "enumerate") [.ref a]) (fun x s₁ => wpAny C.M A (pyIter x) (Iter C A X (.Tuple es k p) (enumL xs) s) never s₁) never s := by
  obtain ⟨o, ho, hc, n, hd⟩ := id hl
  have hlt : a < s.heap.objs.size := Heap.lt_size ho
  refine call_enumerate_list hl fun h' he hit hsz hk => ?_
  have hl' : h'.IsList a vs.toArray := hl.at fun o e => hk _ o e
  have fr2 : ∀ b ∈ [s.heap.objs.size + 1, s.heap.objs.size], s.heap.get? b = none := fun b hb => by
    rcases List.mem_cons.mp hb with rfl | hb
    · exact fresh_none (Nat.le_succ _)
    · rw [List.mem_singleton.mp hb]; exact fresh_none (Nat.le_refl _)
  refine wpAny_pyIter_enum he ⟨_, _, rfl, hk, [s.heap.objs.size + 1, s.heap.objs.size, a], [s.heap.objs.size + 1, s.heap.objs.size], ?_, fun W hW => ⟨_,
    pull_of_walksT (WalksT.enumerate hA (s.heap.objs.size + 1) s.heap.objs.size a (Nat.ne_of_gt (Nat.lt_succ_self _)) (Nat.ne_of_lt (Nat.lt_succ_of_lt hlt)) (Nat.ne_of_lt hlt) vs.toArray) (by simp [enumL, hr.length]) (fun h => RepL h (W ++ ([s.heap.objs.size + 1, s.heap.objs.size] ++ X)) xs vs) (fun _ _ r k => r.keep k) ?_ ?_ ?_ ?_, ⟨⟨⟨_, he⟩, hit, hl'⟩, ((hr.grow fr2).keep fun _ _ _ _ e => hk _ _ e).grow hW⟩⟩⟩
  · refine ⟨fun b hb => ?_, fun b hb => ?_, fun b hb => ?_⟩
    · rcases List.mem_cons.mp hb with rfl | hb
      · exact fresh_none (Nat.le_succ _)
      · rw [List.mem_singleton.mp hb]; exact fresh_none (Nat.le_refl _)
    · rcases List.mem_cons.mp hb with rfl | hb
      · exact ⟨_, he⟩
      · rcases List.mem_cons.mp hb with rfl | hb
        · obtain ⟨o', e', _⟩ := hit; exact ⟨o', e'⟩
        · rw [List.mem_singleton.mp hb]; exact ⟨o, hk _ _ ho⟩
    · rcases List.mem_cons.mp hb with rfl | hb
      · exact .inl (.head _)
      · rcases List.mem_cons.mp hb with rfl | hb
        · exact .inl (.tail _ (.head _))
        · rw [List.mem_singleton.mp hb]; exact .inr (.inl ⟨ha, o, hk _ _ ho, .inl hc, _, n, hd⟩)
  · rintro i x vals h hx ⟨t, v, hv, rfl⟩ r
    simp only [enumL, List.getElem?_zipWith] at hx
    have hv' : vs[i]? = some v := by simpa using hv
    obtain ⟨y, hy, hyr⟩ := r.get' hv'
    have hi : i < xs.length := (List.getElem?_eq_some_iff.mp hy).1
    rw [hy, List.getElem?_range hi] at hx
    cases hx
    exact ⟨_, rfl, _, _, rfl, ⟨t, rfl⟩, _, _, rfl, hyr, rfl⟩
  · exact fun b hb => List.mem_append_right _ (List.mem_append_left _ hb)
  · rintro i h ⟨⟨old, e1⟩, ⟨o', f1, f2, f3⟩, o4, e4, e5, n4, e6⟩ b hb
    rcases List.mem_cons.mp hb with rfl | hb
    · exact NotF.of e1 fun _ _ q => by cases q
    · rcases List.mem_cons.mp hb with rfl | hb
      · exact NotF.of f1 fun _ _ q => by rw [f3] at q; cases q
      · rw [List.mem_singleton.mp hb]; exact NotF.of e4 fun _ _ q => by rw [e6] at q; cases q
  · rintro i h ⟨⟨old, e1⟩, ⟨o', f1, f2, f3⟩, _⟩ b hb
    rcases List.mem_cons.mp hb with rfl | hb
    · refine NotL.of e1 (fun e => absurd (Value.type.inj e) (by decide)) fun vs q t hv => ?_
      cases hv; simp
    · rw [List.mem_singleton.mp hb]
      refine NotL.of f1 (by rw [f2]; decide) fun vs q t hv => ?_
      rw [f3] at hv; cases hv; simp

end

end
end Mine
set_option genSizeOf false
set_option genSizeOfSpec false
namespace Mine
section
open PySem.Calls
set_option backward.match.sparseCases false

inductive Tgt where
  | one (i : Nat) | many (is : List Nat)
  deriving Inhabited
inductive Bind where
  | undef | val (x : PV) | own (xs : List PV) | own2 (xss : List (List Int))
  deriving Inhabited
noncomputable abbrev PEnv := List Bind
noncomputable section
noncomputable def get : PEnv → Nat → Bind
  | [], _ => .undef
  | b :: _, 0 => b
  | _ :: ρ, i + 1 => get ρ i
noncomputable def put : PEnv → Nat → Bind → PEnv
  | [], 0, b => [b]
  | [], i + 1, b => .undef :: put [] i b
  | _ :: ρ, 0, b => b :: ρ
  | c :: ρ, i + 1, b => c :: put ρ i b
theorem get_nil (i : Nat) : get [] i = .undef := by cases i <;> rfl
theorem get_put (b : Bind) : ∀ (ρ : PEnv) (i j : Nat), get (put ρ i b) j = if j = i then b else get ρ j
  | [], 0, 0 => rfl
  | [], 0, j + 1 => by rw [if_neg (Nat.succ_ne_zero j)]; exact (get_nil j).trans (get_nil _).symm
  | [], i + 1, 0 => by rw [if_neg (Nat.succ_ne_zero i).symm]; rfl
  | [], i + 1, j + 1 => by
    show get (put [] i b) j = _
    rw [get_put b [] i j, get_nil, get_nil]
    simp only [Nat.succ.injEq]
  | _ :: ρ, 0, 0 => rfl
  | _ :: ρ, 0, j + 1 => by rw [if_neg (Nat.succ_ne_zero j)]; rfl
  | _ :: ρ, i + 1, 0 => by rw [if_neg (Nat.succ_ne_zero i).symm]; rfl
  | _ :: ρ, i + 1, j + 1 => by
    show get (put ρ i b) j = if j + 1 = i + 1 then b else get ρ j
    rw [get_put b ρ i j]
    simp only [Nat.succ.injEq]
theorem get_same (b : Bind) (ρ : PEnv) (i : Nat) : get (put ρ i b) i = b := by rw [get_put, if_pos rfl]
theorem get_other {b : Bind} {ρ : PEnv} {i j : Nat} (h : j ≠ i) : get (put ρ i b) j = get ρ j := by rw [get_put, if_neg h]
noncomputable def puts : PEnv → List Nat → List PV → PEnv
  | ρ, i :: is, x :: xs => puts (put ρ i (.val x)) is xs
  | ρ, _, _ => ρ
noncomputable def asT : PV → List PV
  | .tup xs => xs
  | _ => []
noncomputable def asL : PV → List PV
  | .lst xs => xs
  | _ => []
noncomputable def asI : PV → Int
  | .int i => i
  | _ => 0
noncomputable def isI : PV → Prop
  | .int _ => True
  | _ => False
noncomputable def isL : PV → Prop
  | .lst _ => True
  | _ => False
noncomputable def isT : PV → Prop
  | .tup _ => True
  | _ => False
theorem isI.eq {x : PV} (h : isI x) : x = .int (asI x) := by cases x <;> first | rfl | cases h
theorem isL.eq {x : PV} (h : isL x) : x = .lst (asL x) := by cases x <;> first | rfl | cases h
theorem isT.eq {x : PV} (h : isT x) : x = .tup (asT x) := by cases x <;> first | rfl | cases h
noncomputable def bindT : Tgt → PV → PEnv → PEnv
  | .one i, x, ρ => put ρ i (.val x)
  | .many is, x, ρ => puts ρ is (asT x)
noncomputable def kbind : Tgt → PV → Prop
  | .one _, _ => True
  | .many is, x => isT x ∧ is.length = (asT x).length
noncomputable def Tgt.ids : Tgt → List Nat
  | .one i => [i]
  | .many is => is
noncomputable def Tgt.isOne : Tgt → Bool
  | .one _ => true
  | .many _ => false
noncomputable def eraseI : List Nat → PEnv → PEnv
  | [], ρ => ρ
  | i :: is, ρ => eraseI is (put ρ i .undef)
theorem get_eraseI (j : Nat) : ∀ (is : List Nat) (ρ : PEnv), get (eraseI is ρ) j = if j ∈ is then .undef else get ρ j
  | [], ρ => rfl
  | i :: is, ρ => by
    show get (eraseI is (put ρ i .undef)) j = _
    rw [get_eraseI j is, get_put]
    by_cases h : j = i
    · subst h; simp
    · by_cases h2 : j ∈ is <;> simp [h, h2]
noncomputable def keepG (ks : List Nat) : Nat → PEnv → PEnv
  | _, [] => []
  | i, b :: ρ => cond (ks.contains i) b .undef :: keepG ks (i + 1) ρ
/-- a block's free names alone -/
noncomputable def keepI (ks : List Nat) (ρ : PEnv) : PEnv := keepG ks 0 ρ
theorem get_keepG (ks : List Nat) : ∀ (ρ : PEnv) (i j : Nat), get (keepG ks i ρ) j = cond (ks.contains (i + j)) (get ρ j) .undef
  | [], i, j => by
    unfold keepG
    rw [get_nil]
    cases ks.contains (i + j) <;> rfl
  | b :: ρ, i, 0 => rfl
  | b :: ρ, i, j + 1 => by
    show get (keepG ks (i + 1) ρ) j = _
    rw [get_keepG ks ρ (i + 1) j, Nat.add_assoc, Nat.add_comm 1 j]
    rfl
theorem get_keepI (ks : List Nat) (ρ : PEnv) (j : Nat) : get (keepI ks ρ) j = cond (ks.contains j) (get ρ j) .undef := (get_keepG ks ρ 0 j).trans (by rw [Nat.zero_add])
noncomputable def valB : Bind → PV
  | .val x => x
  | _ => .none
noncomputable def isV : Bind → Prop
  | .val _ => True
  | _ => False
theorem isV.eq {b : Bind} (h : isV b) : b = .val (valB b) := by cases b <;> first | rfl | cases h

-- operators, total
noncomputable def iop : Operator → Int → Int → Int
  | .Add, a, b => a + b
  | .Sub, a, b => a - b
  | .Mult, a, b => a * b
  | .FloorDiv, a, b => a.fdiv b
  | .Mod, a, b => a.fmod b
  | .LShift, a, n => a * 2 ^ n.toNat
  | .RShift, a, n => a.fdiv (2 ^ n.toNat)
  | .Pow, a, n => a ^ n.toNat
  | .BitAnd, a, b => Builtin.bitAnd a b
  | .BitOr, a, b => Builtin.bitOr a b
  | .BitXor, a, b => Builtin.bitXor a b
  | _, _, _ => 0
noncomputable def vop : Operator → PV → PV → PV
  | op, .int a, .int b => .int (iop op a b)
  | .Add, .lst xs, .lst ys => .lst (xs ++ ys)
  | .Mult, .lst xs, .int n => .lst (List.replicate n.toNat xs).flatten
  | _, _, _ => .none
noncomputable def kop (op : Operator) (x y : PV) : Prop := binop op x y = some (vop op x y)
noncomputable def vun : UnaryOp → PV → PV
  | .USub, .int a => .int (-a)
  | .Invert, .int a => .int (Builtin.bitNot a)
  | _, _ => .none
noncomputable def kun (op : UnaryOp) (x : PV) : Prop := unop op x = some (vun op x)
noncomputable def eqB (x y : PV) : Bool := (eqP x y).getD false
noncomputable def vcmp : CmpOp → PV → PV → Bool
  | .Lt, .int a, .int b => decide (a < b)
  | .LtE, .int a, .int b => decide (a ≤ b)
  | .Gt, .int a, .int b => decide (b < a)
  | .GtE, .int a, .int b => decide (b ≤ a)
  | .Eq, .int a, .int b => a == b
  | .NotEq, .int a, .int b => a != b
  | .Eq, x, y => eqB x y
  | .NotEq, x, y => !eqB x y
  | _, _, _ => false
noncomputable def kcmp (op : CmpOp) (x y : PV) : Prop := cmpop op x y = some (vcmp op x y)
noncomputable def tv : PV → Bool
  | .int i => i != 0
  | .bool b => b
  | .lst xs => !xs.isEmpty
  | _ => false
noncomputable def tk (x : PV) : Prop := tru x = some (tv x)
noncomputable def seqV : PV → Bool × List PV
  | .lst xs => (false, xs)
  | .tup xs => (true, xs)
  | _ => (false, [])
noncomputable def isS : PV → Prop
  | .lst _ => True
  | .tup _ => True
  | _ => False
noncomputable def seqB : Bind → Bool × List PV
  | .val x => seqV x
  | .own xs => (false, xs)
  | _ => (false, [])
noncomputable def isSB : Bind → Prop
  | .val x => isS x
  | .own _ => True
  | _ => False
noncomputable def allP {α : Type} (p : α → Prop) : List α → Prop
  | [] => True
  | x :: xs => p x ∧ allP p xs
theorem allP.mem {α : Type} {p : α → Prop} : ∀ {xs : List α}, allP p xs → ∀ x ∈ xs, p x
  | _ :: _, h, _, .head _ => h.1
  | _ :: _, h, _, .tail _ q => allP.mem h.2 _ q
theorem allP.of {α : Type} {p : α → Prop} : ∀ {xs : List α}, (∀ x ∈ xs, p x) → allP p xs
  | [], _ => trivial
  | x :: xs, h => ⟨h x (.head _), allP.of fun y q => h y (.tail _ q)⟩
theorem ints_eq : ∀ {xs : List PV}, allP isI xs → xs = zs (xs.map asI)
  | [], _ => rfl
  | x :: xs, h => by
    have e := ints_eq h.2
    show x :: xs = .int (asI x) :: zs (xs.map asI)
    rw [← e, ← h.1.eq]

-- the machine's steps
noncomputable abbrev Sh (s : Shared) (h : Heap) (tk : Nat) : Shared := { s with heap := h, toks := tk }
noncomputable def T {α : Type} (C : Cx) (s : Shared) (h : Heap) (P : α → Heap → Prop) : α → Shared → Prop := fun a s' => ∃ h' tk, s' = Sh s h' tk ∧ Ext C.Ps h h' ∧ TabsOk C h' ∧ P a h'
noncomputable def W {α : Type} (C : Cx) (A : Around) (m : Sem α) (h : Heap) (P : α → Heap → Prop) : Prop := ∀ (s : Shared) (tk : Nat), wpAny C.M A m (T C s h P) never (Sh s h tk)
section
variable {C : Cx} {A : Around} {α β : Type} {m : Sem α} {h h' : Heap} {P Q : α → Heap → Prop}
theorem T.mk {s : Shared} {tk : Nat} {a : α} (k : Ext C.Ps h h') (t : TabsOk C h') (p : P a h') : T C s h P a (Sh s h' tk) := ⟨h', tk, rfl, k, t, p⟩
theorem T.later {s : Shared} {a : α} {s' : Shared} (k : Ext C.Ps h h') (x : T C s h' P a s') : T C s h P a s' := let ⟨h'', tk, e, k', t, p⟩ := x; ⟨h'', tk, e, k.trans k', t, p⟩
theorem T.imp {s : Shared} {a : α} {s' : Shared} (x : T C s h P a s') (f : ∀ h', Ext C.Ps h h' → TabsOk C h' → P a h' → Q a h') : T C s h Q a s' := let ⟨h'', tk, e, k', t, p⟩ := x; ⟨h'', tk, e, k', t, f _ k' t p⟩
/-- go on behind a step -/
theorem W.go (a : W C A m h P) {s : Shared} {tk : Nat} {Z : α → Shared → Prop} {E : Value → Shared → Prop} (b : ∀ x h' tk, Ext C.Ps h h' → TabsOk C h' → P x h' → Z x (Sh s h' tk)) : wpAny C.M A m Z E (Sh s h tk) :=
  wpAny_mono (a s tk) (fun x _ ⟨h', tk', e, k, t, p⟩ => e ▸ b x h' tk' k t p) fun _ _ f => f.elim
theorem W.imp (a : W C A m h P) (f : ∀ x h', Ext C.Ps h h' → TabsOk C h' → P x h' → Q x h') : W C A m h Q := fun s tk => wpAny_mono (a s tk) (fun x _ y => y.imp (f x)) fun _ _ f => f
end

/-- what the text's own functions give, and that they may be called -/
noncomputable def ConAt (C : Cx) (D U : Nat) (f : Addr) (pvs : List PV) (r : PV) : Prop :=
  keepIn C.K (.ref f) = true ∧ ∀ (A : Around) (e₀ : Env) (h₀ h : Heap) (args : List Value) (X : List Addr), Act C A e₀ h₀ h → A.depth + D < recursionLimit → A.units + U < cLine → (∀ a ∈ X, ∃ o, h.get? a = some o) → RepL h X pvs args →
    W C A (call (.ref f) args) h fun v h' => Rep h' X r v
theorem ConAt.mono {C : Cx} {D U D' U' : Nat} {f : Addr} {pvs : List PV} {r : PV} (h : ConAt C D U f pvs r) (hD : D ≤ D') (hU : U ≤ U') : ConAt C D' U' f pvs r :=
  ⟨h.1, fun A e₀ h₀ g args X a d u x r => h.2 A e₀ h₀ g args X a (Nat.lt_of_le_of_lt (Nat.add_le_add_left hD _) d) (Nat.lt_of_le_of_lt (Nat.add_le_add_left hU _) u) x r⟩
/-- what the global names stand for -/
noncomputable def GOk (C : Cx) (G : Str → Option Value) : Prop := ∀ x v, G x = some v → C.mg x = some v ∨ (C.mg x = none ∧ C.mb x = some v)
/-- what stays throughout a function's body -/
structure Fx where
  C : Cx
  nm : List Str
  G : Str → Option Value
  V : Addr → List PV → PV
  K : Addr → List PV → Prop
  D : Nat
  U : Nat
  hG : GOk C G
  hF : ∀ f xs, K f xs → ConAt C D U f xs (V f xs)
  h64 : 64 ≤ U

noncomputable def varOf (nm : List Str) (x : Str) : Option Nat := match nm.findIdx? (· == x) with
  | some i => if nm[i]? = some x then some i else none
  | none => none
/-- lists of ints, each at its place -/
noncomputable def Rows (h : Heap) : List (List Int) → List Addr → Prop
  | [], as => as = []
  | xs :: xss, as => ∃ (b : Addr) (bs : List Addr) (vs : List Value), as = b :: bs ∧ h.PlainList b vs.toArray ∧ IntsAre vs xs ∧ Rows h xss bs
theorem Rows.imp {h h' : Heap} : ∀ {xss : List (List Int)} {as : List Addr}, (∀ b ∈ as, ∀ vs, h.PlainList b vs → h'.PlainList b vs) → Rows h xss as → Rows h' xss as
  | [], _, _, r => r
  | _ :: _, _, k, r => by
    obtain ⟨b, bs, vs, rfl, p, q, r⟩ := r
    exact ⟨b, bs, vs, rfl, k b (.head _) _ p, q, r.imp fun c hc => k c (.tail _ hc)⟩
theorem Rows.length {h : Heap} : ∀ {xss : List (List Int)} {as : List Addr}, Rows h xss as → as.length = xss.length
  | [], _, r => by cases r; rfl
  | _ :: _, _, r => by
    obtain ⟨b, bs, vs, rfl, _, _, r⟩ := r
    rw [List.length_cons, List.length_cons, r.length]
noncomputable def HoldsB (X : List Addr) (h : Heap) : Bind → Value → Prop
  | .undef, _ => True
  | .val pv, v => Rep h X pv v
  | .own xs, v => ∃ (a : Addr) (vs : List Value), v = .ref a ∧ h.PlainList a vs.toArray ∧ RepL h X xs vs
  | .own2 xss, v => ∃ (a : Addr) (as : List Addr), v = .ref a ∧ h.PlainList a (as.map Value.ref).toArray ∧ Rows h xss as
noncomputable def vis (k : NameKind) : Bool := k == .local || k == .cell || k == .free
noncomputable def EOk (nm : List Str) (sc : Scope) (env : Env) (ρ : PEnv) (X : List Addr) (h : Heap) : Prop :=
  ∀ i x k, varOf nm x = some i → sc.names.lookup x = some k → vis k = true → get ρ i ≠ .undef → ∃ v, Slot env x h v ∧ HoldsB X h (get ρ i) v
/-- all that an expression's meaning leans on -/
structure XC (Γ : Fx) (A : Around) (e₀ : Env) (h₀ : Heap) (sc : Scope) (env : Env) (ρ : PEnv) (X : List Addr) (h : Heap) : Prop where
  act : Act Γ.C A e₀ h₀ h
  dep : A.depth + Γ.D < recursionLimit
  unt : A.units + Γ.U < cLine
  en : EnvOk Γ.C sc env h
  vars : EOk Γ.nm sc env ρ X h
  alloc : ∀ a ∈ X, ∃ o, h.get? a = some o
  own0 : h₀.get? env.locals = none ∧ ∀ x c, sc.names.lookup x = some .cell → env.cells.lookup x = some c → h₀.get? c = none
section
variable {Γ : Fx} {C : Cx} {A : Around} {e₀ : Env} {h₀ : Heap} {sc : Scope} {env : Env} {ρ : PEnv} {X : List Addr} {h h' : Heap}
theorem plain_ext (t : TabsOk C h) (k : Ext C.Ps h h') {a : Addr} {xs : Array Value} (l : h.PlainList a xs) : h'.PlainList a xs := let ⟨n, ho⟩ := l; ⟨n, k.at (t.notP ho (by nofun)) ho fun _ _ q => by cases q⟩
theorem HoldsB.ext {v : Value} (t : TabsOk C h) (k : Ext C.Ps h h') : ∀ {b : Bind}, HoldsB X h b v → HoldsB X h' b v
  | .undef, _ => trivial
  | .val _, r => Rep.ext r t k
  | .own _, ⟨a, vs, s, l, r⟩ => ⟨a, vs, s, plain_ext t k l, RepL.ext r t k⟩
  | .own2 _, ⟨a, as, s, l, r⟩ => ⟨a, as, s, plain_ext t k l, r.imp fun _ _ _ => plain_ext t k⟩
theorem HoldsB.avoid {X' : List Addr} {v : Value} (k : ∀ a ∈ X', a ∈ X ∨ h.get? a = none) : ∀ {b : Bind}, HoldsB X h b v → HoldsB X' h b v
  | .undef, _ => trivial
  | .val _, r => Rep.avoid k r
  | .own _, ⟨a, vs, s, l, r⟩ => ⟨a, vs, s, l, RepL.avoid k r⟩
  | .own2 _, r => r
theorem XC.step (x : XC Γ A e₀ h₀ sc env ρ X h) (k : Ext Γ.C.Ps h h') (t : TabsOk Γ.C h') : XC Γ A e₀ h₀ sc env ρ X h' :=
  { x with
    act := x.act.step k t
    en := x.en.ext x.act.tab k
    vars := fun i y kd h1 h2 h3 h4 => let ⟨v, s, r⟩ := x.vars i y kd h1 h2 h3 h4; ⟨v, s.ext x.act.tab k, r.ext x.act.tab k⟩
    alloc := fun a ha => by
      by_cases hp : a ∈ Γ.C.Ps
      · obtain ⟨ps, e⟩ := t.obj hp; exact ⟨_, e⟩
      · exact k.some a hp (x.alloc a ha) }
theorem fresh_back (t : TabsOk C h') (k : Ext C.Ps h h') {a : Addr} (e : h'.get? a = none) : h.get? a = none := by
  cases q : h.get? a with
  | none => rfl
  | some o =>
    by_cases hp : a ∈ C.Ps
    · obtain ⟨ps, e'⟩ := t.obj hp
      rw [e] at e'; cases e'
    · obtain ⟨_, e1, _⟩ := k _ _ hp q
      rw [e] at e1; cases e1
end
end

end
end Mine
namespace Mine
section
open PySem.Calls
set_option backward.match.sparseCases false
section
variable (Γ : Fx) (sc : Scope)
/-- an expression's value -/
noncomputable def Good (e : PySem.Expr) (nw : Bool) (v : PEnv → PV) (k : PEnv → Prop) : Prop := ∀ ρ A e₀ h₀ env X h, k ρ → XC Γ A e₀ h₀ sc env ρ X h → W Γ.C A (eval e env) h fun u h' => Rep h' X (v ρ) u ∧ (nw = true → New h u h')
/-- its truth -/
noncomputable def GoodT (e : PySem.Expr) (t : PEnv → Bool) (k : PEnv → Prop) : Prop := ∀ ρ A e₀ h₀ env X h, k ρ → XC Γ A e₀ h₀ sc env ρ X h → W Γ.C A (isTrue e env (eval e env)) h fun c _ => c = t ρ
/-- its items -/
noncomputable def GoodB (e : PySem.Expr) (b : PEnv → Bool × List PV) (k : PEnv → Prop) : Prop := ∀ ρ A e₀ h₀ env X h, k ρ → XC Γ A e₀ h₀ sc env ρ X h → W Γ.C A (eval e env) h fun u h' => ∃ a vs, u = .ref a ∧ isSeq h' (b ρ).1 a vs ∧ RepL h' X (b ρ).2 vs
/-- what a for draws -/
noncomputable def GoodS (one : Bool) (e : PySem.Expr) (f : PEnv → List PV) (k : PEnv → Prop) : Prop := ∀ ρ A e₀ h₀ env X h tgt, (if one then IsName tgt else IsTupT tgt) → k ρ → XC Γ A e₀ h₀ sc env ρ X h →
  ∀ s tk, wpAny Γ.C.M A (eval e env) (fun x s₁ => wpAny Γ.C.M A (pyIter x) (T Γ.C s h fun it h' => Pulls Γ.C A X tgt (f ρ) h it h') never s₁) never (Sh s h tk)
noncomputable def noStar (e : PySem.Expr) : Prop := ∀ e' p, e ≠ .Starred e' p
/-- several, one after another -/
structure GoodL (es : List PySem.Expr) (vs : PEnv → List PV) (k : PEnv → Prop) : Prop where
  plain : ∀ pos env, (backTo pos (starEach es env)).any (·.1) = false
  run : ∀ pos ρ A e₀ h₀ env X h, k ρ → XC Γ A e₀ h₀ sc env ρ X h → W Γ.C A (spliced (backTo pos (starEach es env))) h fun us h' => RepL h' X (vs ρ) us
  args : ∀ f pos ρ A e₀ h₀ env X h, k ρ → XC Γ A e₀ h₀ sc env ρ X h → W Γ.C A (evalArgs f true (backTo pos (starEach es env)) []) h fun a h' => a.kw = [] ∧ RepL h' X (vs ρ) a.pos
  len : ∀ ρ, (vs ρ).length = es.length
end
section
variable {Γ : Fx} {C : Cx} {sc : Scope} {A : Around} {X : List Addr} {h : Heap} {l r : PySem.Expr} {na nb : Bool} {va vb : PEnv → PV} {ka kb : PEnv → Prop}
theorem starEach_cons {e : PySem.Expr} {es : List PySem.Expr} {env : Env} (h : noStar e) : starEach (e :: es) env = (false, eval e env) :: starEach es env := by
  cases e <;> first | rfl | exact absurd rfl (h _ _)
theorem isSeq.ext {h h' : Heap} (t : TabsOk C h) (k : Ext C.Ps h h') : ∀ {T : Bool} {a : Addr} {vs : List Value}, isSeq h T a vs → isSeq h' T a vs
  | false, _, _, ⟨o, ho, hc, n⟩ => ⟨o, k.at (t.notP ho (by rw [hc]; nofun)) ho (fun _ _ q => by obtain ⟨n, n⟩ := n; rw [n] at q; cases q), hc, n⟩
  | true, _, _, ⟨o, ho, hc, n⟩ => ⟨o, k.at (t.notP ho (by rw [hc]; nofun)) ho (fun _ _ q => by obtain ⟨n, n⟩ := n; rw [n] at q; cases q), hc, n⟩
/-- what came of a step that keeps all, told at the start -/
theorem got_T {h' : Heap} {s : Shared} {tk : Nat} {z : PV} {v : Value} {s' : Shared} {nw : Bool} (k : Ext C.Ps h h') (t : TabsOk C h') (g : Got (Sh s h' tk) X z v s') : T C s h (fun v h' => Rep h' X z v ∧ (nw = true → New h v h')) v s' := by
  obtain ⟨h'', tk', rfl, k', r, f⟩ := g
  exact T.mk (k.trans (.of_keep k')) (t.keeps k') ⟨r, fun _ a ha => ⟨fresh_back t k (f a ha).1, (f a ha).2⟩⟩
theorem un64 {e₀ : Env} {h₀ : Heap} {env : Env} {ρ : PEnv} (c : XC Γ A e₀ h₀ sc env ρ X h) : A.units + 64 < cLine := Nat.lt_of_le_of_lt (Nat.add_le_add_left Γ.h64 _) c.unt

theorem g_bin {op : Operator} {p : Pos} (ha : Good Γ sc l na va ka) (hb : Good Γ sc r nb vb kb) : Good Γ sc (.BinOp l op r p) true (fun ρ => vop op (va ρ) (vb ρ)) (fun ρ => ka ρ ∧ kb ρ ∧ kop op (va ρ) (vb ρ)) :=
  fun ρ A e₀ h₀ env X h k c s tk => wpAny_BinOp ((ha ρ A e₀ h₀ env X h k.1 c).go fun v h1 _ k1 t1 r1 => (hb ρ A e₀ h₀ env X h1 k.2.1 (c.step k1 t1)).go fun u h2 tk2 k2 t2 r2 =>
    wpAny_mono (binop_ok (s := Sh s h2 tk2) ((c.step k1 t1).step k2 t2).alloc (r1.1.ext t1 k2) r2.1 k.2.2) (fun _ _ g => got_T (k1.trans k2) t2 g) fun _ _ f => f.elim)
theorem g_un {op : UnaryOp} {p : Pos} (ha : Good Γ sc l na va ka) : Good Γ sc (.UnaryOp op l p) true (fun ρ => vun op (va ρ)) (fun ρ => ka ρ ∧ kun op (va ρ)) :=
  fun ρ A e₀ h₀ env X h k c s tk => by
    rw [arm_eval_UnaryOp]
    exact wpAny_bind ((ha ρ A e₀ h₀ env X h k.1 c).go fun v h1 tk1 k1 t1 r1 => wpAny_bind (wpAny_standAt (wpAny_holding (wpAny_mono (unop_ok (s := Sh s h1 tk1) r1.1 k.2) (fun _ _ g => got_T k1 t1 g) fun _ _ f => f.elim))))
noncomputable def noSet : PySem.Expr → Bool
  | .Set .. => false
  | _ => true
theorem noSet_marks {op : CmpOp} {r : PySem.Expr} (hs : noSet r = true) : behindInMarks op r = false := by cases r <;> first | rfl | cases hs
theorem g_cmp {op : CmpOp} {p : Pos} (hs : noSet r = true) (ha : Good Γ sc l na va ka) (hb : Good Γ sc r nb vb kb) : Good Γ sc (.Compare l [op] [r] p) false (fun ρ => .bool (vcmp op (va ρ) (vb ρ))) (fun ρ => ka ρ ∧ kb ρ ∧ kcmp op (va ρ) (vb ρ)) :=
  fun ρ A e₀ h₀ env X h k c s tk => wpAny_Compare1 ((ha ρ A e₀ h₀ env X h k.1 c).go fun v h1 _ k1 t1 r1 => (hb ρ A e₀ h₀ env X h1 k.2.1 (c.step k1 t1)).go fun u h2 tk2 k2 t2 r2 =>
    cmpop_ok (s := Sh s h2 tk2) (un64 c) (r1.1.ext t1 k2) r2.1 k.2.2 (T.mk (k1.trans k2) t2 ⟨rfl, nofun⟩)) (noSet_marks hs)
theorem t_cmp {op : CmpOp} {p : Pos} (hs : noSet r = true) (ha : Good Γ sc l na va ka) (hb : Good Γ sc r nb vb kb) : GoodT Γ sc (.Compare l [op] [r] p) (fun ρ => vcmp op (va ρ) (vb ρ)) (fun ρ => ka ρ ∧ kb ρ ∧ kcmp op (va ρ) (vb ρ)) :=
  fun ρ A e₀ h₀ env X h k c s tk => wpAny_isTrue_Compare1 ((ha ρ A e₀ h₀ env X h k.1 c).go fun v h1 _ k1 t1 r1 => (hb ρ A e₀ h₀ env X h1 k.2.1 (c.step k1 t1)).go fun u h2 tk2 k2 t2 r2 =>
    cmpop_ok (s := Sh s h2 tk2) (un64 c) (r1.1.ext t1 k2) r2.1 k.2.2 (wpAny_truthy_bool (T.mk (k1.trans k2) t2 rfl))) (noSet_marks hs)
/-- a value's truth -/
noncomputable def isTruePlain (e : PySem.Expr) : Prop := ∀ env, isTrue e env (eval e env) = (do let v ← eval e env; standAt e.pos; holding [v] (truthy v))
theorem t_val (hp : isTruePlain l) (ha : Good Γ sc l na va ka) : GoodT Γ sc l (fun ρ => tv (va ρ)) (fun ρ => ka ρ ∧ tk (va ρ)) :=
  fun ρ A e₀ h₀ env X h k c s tk => wpAny_isTrue_value ((ha ρ A e₀ h₀ env X h k.1 c).go fun v h1 tk1 k1 t1 r1 => wpAny_mono (tru_ok (s := Sh s h1 tk1) r1.1 k.2) (fun _ _ ⟨e, h2, tk2, e2, k2⟩ => e2 ▸ T.mk (k1.trans (.of_keep k2)) (t1.keeps k2) e) fun _ _ f => f.elim) (hp env)
theorem t_or_nil {A : Around} : ∀ {ρ : PEnv} {e₀ : Env} {h₀ : Heap} {env : Env} {X : List Addr} {h : Heap}, XC Γ A e₀ h₀ sc env ρ X h → W Γ.C A (allTrue .Or [] env) h fun c _ => c = false := fun c _ _ => wpAny_allTrue_Or_nil (T.mk (.refl _ _) c.act.tab rfl)
/-- an or, as a test -/
noncomputable def GoodO (es : List PySem.Expr) (t : PEnv → Bool) (k : PEnv → Prop) (Γ : Fx) (sc : Scope) : Prop := ∀ ρ A e₀ h₀ env X h, k ρ → XC Γ A e₀ h₀ sc env ρ X h → W Γ.C A (allTrue .Or es env) h fun c _ => c = t ρ
theorem o_nil : GoodO [] (fun _ => false) (fun _ => True) Γ sc := fun _ _ _ _ _ _ _ _ c => t_or_nil c
theorem o_cons {e : PySem.Expr} {es : List PySem.Expr} {t u : PEnv → Bool} (ha : GoodT Γ sc e t ka) (hb : GoodO es u kb Γ sc) : GoodO (e :: es) (fun ρ => t ρ || u ρ) (fun ρ => ka ρ ∧ (t ρ = false → kb ρ)) Γ sc :=
  fun ρ A e₀ h₀ env X h k c s tk => wpAny_allTrue_Or_cons ((ha ρ A e₀ h₀ env X h k.1 c).go fun b h1 tk1 k1 t1 r1 => by
    cases b with
    | true =>
      show T Γ.C s h (fun c _ => c = (t ρ || u ρ)) true (Sh s h1 tk1)
      exact T.mk k1 t1 (by rw [← r1]; rfl)
    | false => exact wpAny_mono (hb ρ A e₀ h₀ env X h1 (k.2 r1.symm) (c.step k1 t1) s tk1) (fun _ _ y => (y.later k1).imp fun _ _ _ q => by
        show _ = (t ρ || u ρ)
        rw [q, ← r1]; rfl) fun _ _ f => f.elim)

theorem l_nil : GoodL Γ sc [] (fun _ => []) (fun _ => True) where
  plain := fun _ _ => rfl
  run := fun _ _ _ _ _ _ _ _ _ c _ _ => Calls.spliced_nil (T.mk (.refl _ _) c.act.tab rfl)
  args := fun _ _ _ _ _ _ _ _ _ _ c _ _ => evalArgs_nil3 (T.mk (.refl _ _) c.act.tab ⟨rfl, rfl⟩)
  len := fun _ => rfl
theorem l_cons {e : PySem.Expr} {es : List PySem.Expr} {vs : PEnv → List PV} (hs : noStar e) (ha : Good Γ sc e na va ka) (hb : GoodL Γ sc es vs kb) : GoodL Γ sc (e :: es) (fun ρ => va ρ :: vs ρ) (fun ρ => ka ρ ∧ kb ρ) :=
  have run : ∀ pos ρ A e₀ h₀ env X h, (ka ρ ∧ kb ρ) → XC Γ A e₀ h₀ sc env ρ X h → W Γ.C A (spliced (backTo pos (starEach (e :: es) env))) h fun us h' => RepL h' X (va ρ :: vs ρ) us := fun pos ρ A e₀ h₀ env X h k c s tk => by
    rw [starEach_cons hs]
    exact Calls.spliced_cons ((ha ρ A e₀ h₀ env X h k.1 c).go fun v h1 tk1 k1 t1 r1 => (hb.run pos ρ A e₀ h₀ env X h1 k.2 (c.step k1 t1)).go fun us h2 tk2 k2 t2 r2 => T.mk (k1.trans k2) t2 ⟨v, us, rfl, r1.1.ext t1 k2, r2⟩)
  { plain := fun pos env => by rw [starEach_cons hs]; exact hb.plain pos env
    run := run
    args := fun f pos ρ A e₀ h₀ env X h k c s tk => by
      have key := run pos ρ A e₀ h₀ env X h k c s tk
      rw [starEach_cons hs] at key ⊢
      exact Calls.evalArgs_plain (wpAny_mono key (fun vs s' ⟨h', tk, e, k, t, r⟩ => ⟨h', tk, e, k, t, rfl, r⟩) fun _ _ f => f.elim)
    len := fun ρ => congrArg (· + 1) (hb.len ρ) }

theorem g_list {es : List PySem.Expr} {vs : PEnv → List PV} {p : Pos} (hn : es.length ≤ 1000) (ha : GoodL Γ sc es vs ka) : Good Γ sc (.List es p) true (fun ρ => .lst (vs ρ)) ka :=
  fun ρ A e₀ h₀ env X h k c s tk => wpAny_List ((ha.run p ρ A e₀ h₀ env X h k c).go fun us h1 tk1 k1 t1 r1 => ⟨by rw [r1.length, ha.len]; exact Nat.le_trans hn (by decide), got_T k1 t1 (got_list (s := Sh s h1 tk1) (tk := tk1) (c.step k1 t1).alloc r1)⟩)
theorem g_tup {es : List PySem.Expr} {vs : PEnv → List PV} {j : Nat} {p : Pos} (hn : es.length ≤ 1000) (ha : GoodL Γ sc es vs ka) : Good Γ sc (.Tuple es j p) true (fun ρ => .tup (vs ρ)) ka :=
  fun ρ A e₀ h₀ env X h k c s tk => wpAny_Tuple ((ha.run p ρ A e₀ h₀ env X h k c).go fun us h1 tk1 k1 t1 r1 => ⟨by rw [r1.length, ha.len]; exact Nat.le_trans hn (by decide), got_T k1 t1 (got_tuple (s := Sh s h1 tk1) (tk := tk1) (c.step k1 t1).alloc r1)⟩)

noncomputable def itemV (q : Bool × List PV) (i : PV) : PV := ((idx q.2.length (asI i)).bind (q.2[·]?)).getD .none
noncomputable def kitem (q : Bool × List PV) (i : PV) : Prop := isI i ∧ ∃ j, idx q.2.length (asI i) = some j
theorem g_item {b : PEnv → Bool × List PV} {p : Pos} (ha : GoodB Γ sc l b ka) (hb : Good Γ sc r nb vb kb) : Good Γ sc (.Subscript l r p) false (fun ρ => itemV (b ρ) (vb ρ)) (fun ρ => ka ρ ∧ kb ρ ∧ kitem (b ρ) (vb ρ)) :=
  fun ρ A e₀ h₀ env X h k c s tk => Subscript_ ((ha ρ A e₀ h₀ env X h k.1 c).go fun o h1 tk1 k1 t1 r1 => by
    obtain ⟨a, vs, rfl, hl, r1⟩ := r1
    refine (hb ρ A e₀ h₀ env X h1 k.2.1 (c.step k1 t1)).go fun u h2 tk2 k2 t2 r2 => ?_
    obtain ⟨hi, j, hj⟩ := k.2.2
    have hu := r2.1
    rw [hi.eq] at hu
    obtain ⟨tt, rfl⟩ := hu
    obtain ⟨z, hz⟩ : ∃ z, (b ρ).2[j]? = some z := ⟨_, List.getElem?_eq_getElem (idx_lt hj)⟩
    obtain ⟨u, hu, hr⟩ := (r1.ext t1 k2).get hz
    obtain ⟨Ty, id, hT, hlk⟩ := isSeq.tail (s := Sh s h2 tk2) (hl.ext t1 k2)
    have e : itemV (b ρ) (vb ρ) = z := by unfold itemV; rw [hj, Option.bind_some, hz]; rfl
    exact tail_ok hT hlk (getItem_ok (hl.ext t1 k2) (by rw [r1.length]; exact hj) hu (T.mk (k1.trans k2) t2 ⟨(show Rep _ _ (itemV (b ρ) (vb ρ)) _ from e.symm ▸ hr), nofun⟩)))

/-- a slice's part -/
noncomputable def GoodP (e : Option PySem.Expr) (f : PEnv → Option Int) (k : PEnv → Prop) (Γ : Fx) (sc : Scope) : Prop := ∀ ρ A e₀ h₀ env X h, k ρ → XC Γ A e₀ h₀ sc env ρ X h → W Γ.C A (evalPart e env) h fun v _ => IsPart v (f ρ)
theorem p_none : GoodP none (fun _ => none) (fun _ => True) Γ sc := fun _ _ _ _ _ _ _ _ c _ _ => wpAny_evalPart_none (T.mk (.refl _ _) c.act.tab .none)
theorem p_some (ha : Good Γ sc l na va ka) : GoodP (some l) (fun ρ => some (asI (va ρ))) (fun ρ => ka ρ ∧ isI (va ρ)) Γ sc :=
  fun ρ A e₀ h₀ env X h k c s tk => wpAny_evalPart_some ((ha ρ A e₀ h₀ env X h k.1 c).go fun v h1 tk1 k1 t1 r1 => by
    have r1 := r1.1
    rw [k.2.eq] at r1
    obtain ⟨t, rfl⟩ := r1
    exact T.mk k1 t1 (.int _ _))
theorem g_slice {b : PEnv → Bool × List PV} {lo hi st : Option PySem.Expr} {fl fh ft : PEnv → Option Int} {kl kh kt : PEnv → Prop} {p p' : Pos} (ha : GoodB Γ sc l b ka) (hl : GoodP lo fl kl Γ sc) (hh : GoodP hi fh kh Γ sc) (ht : GoodP st ft kt Γ sc) :
    Good Γ sc (.Subscript l (.Slice lo hi st p') p) true (fun ρ => .lst (slc (b ρ).2 (fl ρ) (fh ρ) (ft ρ))) (fun ρ => ka ρ ∧ kl ρ ∧ kh ρ ∧ kt ρ ∧ (b ρ).1 = false ∧ ft ρ ≠ some 0 ∧ (b ρ).2.length ≤ 16777216) :=
  fun ρ A e₀ h₀ env X h k c s tk => Subscript_ ((ha ρ A e₀ h₀ env X h k.1 c).go fun o h1 tk1 k1 t1 r1 => by
    obtain ⟨a, vs, rfl, hs, r1⟩ := r1
    have c1 := c.step k1 t1
    refine wpAny_Slice ((hl ρ A e₀ h₀ env X h1 k.2.1 c1).go fun vl h2 _ k2 t2 pl => (hh ρ A e₀ h₀ env X h2 k.2.2.1 (c1.step k2 t2)).go fun vh h3 _ k3 t3 ph => (ht ρ A e₀ h₀ env X h3 k.2.2.2.1 ((c1.step k2 t2).step k3 t3)).go fun vt h4 tk4 k4 t4 pt => ?_)
    have kk := k2.trans (k3.trans k4)
    have c4 := c1.step kk t4
    rw [k.2.2.2.2.1] at hs
    have hs4 : h4.IsList a vs.toArray := isSeq.ext (T := false) t1 kk hs
    have e5 := Ext.push Γ.C.Ps h4 { cls := .type "slice", data := .fields #[vl, vh, vt] }
    have t5 := t4.push { cls := .type "slice", data := .fields #[vl, vh, vt] }
    have hs5 := hs4.push { cls := .type "slice", data := .fields #[vl, vh, vt] }
    exact tail_ok hs5.typeIs slot_list_getitem.lookup (wpAny_mono (slice_ok (s := Sh s _ tk4) (c4.step e5 t5).alloc hs5 ((r1.ext t1 kk).ext t4 e5) (Heap.IsSliceOf.new _ _ _ _) pl ph pt k.2.2.2.2.2.1 k.2.2.2.2.2.2) (fun _ _ g => got_T (k1.trans (kk.trans e5)) t5 g) fun _ _ f => f.elim))
/-- from a value -/
theorem b_val (ha : Good Γ sc l na va ka) : GoodB Γ sc l (fun ρ => seqV (va ρ)) (fun ρ => ka ρ ∧ isS (va ρ)) :=
  fun ρ A e₀ h₀ env X h k c => (ha ρ A e₀ h₀ env X h k.1 c).imp fun u h1 _ _ r => by
    obtain ⟨r, _⟩ := r
    have hs := k.2
    show ∃ a vs, _ ∧ isSeq h1 (seqV (va ρ)).1 a vs ∧ RepL h1 X (seqV (va ρ)).2 vs
    generalize va ρ = x at r hs ⊢
    cases x with
    | lst xs => obtain ⟨a, vs, e, _, l, q⟩ := r; exact ⟨a, vs, e, l, q⟩
    | tup xs => obtain ⟨a, vs, e, _, l, q⟩ := r; exact ⟨a, vs, e, l, q⟩
    | _ => cases hs
noncomputable def drawn (one : Bool) (x : PV) : Prop := isL x ∨ (one = true ∧ isT x)
theorem s_val {one : Bool} (ha : Good Γ sc l na va ka) : GoodS Γ sc one l (fun ρ => (seqV (va ρ)).2) (fun ρ => ka ρ ∧ drawn one (va ρ)) :=
  fun ρ A e₀ h₀ env X h tgt ht k c s tk => (ha ρ A e₀ h₀ env X h k.1 c).go fun u h1 tk1 k1 t1 r => by
    obtain ⟨r, _⟩ := r
    have ht' : IsName tgt ∨ IsTupT tgt := by cases one with
      | true => exact .inl (by simpa using ht)
      | false => exact .inr (by simpa using ht)
    have fin : ∀ {xs v s'}, Iter Γ.C A X tgt xs (Sh s h1 tk1) v s' → T Γ.C s h (fun it h' => Pulls Γ.C A X tgt xs h it h') v s' := fun ⟨h2, tk2, e, k2, fp, wr, ⟨l1, l2, l3⟩, P⟩ => e ▸ T.mk (k1.trans (.of_keep k2)) (t1.keeps k2) ⟨fp, wr, ⟨fun b hb => fresh_back t1 k1 (l1 b hb), l2, fun b hb => (l3 b hb).imp id fun q => q.imp id fun e => fresh_back t1 k1 e⟩, P⟩
    have hk := k.2
    show wpAny _ _ _ (T Γ.C s h fun it h' => Pulls Γ.C A X tgt (seqV (va ρ)).2 h it h') _ _
    generalize va ρ = x at r hk ⊢
    rcases hk with hx | ⟨h1, hx⟩
    · rw [hx.eq] at r ⊢
      obtain ⟨a, vs, rfl, ha, hl, hr⟩ := r
      exact wpAny_mono (iter_list (C := Γ.C) (X := X) c.act.hh ht' hl ha hr) (fun _ _ y => fin y) fun _ _ f => f.elim
    · subst h1
      rw [hx.eq] at r ⊢
      obtain ⟨a, vs, rfl, ha, hl, hr⟩ := r
      exact wpAny_mono (iter_tuple (C := Γ.C) (X := X) c.act.hh (by simpa using ht) hl ha hr) (fun _ _ y => fin y) fun _ _ f => f.elim
end

end
end Mine
namespace Mine
section
open PySem.Calls
set_option backward.match.sparseCases false
section
variable {Γ : Fx} {C : Cx} {sc : Scope} {A : Around} {X : List Addr} {h : Heap} {l r : PySem.Expr} {na nb : Bool} {va vb : PEnv → PV} {ka kb : PEnv → Prop} {e₀ : Env} {h₀ : Heap} {env : Env} {ρ : PEnv} {x : Str} {p pos : Pos} {i : Nat} {k : NameKind}
noncomputable def okName (x : Str) : Bool := !(x == ("__debug__" : Str)) && !(x == ("__classdict__" : Str))
theorem okName_ok {x : Str} (h : okName x = true) : (x == ("__debug__" : Str)) = false ∧ (x == ("__classdict__" : Str)) = false := by
  unfold okName at h
  rw [Bool.and_eq_true, Bool.not_eq_true', Bool.not_eq_true'] at h
  exact h
theorem varOf_ok {nm : List Str} (h : varOf nm x = some i) : nm[i]? = some x := by
  unfold varOf at h
  split at h
  · split at h
    · cases h; assumption
    · cases h
  · cases h
theorem varOf_inj {nm : List Str} {x y : Str} {i : Nat} (h1 : varOf nm x = some i) (h2 : varOf nm y = some i) : x = y := by
  have a := varOf_ok h1
  rw [varOf_ok h2] at a; cases a; rfl
/-- a name that the frame holds -/
structure IsVar (Γ : Fx) (sc : Scope) (x : Str) (i : Nat) : Prop where
  ok : okName x = true
  k : ∃ k, sc.names.lookup x = some k ∧ vis k = true
  i : varOf Γ.nm x = some i
theorem name_var (v : IsVar Γ sc x i) (hb : get ρ i ≠ .undef) (c : XC Γ A e₀ h₀ sc env ρ X h) {s : Shared} {tk : Nat} {Q : Value → Shared → Prop} (q : ∀ u, HoldsB X h (get ρ i) u → Q u (Sh s h tk)) : wpAny Γ.C.M A (eval (.Name x p) env) Q never (Sh s h tk) :=
  let ⟨k, hk, hv⟩ := v.k
  let ⟨u, sl, r⟩ := c.vars i x k v.i hk hv hb
  sl.name c.en.kind (q u r) (okName_ok v.ok).1 (okName_ok v.ok).2
theorem isV.def {b : Bind} (h : isV b) : b ≠ .undef := fun q => by rw [q] at h; cases h
theorem isSB.def {b : Bind} (h : isSB b) : b ≠ .undef := fun q => by rw [q] at h; cases h
theorem g_var (v : IsVar Γ sc x i) : Good Γ sc (.Name x p) false (fun ρ => valB (get ρ i)) (fun ρ => isV (get ρ i)) := fun ρ A e₀ h₀ env X h k c s tk =>
  name_var v k.def c fun u r => T.mk (.refl _ _) c.act.tab ⟨(show Rep h X (valB (get ρ i)) u by rw [isV.eq k] at r; exact r), nofun⟩
theorem b_var (v : IsVar Γ sc x i) : GoodB Γ sc (.Name x p) (fun ρ => seqB (get ρ i)) (fun ρ => isSB (get ρ i)) := fun ρ A e₀ h₀ env X h k c s tk =>
  name_var v k.def c fun u r => T.mk (.refl _ _) c.act.tab (by
    show ∃ a vs, _ ∧ isSeq h (seqB (get ρ i)).1 a vs ∧ RepL h X (seqB (get ρ i)).2 vs
    have k : isSB (get ρ i) := k
    generalize get ρ i = b at r k ⊢
    cases b with
    | undef => cases k
    | own2 => cases k
    | own xs => obtain ⟨a, vs, e, l, q⟩ := r; exact ⟨a, vs, e, l.isList, q⟩
    | val y =>
      cases y with
      | lst xs => obtain ⟨a, vs, e, _, l, q⟩ := r; exact ⟨a, vs, e, l, q⟩
      | tup xs => obtain ⟨a, vs, e, _, l, q⟩ := r; exact ⟨a, vs, e, l, q⟩
      | _ => cases k)
/-- a global name -/
structure IsGlob (Γ : Fx) (sc : Scope) (x : Str) (v : Value) : Prop where
  ok : okName x = true
  k : sc.names.lookup x = some .globalImplicit
  v : Γ.G x = some v
theorem name_glob {v : Value} (g : IsGlob Γ sc x v) (c : XC Γ A e₀ h₀ sc env ρ X h) {s : Shared} {tk : Nat} {Q : Value → Shared → Prop} (q : Q v (Sh s h tk)) : wpAny Γ.C.M A (eval (.Name x p) env) Q never (Sh s h tk) := by
  refine Name_function_global c.en.kind (c.en.kglob x g.k) ?_ (okName_ok g.ok).1
  have hg : h.Ns env.globals Γ.C.mg := by rw [c.en.glob]; exact c.act.top.g.keeps c.act.keep0
  rcases Γ.hG x v g.v with e | ⟨e1, e2⟩
  · exact loadGlobal_global hg e q
  · exact loadGlobal_builtin hg e1 (by rw [c.en.bltn]; exact c.act.top.b.keeps c.act.keep0) e2 q
theorem g_fn {a : Addr} (g : IsGlob Γ sc x (.ref a)) : Good Γ sc (.Name x p) false (fun _ => .fn a) (fun _ => True) := fun _ _ _ _ _ _ _ _ c _ _ => name_glob g c (T.mk (.refl _ _) c.act.tab ⟨rfl, nofun⟩)
theorem g_gint {n : Int} {t : Tok} (g : IsGlob Γ sc x (.int n t)) : Good Γ sc (.Name x p) false (fun _ => .int n) (fun _ => True) := fun _ _ _ _ _ _ _ _ c _ _ => name_glob g c (T.mk (.refl _ _) c.act.tab ⟨⟨_, rfl⟩, nofun⟩)

noncomputable def fnA : PV → Addr
  | .fn a => a
  | _ => 0
noncomputable def isF : PV → Prop
  | .fn _ => True
  | _ => False
theorem isF.eq {x : PV} (h : isF x) : x = .fn (fnA x) := by cases x <;> first | rfl | cases h
/-- a call of the text's own function -/
theorem g_call {es : List PySem.Expr} {vs : PEnv → List PV} (ha : Good Γ sc (.Name x p) na va ka) (hl : GoodL Γ sc es vs kb) : Good Γ sc (.Call (.Name x p) es [] pos) false (fun ρ => Γ.V (fnA (va ρ)) (vs ρ)) (fun ρ => ka ρ ∧ isF (va ρ) ∧ kb ρ ∧ Γ.K (fnA (va ρ)) (vs ρ)) :=
  fun ρ A e₀ h₀ env X h k c s tk => wpAny_Call_NameR ((ha ρ A e₀ h₀ env X h k.1 c).go fun v h1 tk1 k1 t1 r1 => by
    have r1 := r1.1
    rw [k.2.1.eq] at r1
    cases r1
    obtain ⟨kp, con⟩ := Γ.hF _ _ k.2.2.2
    refine callWith_of (P := Γ.C.K.In) (by rw [hl.plain pos]; rfl) (keeps_K kp) ((hl.args _ pos ρ A e₀ h₀ env X h1 k.2.2.1 (c.step k1 t1)).go fun a h2 tk2 k2 t2 r2 => ?_)
    have c2 := (c.step k1 t1).step k2 t2
    refine ⟨c2.act.kin.keeps c2.act.keep0, ?_⟩
    rw [r2.1]
    exact wpAny_mono (con A e₀ h₀ h2 a.pos X c2.act c2.dep c2.unt c2.alloc r2.2 s tk2) (fun v s2 y => (y.later (k1.trans k2)).imp fun _ _ _ q => ⟨q, nofun⟩) fun _ _ f => f.elim)

noncomputable def isBi : Value → Prop
  | .builtin _ => True
  | .type _ => True
  | _ => False
theorem bi_callWith {f : Value} (hf : isBi f) {pos : Pos} {args : List (Bool × Sem Value)} {s : Shared} {Q : Value → Shared → Prop} (hp : args.any (·.1) = false)
    (h : wpAny C.M A (evalArgs f true args []) (fun a s₁ => wpAny C.M A (call f a.pos a.kw) Q never s₁) never s) : wpAny C.M A (callWith pos f [] args []) Q never s := by
  cases f with
  | builtin => exact Calls.callWith_builtin hp h
  | type => exact PyProof.Rows.callWith_type hp h
  | _ => cases hf
/-- a built-in's call, its arguments valued -/
theorem bi_go {es : List PySem.Expr} {vs : PEnv → List PV} {g : Value} (hg : IsGlob Γ sc x g) (hb : isBi g) (hl : GoodL Γ sc es vs ka) (k : ka ρ) (c : XC Γ A e₀ h₀ sc env ρ X h) {s : Shared} {tk : Nat} {Q : Value → Shared → Prop}
    (q : ∀ h' tk us, Ext Γ.C.Ps h h' → TabsOk Γ.C h' → RepL h' X (vs ρ) us → wpAny Γ.C.M A (call g us []) Q never (Sh s h' tk)) : wpAny Γ.C.M A (eval (.Call (.Name x p) es [] pos) env) Q never (Sh s h tk) :=
  wpAny_Call_NameR (name_glob hg c (bi_callWith hb (hl.plain pos env) ((hl.args g pos ρ A e₀ h₀ env X h k c).go fun a h1 tk1 k1 t1 r1 => by
    rw [r1.1]; exact q h1 tk1 a.pos k1 t1 r1.2)))
theorem int_T {h1 : Heap} {s : Shared} {tk : Nat} {j : Int} {v : Value} {s' : Shared} (k : Ext C.Ps h h1) (t : TabsOk C h1) (g : Kept (Sh s h1 tk) (IsInt j) v s') : T C s h (fun v h' => Rep h' X (.int j) v ∧ (false = true → New h v h')) v s' := by
  obtain ⟨h2, tk2, rfl, k2, u, rfl⟩ := g
  exact T.mk (k.trans (.of_keep k2)) (t.keeps k2) ⟨⟨u, rfl⟩, nofun⟩
noncomputable def ab (a : Int) : Int := if a < 0 then -a else a
theorem g_abs (hg : IsGlob Γ sc x (.builtin "abs")) (hs : noStar l) (ha : Good Γ sc l na va ka) : Good Γ sc (.Call (.Name x p) [l] [] pos) false (fun ρ => .int (ab (asI (va ρ)))) (fun ρ => ka ρ ∧ isI (va ρ)) :=
  fun ρ A e₀ h₀ env X h k c s tk => bi_go hg trivial (l_cons hs ha l_nil) ⟨k.1, trivial⟩ c fun h1 tk1 us k1 t1 r => by
    obtain ⟨v, q, rfl, r, rfl⟩ := r
    rw [k.2.eq] at r
    obtain ⟨t, rfl⟩ := r
    exact wpAny_mono b_abs (fun _ _ g => int_T k1 t1 g) fun _ _ f => f.elim
noncomputable def mx (a b : Int) : Int := if b > a then b else a
theorem g_max2 (hg : IsGlob Γ sc x (.builtin "max")) (hs : noStar l) (hs' : noStar r) (ha : Good Γ sc l na va ka) (hb : Good Γ sc r nb vb kb) : Good Γ sc (.Call (.Name x p) [l, r] [] pos) false (fun ρ => .int (mx (asI (va ρ)) (asI (vb ρ)))) (fun ρ => ka ρ ∧ kb ρ ∧ isI (va ρ) ∧ isI (vb ρ)) :=
  fun ρ A e₀ h₀ env X h k c s tk => bi_go hg trivial (l_cons hs ha (l_cons hs' hb l_nil)) ⟨k.1, k.2.1, trivial⟩ c fun h1 tk1 us k1 t1 r => by
    obtain ⟨v, q, rfl, r, u, q', rfl, r', rfl⟩ := r
    rw [k.2.2.1.eq] at r
    rw [k.2.2.2.eq] at r'
    obtain ⟨t, rfl⟩ := r
    obtain ⟨t', rfl⟩ := r'
    exact wpAny_mono (b_max2 c.act.hh) (fun _ _ g => int_T k1 t1 g) fun _ _ f => f.elim
theorem g_sum (hg : IsGlob Γ sc x (.builtin "sum")) (hs : noStar l) (ha : Good Γ sc l na va ka) : Good Γ sc (.Call (.Name x p) [l] [] pos) false (fun ρ => .int ((asL (va ρ)).map asI).sum) (fun ρ => ka ρ ∧ isL (va ρ) ∧ allP isI (asL (va ρ))) :=
  fun ρ A e₀ h₀ env X h k c s tk => bi_go hg trivial (l_cons hs ha l_nil) ⟨k.1, trivial⟩ c fun h1 tk1 us k1 t1 r => by
    obtain ⟨v, q, rfl, r, rfl⟩ := r
    rw [k.2.1.eq] at r
    obtain ⟨a, us, rfl, _, hl, hr⟩ := r
    rw [ints_eq k.2.2] at hr
    exact wpAny_mono (b_sum c.act.hh hl hr.ints) (fun _ _ g => int_T k1 t1 g) fun _ _ f => f.elim
noncomputable def qr (a b : Int) : PV := .tup [.int (a.fdiv b), .int (a.fmod b)]
theorem g_divmod (hg : IsGlob Γ sc x (.builtin "divmod")) (hs : noStar l) (hs' : noStar r) (ha : Good Γ sc l na va ka) (hb : Good Γ sc r nb vb kb) : Good Γ sc (.Call (.Name x p) [l, r] [] pos) false (fun ρ => qr (asI (va ρ)) (asI (vb ρ)))
    (fun ρ => ka ρ ∧ kb ρ ∧ isI (va ρ) ∧ isI (vb ρ) ∧ asI (vb ρ) ≠ 0 ∧ Builtin.divisionGoesByPylong (asI (va ρ)) (asI (vb ρ)) = false) :=
  fun ρ A e₀ h₀ env X h k c s tk => bi_go hg trivial (l_cons hs ha (l_cons hs' hb l_nil)) ⟨k.1, k.2.1, trivial⟩ c fun h1 tk1 us k1 t1 r => by
    obtain ⟨v, q, rfl, r, u, q', rfl, r', rfl⟩ := r
    rw [k.2.2.1.eq] at r
    rw [k.2.2.2.1.eq] at r'
    obtain ⟨t, rfl⟩ := r
    obtain ⟨t', rfl⟩ := r'
    refine wpAny_mono (b_divmod k.2.2.2.2.1 k.2.2.2.2.2) (fun v s' g => ?_) fun _ _ f => f.elim
    obtain ⟨h2, tk2, rfl, k2, a, t, u, rfl, fr, hT⟩ := g
    refine T.mk (k1.trans (.of_keep k2)) (t1.keeps k2) ⟨⟨a, _, rfl, fun q => ?_, hT, _, _, rfl, ⟨_, rfl⟩, _, _, rfl, ⟨_, rfl⟩, rfl⟩, nofun⟩
    obtain ⟨o, e⟩ := (c.step k1 t1).alloc a q
    rw [show h1.get? a = none from fr] at e; cases e
theorem g_len {b : PEnv → Bool × List PV} (hg : IsGlob Γ sc x (.builtin "len")) (hs : noStar l) (ha : GoodB Γ sc l b ka) : Good Γ sc (.Call (.Name x p) [l] [] pos) false (fun ρ => .int (b ρ).2.length) (fun ρ => ka ρ ∧ (b ρ).2.length ≤ 16777216) :=
  fun ρ A e₀ h₀ env X h k c s tk => wpAny_Call_NameR (name_glob hg c (bi_callWith (f := .builtin "len") trivial (by rw [starEach_cons hs]; rfl) (by
    rw [starEach_cons hs]
    refine Calls.evalArgs_plain (Calls.spliced_cons ((ha ρ A e₀ h₀ env X h k.1 c).go fun u h1 tk1 k1 t1 r1 => Calls.spliced_nil ?_))
    obtain ⟨a, vs, rfl, hl, r1⟩ := r1
    have hlen : vs.length < 2 ^ 63 := by have := k.2; rw [r1.length]; (first | lia | omega)
    show wpAny _ _ _ (T Γ.C s h fun v h' => Rep h' X (.int (b ρ).2.length) v ∧ (false = true → New h v h')) _ _
    rw [← r1.length]
    generalize (b ρ).1 = q at hl
    cases q with
    | false => exact wpAny_mono (b_len hl hlen) (fun _ _ g => int_T k1 t1 g) fun _ _ f => f.elim
    | true => exact wpAny_mono (b_lenT hl hlen) (fun _ _ g => int_T k1 t1 g) fun _ _ f => f.elim)))
theorem g_bitlen {ap p q : Pos} {y : Str} (hl : (ap.endLine == p.line) = true) (ha : Good Γ sc (.Name y q) na va ka) : Good Γ sc (.Call (.Attribute (.Name y q) (Str.ofString "bit_length") ap) [] [] p) false (fun ρ => .int (bits (asI (va ρ)))) (fun ρ => ka ρ ∧ isI (va ρ)) :=
  fun ρ A e₀ h₀ env X h k c s tk => by
    refine wpAny_Call_method (T := "int") (id := "int.bit_length") ?_ rfl hl PySem.F.plainAttrs_int PyProof.Rows.slot_int_bit_length type_int_bit_length ?_
    · rfl
    · refine (ha ρ A e₀ h₀ env X h k.1 c).go fun v h1 tk1 k1 t1 r1 => ?_
      have r1 := r1.1
      rw [k.2.eq] at r1
      obtain ⟨u, rfl⟩ := r1
      exact ⟨typeIs_int _ _ _, nofun, Calls.callWith_builtin rfl (evalArgs_nil3 (wpAny_mono b_bits (fun _ _ g => int_T k1 t1 g) fun _ _ f => f.elim))⟩

-- sources
theorem iter_T {h1 : Heap} {s : Shared} {tk : Nat} {tgt : PySem.Expr} {xs : List PV} {v : Value} {s' : Shared} (k1 : Ext C.Ps h h1) (t1 : TabsOk C h1) (y : Iter C A X tgt xs (Sh s h1 tk) v s') : T C s h (fun it h' => Pulls C A X tgt xs h it h') v s' :=
  let ⟨_, _, e, k2, fp, wr, ⟨l1, l2, l3⟩, P⟩ := y
  e ▸ T.mk (k1.trans (.of_keep k2)) (t1.keeps k2) ⟨fp, wr, ⟨fun b hb => fresh_back t1 k1 (l1 b hb), l2, fun b hb => (l3 b hb).imp id fun q => q.imp id fun e => fresh_back t1 k1 e⟩, P⟩
theorem s_reversed (hg : IsGlob Γ sc x (.type "reversed")) (hs : noStar l) (ha : Good Γ sc l na va ka) : GoodS Γ sc true (.Call (.Name x p) [l] [] pos) (fun ρ => (asL (va ρ)).reverse) (fun ρ => ka ρ ∧ isL (va ρ)) :=
  fun ρ A e₀ h₀ env X h tgt ht k c s tk => bi_go hg trivial (l_cons hs ha l_nil) ⟨k.1, trivial⟩ c fun h1 tk1 us k1 t1 r => by
    obtain ⟨v, q, rfl, r, rfl⟩ := r
    rw [k.2.eq] at r
    obtain ⟨a, us, rfl, hx, hl, hr⟩ := r
    exact wpAny_mono (call_reversed (C := Γ.C) (X := X) c.act.hh ht hl hx hr) (fun v s2 y => wpAny_mono y (fun _ _ y => iter_T k1 t1 y) fun _ _ f => f.elim) fun _ _ f => f.elim
theorem s_enum (hg : IsGlob Γ sc x (.type "enumerate")) (hs : noStar l) (ha : Good Γ sc l na va ka) : GoodS Γ sc false (.Call (.Name x p) [l] [] pos) (fun ρ => enumL (asL (va ρ))) (fun ρ => ka ρ ∧ isL (va ρ)) :=
  fun ρ A e₀ h₀ env X h tgt ht k c s tk => bi_go hg trivial (l_cons hs ha l_nil) ⟨k.1, trivial⟩ c fun h1 tk1 us k1 t1 r => by
    obtain ⟨tes, tk, tp, rfl⟩ := ht
    obtain ⟨v, q, rfl, r, rfl⟩ := r
    rw [k.2.eq] at r
    obtain ⟨a, us, rfl, hx, hl, hr⟩ := r
    exact wpAny_mono (call_enumerate (C := Γ.C) (X := X) c.act.hh hl hx hr) (fun v s2 y => wpAny_mono y (fun _ _ y => iter_T k1 t1 y) fun _ _ f => f.elim) fun _ _ f => f.elim
noncomputable def krange (n : Int) : Prop := Builtin.Range.small 0 n 1 = true ∧ 0 ≤ Builtin.Range.rangeSize 0 n 1
theorem s_range (hg : IsGlob Γ sc x (.type "range")) (hs : noStar l) (ha : Good Γ sc l na va ka) : GoodS Γ sc true (.Call (.Name x p) [l] [] pos) (fun ρ => zs (rng 0 1 (Builtin.Range.rangeSize 0 (asI (va ρ)) 1).toNat)) (fun ρ => ka ρ ∧ isI (va ρ) ∧ krange (asI (va ρ))) :=
  fun ρ A e₀ h₀ env X h tgt ht k c s tk => bi_go hg trivial (l_cons hs ha l_nil) ⟨k.1, trivial⟩ c fun h1 tk1 us k1 t1 r => by
    obtain ⟨v, q, rfl, r, rfl⟩ := r
    rw [k.2.1.eq] at r
    obtain ⟨t, rfl⟩ := r
    refine wpAny_mono b_range1 (fun v s2 y => ?_) fun _ _ f => f.elim
    obtain ⟨h2, tk2, rfl, k2, ⟨rr, t1', t2', t3', rfl, hr⟩, _⟩ := y
    exact wpAny_mono (iter_range (C := Γ.C) (X := X) (s := Sh s h2 tk2) c.act.hh ht hr k.2.2.1 k.2.2.2) (fun _ _ y => iter_T (k1.trans (.of_keep k2)) (t1.keeps k2) y) fun _ _ f => f.elim
end

end
end Mine
namespace Mine
section
open PySem.Calls

-- a comprehension's block: its scope, its cells
theorem clo_for {env : Env} (f : Str × NameKind → List (Str × Addr) → Sem (ForInStep (List (Str × Addr))))
    (hf : ∀ n k cs, f (n, k) cs = if k == .free then (do let a ← cellOf env n; pure (.yield ((n, a) :: cs))) else pure (.yield cs)) :
    ∀ (names : List (Str × NameKind)) (acc : List (Str × Addr)), (∀ n, (n, NameKind.free) ∈ names → ∃ c, env.cells.lookup n = some c) →
      ∃ cl, forIn names acc f = pure cl ∧ (∀ n c, cl.lookup n = some c → acc.lookup n = some c ∨ (env.cells.lookup n = some c ∧ (n, NameKind.free) ∈ names)) ∧
        (∀ n, ((n, NameKind.free) ∈ names ∨ ∃ c, acc.lookup n = some c) → ∃ c, cl.lookup n = some c)
  | [], acc, _ => ⟨acc, rfl, fun _ _ e => .inl e, fun n h => h.elim (fun q => nomatch q) id⟩
  | (n, k) :: r, acc, h => by
    rw [List.forIn_cons, hf]
    cases hk : k == NameKind.free with
    | true =>
      have hk' : k = .free := by simpa using hk
      subst hk'
      obtain ⟨c, hc⟩ := h n (.head _)
      have e : cellOf env n = pure c := by unfold cellOf; rw [hc]
      obtain ⟨cl, e1, e2, e3⟩ := clo_for f hf r ((n, c) :: acc) fun n' h' => h n' (.tail _ h')
      refine ⟨cl, ?_, fun n' c' q => ?_, fun n' q => ?_⟩
      · rw [if_pos rfl, e]; exact e1
      · rcases e2 n' c' q with q | ⟨q1, q2⟩
        · rw [List.lookup_cons] at q
          cases hb : n' == n with
          | true => rw [hb] at q; cases q; rw [beq_iff_eq.mp hb]; exact .inr ⟨hc, .head _⟩
          | false => rw [hb] at q; exact .inl q
        · exact .inr ⟨q1, .tail _ q2⟩
      · refine e3 n' ?_
        rcases q with q | ⟨c', q⟩
        · rcases List.mem_cons.mp q with q | q
          · cases q; exact .inr ⟨c, by simp⟩
          · exact .inl q
        · refine .inr ?_
          rw [List.lookup_cons]
          cases n' == n with
          | true => exact ⟨c, rfl⟩
          | false => exact ⟨c', q⟩
    | false =>
      obtain ⟨cl, e1, e2, e3⟩ := clo_for f hf r acc fun n' h' => h n' (.tail _ h')
      refine ⟨cl, ?_, fun n' c' q => (e2 n' c' q).imp id fun q => ⟨q.1, .tail _ q.2⟩, fun n' q => e3 n' (q.imp (fun q => ?_) id)⟩
      · simpa using e1
      · rcases List.mem_cons.mp q with q | q
        · cases q; simp at hk
        · exact q
theorem closure_ok {env : Env} {scope : Scope} (h : ∀ n, (n, NameKind.free) ∈ scope.names → ∃ c, env.cells.lookup n = some c) :
    ∃ cl, closureFor scope env = pure cl ∧ (∀ n c, cl.lookup n = some c → env.cells.lookup n = some c ∧ (n, NameKind.free) ∈ scope.names) ∧ (∀ n, (n, NameKind.free) ∈ scope.names → ∃ c, cl.lookup n = some c) := by
  obtain ⟨cl, e1, e2, e3⟩ := clo_for (env := env) (fun x cs => if x.2 == .free then (do let a ← cellOf env x.1; pure (.yield ((x.1, a) :: cs))) else pure (.yield cs)) (fun _ _ _ => rfl) scope.names [] h
  refine ⟨cl, ?_, fun n c q => (e2 n c q).elim (fun q => by cases q) id, fun n q => e3 n (.inl q)⟩
  unfold closureFor
  simp only [bind_pure_comp] at e1 ⊢
  rw [e1]; rfl

/-- cells laid upon those of around -/
theorem cells_laid : ∀ (names : List (Str × NameKind)) (h : Heap) (acc : List (Str × Addr)), (∀ n c, acc.lookup n = some c → ∃ v, h.IsCell c v) → (∀ x y c, acc.lookup x = some c → acc.lookup y = some c → x = y) →
    (∀ n c, (cellsFrom h.objs.size names acc).lookup n = some c → ∃ v, (pushCells h names).IsCell c v) ∧
    (∀ x y c, (cellsFrom h.objs.size names acc).lookup x = some c → (cellsFrom h.objs.size names acc).lookup y = some c → x = y) ∧
    (∀ n, (n, NameKind.cell) ∉ names → (cellsFrom h.objs.size names acc).lookup n = acc.lookup n) ∧
    (∀ n, (n, NameKind.cell) ∈ names → ∃ c, (cellsFrom h.objs.size names acc).lookup n = some c ∧ h.get? c = none)
  | [], h, acc, h1, h2 => ⟨h1, h2, fun _ _ => rfl, fun _ q => nomatch q⟩
  | (n, k) :: r, h, acc, h1, h2 => by
    unfold cellsFrom pushCells
    cases hk : k == NameKind.cell with
    | true =>
      have hk' : k = .cell := by simpa using hk
      subst hk'
      simp only [if_true]
      have hs : (h.push { cls := .type "cell", data := .cell none }).objs.size = h.objs.size + 1 := Heap.size_push ..
      have hl : ∀ x c, List.lookup x ((n, h.objs.size) :: acc) = some c → (x = n ∧ c = h.objs.size) ∨ acc.lookup x = some c := fun x c q => by
        rw [List.lookup_cons] at q
        cases hb : x == n with
        | true => rw [hb] at q; cases q; exact .inl ⟨beq_iff_eq.mp hb, rfl⟩
        | false => rw [hb] at q; exact .inr q
      have hlt : ∀ x c, acc.lookup x = some c → c < h.objs.size := fun x c q => by obtain ⟨v, o, e, _⟩ := h1 x c q; exact Heap.lt_size e
      obtain ⟨k1, k2, k3, k4⟩ := cells_laid r (h.push { cls := .type "cell", data := .cell none }) ((n, h.objs.size) :: acc)
        (fun x c q => by
          rcases hl x c q with ⟨rfl, rfl⟩ | q
          · exact ⟨none, _, Heap.get?_push_size _ rfl, rfl⟩
          · obtain ⟨v, q⟩ := h1 x c q; exact ⟨v, q.keeps fun _ _ e => Heap.get?_push_of_some _ e⟩)
        (fun x y c q q' => by
          rcases hl x c q with ⟨ex, ec⟩ | q <;> rcases hl y c q' with ⟨ey, ec'⟩ | q'
          · rw [ex, ey]
          · rw [ec] at q'; exact absurd (hlt _ _ q') (Nat.lt_irrefl _)
          · rw [ec'] at q; exact absurd (hlt _ _ q) (Nat.lt_irrefl _)
          · exact h2 x y c q q')
      rw [hs] at k1 k2 k3 k4
      refine ⟨k1, k2, fun x q => ?_, fun x q => ?_⟩
      · rw [k3 x fun z => q (.tail _ z), List.lookup_cons]
        cases hb : x == n with
        | true => exact absurd (by rw [beq_iff_eq.mp hb]; exact .head _) q
        | false => rfl
      · by_cases hr : (x, NameKind.cell) ∈ r
        · obtain ⟨c, e, f⟩ := k4 x hr
          refine ⟨c, e, ?_⟩
          cases z : h.get? c with
          | none => rfl
          | some o => rw [Heap.get?_push_of_some _ z] at f; cases f
        · rcases List.mem_cons.mp q with q | q
          · cases q
            refine ⟨h.objs.size, ?_, fresh_none (Nat.le_refl _)⟩
            rw [k3 _ hr]; simp
          · exact absurd q hr
    | false =>
      have ih := cells_laid r h acc h1 h2
      simp only [Bool.false_eq_true, if_false]
      refine ⟨ih.1, ih.2.1, fun x q => ih.2.2.1 x fun z => q (.tail _ z), fun x q => ih.2.2.2 x ?_⟩
      rcases List.mem_cons.mp q with q | q
      · cases q; simp at hk
      · exact q

theorem lookup_relabel {env : Env} {x : Str} : ∀ {names : List (Str × NameKind)},
    (names.map fun (n, k) => if (k == NameKind.free && env.scope.kind == .function && env.kindOf n == some .cell) then (n, NameKind.cell) else (n, k)).lookup x =
      (names.lookup x).map fun k => if (k == NameKind.free && env.scope.kind == .function && env.kindOf x == some .cell) then NameKind.cell else k
  | [] => rfl
  | (n, k) :: r => by
    have ih := @lookup_relabel env x r
    show List.lookup x ((if (k == NameKind.free && env.scope.kind == .function && env.kindOf n == some .cell) = true then (n, NameKind.cell) else (n, k)) :: _) = _
    cases hx : x == n with
    | true =>
      have e : x = n := beq_iff_eq.mp hx
      subst e
      by_cases hc : (k == NameKind.free && env.scope.kind == .function && env.kindOf x == some .cell) = true
      · rw [if_pos hc]; simp only [List.lookup_cons, hx, Option.map_some, hc, if_true]
      · rw [if_neg hc]; simp only [List.lookup_cons, hx, Option.map_some, hc]; rfl
    | false =>
      by_cases hc : (k == NameKind.free && env.scope.kind == .function && env.kindOf n == some .cell) = true
      · rw [if_pos hc]; simp only [List.lookup_cons, hx]; exact ih
      · rw [if_neg hc]; simp only [List.lookup_cons, hx]; exact ih
theorem kind_relabel {scope : Scope} {env cenv : Env} {x : Str} {k : NameKind} (h : scope.names.lookup x = some k) :
    Env.kindOf { cenv with scope := relabel scope env } x = some (if (k == NameKind.free && env.scope.kind == .function && env.kindOf x == some .cell) then NameKind.cell else k) := by
  show (relabel scope env).names.lookup x = _
  unfold relabel
  exact (lookup_relabel (env := env)).trans (by rw [h]; rfl)

/-- the frameless environment of a comprehension's block -/
theorem newComp {M : Model} {A : Around} {E : Value → Shared → Prop} {s : Shared} {scope : Scope} {cl : List (Str × Addr)} {env : Env} {Q : Env → Shared → Prop}
    (h : Q { scope := scope, locals := s.heap.objs.size, globals := env.globals, cells := cellsFrom (s.heap.objs.size + 1) scope.names cl, qual := env.qual, func := none, code := env.code, frame := env.frame, builtins := env.builtins }
      { s with heap := pushCells (s.heap.push { cls := .type "dict", data := .dict #[] }) scope.names }) :
    wpAny M A (newFunctionEnv scope env.globals cl [] env.qual none .none (some env)) Q E s := by
  simp only [newFunctionEnv, Option.isSome_some, if_true]
  refine wpAny_bind (wpAny_alloc ?_)
  refine wpAny_bind (wpAny_layCells _ (fun name kind cells => by cases hkc : kind == NameKind.cell <;> simp [hkc]) _ _ _ _ ?_)
  rw [show ({ s with heap := s.heap.push { cls := .type "dict", data := .dict #[] } } : Shared).heap.objs.size = s.heap.objs.size + 1 from Heap.size_push ..]
  refine wpAny_bind ?_
  rw [List.forIn_nil]
  exact wpAny_pure (wpAny_pure h)

end
end Mine
namespace Mine
section
open PySem.Calls
set_option backward.match.sparseCases false

/-- a step that may change places -/
noncomputable def WU {α : Type} (C : Cx) (A : Around) (m : Sem α) (h : Heap) (P : α → Heap → Prop) : Prop := ∀ (s : Shared) (tk : Nat), wpAny C.M A m (fun a s' => ∃ h' tk, s' = Sh s h' tk ∧ P a h') never (Sh s h tk)
theorem WU.go {α : Type} {C : Cx} {A : Around} {m : Sem α} {h : Heap} {P : α → Heap → Prop} (a : WU C A m h P) {s : Shared} {tk : Nat} {Z : α → Shared → Prop} {E : Value → Shared → Prop} (b : ∀ x h' tk, P x h' → Z x (Sh s h' tk)) : wpAny C.M A m Z E (Sh s h tk) :=
  wpAny_mono (a s tk) (fun x _ ⟨h', tk', e, p⟩ => e ▸ b x h' tk' p) fun _ _ f => f.elim
theorem WU.imp {α : Type} {C : Cx} {A : Around} {m : Sem α} {h : Heap} {P Q : α → Heap → Prop} (a : WU C A m h P) (f : ∀ x h', P x h' → Q x h') : WU C A m h Q := fun s tk => a.go fun x h' tk p => ⟨h', tk, rfl, f x h' p⟩

/-- a comprehension's scope beside its surroundings' -/
noncomputable def okScope (sc scope : Scope) : Bool :=
  scope.kind == .function && scope.names.all fun x => (match x.2 with
    | .local => scope.names.lookup x.1 == some .local
    | .cell => scope.names.lookup x.1 == some .cell
    | .free => scope.names.lookup x.1 == some .free && (sc.names.lookup x.1 == some .cell || sc.names.lookup x.1 == some .free)
    | .globalImplicit => scope.names.lookup x.1 == some .globalImplicit
    | _ => false)
theorem okScope_mem {sc scope : Scope} (h : okScope sc scope = true) {x : Str} {k : NameKind} (hm : (x, k) ∈ scope.names) :
    scope.names.lookup x = some k ∧ (k = .local ∨ k = .cell ∨ k = .free ∨ k = .globalImplicit) ∧ (k = .free → sc.names.lookup x = some .cell ∨ sc.names.lookup x = some .free) := by
  unfold okScope at h
  simp only [Bool.and_eq_true, List.all_eq_true] at h
  have := h.2 (x, k) hm
  cases k <;> simp at this ⊢
  · exact this
  · exact this
  · exact ⟨this.1, this.2⟩
  · exact this
theorem okScope_fn {sc scope : Scope} (h : okScope sc scope = true) : scope.kind = .function := by
  unfold okScope at h
  rw [Bool.and_eq_true] at h
  exact eq_of_beq h.1
theorem vis_or {k : NameKind} (h : vis k = true) : k = .local ∨ k = .cell ∨ k = .free := by
  unfold vis at h
  rw [Bool.or_eq_true, Bool.or_eq_true] at h
  rcases h with (h | h) | h
  · exact .inl (eq_of_beq h)
  · exact .inr (.inl (eq_of_beq h))
  · exact .inr (.inr (eq_of_beq h))

/-- what a comprehension's block starts from -/
structure CIn (Γ : Fx) (A : Around) (e₀ : Env) (h₀ : Heap) (sc : Scope) (env : Env) (ρ : PEnv) (X : List Addr) (h : Heap) (scope : Scope) (cenv : Env) : Prop where
  out : XC Γ A e₀ h₀ sc env ρ X h
  ok : okScope sc scope = true
  kind : ∀ x k, scope.names.lookup x = some k → cenv.kindOf x = some (if (k == NameKind.free && env.scope.kind == .function && env.kindOf x == some .cell) then NameKind.cell else k)
  fn : cenv.scope.kind = .function
  glob : cenv.globals = env.globals
  bltn : cenv.builtins = env.builtins
  loc : h.get? cenv.locals = none
  cells : ∀ n c, cenv.cells.lookup n = some c → (env.cells.lookup n = some c ∧ (n, NameKind.free) ∈ scope.names) ∨ (h.get? c = none ∧ (n, NameKind.cell) ∈ scope.names)
  has : ∀ n k, scope.names.lookup n = some k → (k = .free ∨ k = .cell) → ∃ c, cenv.cells.lookup n = some c
  inj : ∀ x y c, cenv.cells.lookup x = some c → cenv.cells.lookup y = some c → x = y

/-- an address that is none of the block's own -/
noncomputable def Off (h : Heap) (cenv : Env) (b : Addr) : Prop := b ≠ cenv.locals ∧ ∀ x c, cenv.cells.lookup x = some c → h.get? c = none → b ≠ c
/-- the tables, one list and the block's own places aside, all stays -/
noncomputable def Stay (C : Cx) (h : Heap) (cenv : Env) (d : Addr) (h₁ h₂ : Heap) : Prop := ∀ b o, b ∉ C.Ps → b ≠ d → Off h cenv b → NoD o → h₁.get? b = some o → h₂.get? b = some o
theorem Stay.trans {C : Cx} {h : Heap} {cenv : Env} {d : Addr} {h₁ h₂ h₃ : Heap} (x : Stay C h cenv d h₁ h₂) (y : Stay C h cenv d h₂ h₃) : Stay C h cenv d h₁ h₃ := fun b o p q r f e => y b o p q r f (x b o p q r f e)
theorem Stay.of_ext {C : Cx} {h : Heap} {cenv : Env} {d : Addr} {h₁ h₂ : Heap} (x : Ext C.Ps h₁ h₂) : Stay C h cenv d h₁ h₂ := fun b o p _ _ f e => x.at p e f

/-- the block's state -/
structure CSt (Γ : Fx) (ρ : PEnv) (X : List Addr) (h : Heap) (scope : Scope) (cenv : Env) (Y : List Addr) (ρ' : PEnv) (h' : Heap) : Prop where
  ext : Ext Γ.C.Ps h h'
  tab : TabsOk Γ.C h'
  av : ∀ a ∈ Y, a ∈ X ∨ h.get? a = none
  alloc : ∀ a ∈ Y, ∃ o, h'.get? a = some o
  ns : ∃ m, h'.Ns cenv.locals m
  cell : ∀ n c, cenv.cells.lookup n = some c → h.get? c = none → ∃ v, h'.IsCell c v
  own : ∀ x i k, varOf Γ.nm x = some i → scope.names.lookup x = some k → (k = .local ∨ k = .cell) → get ρ' i ≠ .undef → ∃ pv v, get ρ' i = .val pv ∧ Slot cenv x h' v ∧ Rep h' Y pv v
  free : ∀ x i, varOf Γ.nm x = some i → scope.names.lookup x = some .free → get ρ' i ≠ .undef → get ρ i = get ρ' i

theorem none_base {C : Cx} {h : Heap} (t : TabsOk C h) {b : Addr} (e : h.get? b = none) : C.base.get? b = none := by
  cases q : C.base.get? b with
  | none => rfl
  | some o => rw [t.base b o q] at e; cases e
section
variable {Γ : Fx} {A : Around} {e₀ : Env} {h₀ : Heap} {sc : Scope} {env : Env} {ρ : PEnv} {X : List Addr} {h : Heap} {scope : Scope} {cenv : Env} {Y : List Addr} {ρ' : PEnv} {h' h'' : Heap} {d : Addr}

theorem CSt.xc (I : CIn Γ A e₀ h₀ sc env ρ X h scope cenv) (S : CSt Γ ρ X h scope cenv Y ρ' h') : XC Γ A e₀ h₀ scope cenv ρ' Y h' := by
  have hc := I.out.en
  refine { act := I.out.act.step S.ext S.tab, dep := I.out.dep, unt := I.out.unt, en := ?_, vars := ?_, alloc := S.alloc, own0 := ?_ }
  · have hce := hc.ext I.out.act.tab S.ext
    refine { kind := I.fn, glob := by rw [I.glob, hc.glob], bltn := by rw [I.bltn, hc.bltn], loc := S.ns, kloc := fun x e => ?_, kcell := fun x e => ?_, kfree := fun x e => ?_, kglob := fun x e => ?_, cell := fun x c e => ?_, inj := I.inj }
    · rw [I.kind x _ e]; rfl
    · exact ⟨by rw [I.kind x _ e]; rfl, I.has x _ e (.inr rfl)⟩
    · refine ⟨?_, I.has x _ e (.inl rfl)⟩
      rw [I.kind x _ e]
      split
      · exact .inl rfl
      · exact .inr rfl
    · rw [I.kind x _ e]; rfl
    · rcases I.cells x c e with ⟨q, _⟩ | ⟨q, _⟩
      · exact hce.cell x c q
      · exact S.cell x c e q
  · intro i x k h2 h3 hv h1
    by_cases hf : k = .free
    · subst hf
      have hρ := S.free x i h2 h3 h1
      obtain ⟨_, _, hs⟩ := okScope_mem I.ok (PySem.mem_of_lookup h3)
      have hk : ∃ k', sc.names.lookup x = some k' ∧ vis k' = true := (hs rfl).elim (fun q => ⟨_, q, rfl⟩) fun q => ⟨_, q, rfl⟩
      obtain ⟨k', hk1, hk2⟩ := hk
      obtain ⟨v, sl, r⟩ := I.out.vars i x k' h2 hk1 hk2 (hρ ▸ h1)
      rw [hρ] at r
      refine ⟨v, .inr ⟨?_, ?_⟩, (r.avoid S.av).ext I.out.act.tab S.ext⟩
      · rw [I.kind x _ h3]
        split
        · exact .inl rfl
        · exact .inr rfl
      · have sl' := sl.ext I.out.act.tab S.ext
        obtain ⟨c, hcl⟩ := I.has x _ h3 (.inl rfl)
        have hce : env.cells.lookup x = some c := by
          rcases I.cells x c hcl with ⟨q, _⟩ | ⟨_, q⟩
          · exact q
          · have := (okScope_mem I.ok q).1
            rw [h3] at this; cases this
        refine ⟨c, hcl, ?_⟩
        rcases sl' with ⟨a, _⟩ | ⟨_, c', e', ic⟩
        · exfalso
          rcases hs rfl with q | q
          · rw [(hc.kcell x q).1] at a; cases a
          · rcases (hc.kfree x q).1 with z | z <;> rw [z] at a <;> cases a
        · rw [hce] at e'; cases e'; exact ic
    · have hk : k = .local ∨ k = .cell := (vis_or hv).elim .inl fun q => q.elim .inr fun z => absurd z hf
      obtain ⟨pv, v, e, sl, r⟩ := S.own x i k h2 h3 hk h1
      exact ⟨v, sl, by rw [e]; exact r⟩
  · have none0 : ∀ c, h.get? c = none → h₀.get? c = none := fun c e => by
      cases q : h₀.get? c with
      | none => rfl
      | some o => rw [I.out.act.keep0 _ _ q] at e; cases e
    refine ⟨none0 _ I.loc, fun x c e q => ?_⟩
    rcases I.cells x c q with ⟨_, z⟩ | ⟨z, _⟩
    · have := (okScope_mem I.ok z).1
      rw [e] at this; cases this
    · exact none0 _ z
theorem CSt.sub {ρ₂ : PEnv} (S : CSt Γ ρ X h scope cenv Y ρ' h') (k : ∀ i, get ρ₂ i ≠ .undef → get ρ₂ i = get ρ' i) : CSt Γ ρ X h scope cenv Y ρ₂ h' :=
  { S with
    own := fun x i kd h1 h3 h4 h2 => by
      have e := k i h2
      rw [e] at h2 ⊢; exact S.own x i kd h1 h3 h4 h2
    free := fun x i h1 h3 h2 => by
      have e := k i h2
      rw [e] at h2 ⊢; exact S.free x i h1 h3 h2 }
theorem CSt.step (I : CIn Γ A e₀ h₀ sc env ρ X h scope cenv) (S : CSt Γ ρ X h scope cenv Y ρ' h') (k : Ext Γ.C.Ps h' h'') (t : TabsOk Γ.C h'') : CSt Γ ρ X h scope cenv Y ρ' h'' :=
  { ext := S.ext.trans k, tab := t, av := S.av, alloc := ((S.xc I).step k t).alloc, ns := let ⟨m, n⟩ := S.ns; ⟨m, Ns.ext S.tab k n⟩, cell := fun n c e f => let ⟨v, q⟩ := S.cell n c e f; ⟨v, Cell.ext S.tab k q⟩,
    own := fun x i kd h1 h2 h3 h4 => let ⟨pv, v, e, sl, r⟩ := S.own x i kd h1 h2 h3 h4; ⟨pv, v, e, sl.ext S.tab k, r.ext S.tab k⟩, free := S.free }
/-- changes at new places, of iterators or of the list that grows -/
theorem CSt.touch {Y₂ : List Addr} (hb0 : ∀ b, h.get? b = none → Γ.C.base.get? b = none) (S : CSt Γ ρ X h scope cenv Y ρ' h') (W : List Addr) (k : Exa W h' h'') (hW : ∀ b ∈ W, b ∈ Y ∧ h.get? b = none ∧ Off h cenv b ∧ (∀ o, h'.get? b = some o → ∀ vs q t, o.data = .fields vs → vs[1]? ≠ some (.str q t)))
    (hY : ∀ a ∈ Y₂, a ∈ Y) (al : ∀ b ∈ W, b ∈ Y₂ → ∃ o, h''.get? b = some o) (hP : ∀ b ∈ W, b ∉ Γ.C.Ps) : CSt Γ ρ X h scope cenv Y₂ ρ' h'' := by
  have nl : cenv.locals ∉ W := fun q => (hW _ q).2.2.1.1 rfl
  have nc : ∀ n c, cenv.cells.lookup n = some c → h.get? c = none → c ∉ W := fun n c e f q => (hW _ q).2.2.1.2 n c e f rfl
  have kp : Kp Y h' h'' := fun a o ha _ e => k a o (fun q => ha (hW a q).1) e
  refine { ext := fun b o hb e => ?_, tab := ⟨fun t ht => ?_, fun b o e => ?_⟩, av := fun a ha => S.av a (hY a ha), alloc := fun a ha => ?_, ns := let ⟨m, o, es, ep, e, r⟩ := S.ns; ⟨m, o, es, ep, k _ _ nl e, r⟩, cell := fun n c e f => let ⟨v, o, e', r⟩ := S.cell n c e f; ⟨v, o, k _ _ (nc n c e f) e', r⟩, own := fun x i kd h1 h2 h3 h4 => ?_, free := S.free }
  · obtain ⟨sl, e1, e2⟩ := S.ext b o hb e
    exact ⟨sl, k b _ (fun q => by rw [(hW b q).2.1] at e; cases e) e1, e2⟩
  · obtain ⟨ps, h1, h2⟩ := S.tab.tabs t ht
    refine ⟨ps, k _ _ (fun q => hP _ q (List.mem_map.mpr ⟨t, ht, rfl⟩)) h1, h2.imp id ?_⟩
    rintro ⟨c', e, n, c, o, vs, tk, ec, ho, hd, hv⟩
    cases ec
    exact ⟨c', e, n, c', o, vs, tk, rfl, k _ _ (fun q => (hW _ q).2.2.2 o ho vs _ _ hd hv) ho, hd, hv⟩
  · exact k b o (fun q => by rw [hb0 b ((hW b q).2.1)] at e; cases e) (S.tab.base b o e)
  · by_cases q : a ∈ W
    · exact al a q ha
    · exact k.some a q (S.alloc a (hY a ha))
  · obtain ⟨pv, v, e, sl, r⟩ := S.own x i kd h1 h2 h3 h4
    refine ⟨pv, v, e, ?_, (r.keep kp).sub hY⟩
    rcases sl with ⟨a, m, ⟨o, es, ep, e, r⟩, em⟩ | ⟨a, c, l, o, e, r⟩
    · exact .inl ⟨a, m, ⟨o, es, ep, k _ _ nl e, r⟩, em⟩
    · by_cases f : h.get? c = none
      · exact .inr ⟨a, c, l, o, k _ _ (nc x c l f) e, r⟩
      · exact .inr ⟨a, c, l, o, k _ _ (fun q => f (hW _ q).2.1) e, r⟩
/-- more to be avoided: new places -/
theorem CSt.grow {W : List Addr} (I : CIn Γ A e₀ h₀ sc env ρ X h scope cenv) (S : CSt Γ ρ X h scope cenv Y ρ' h') (k : Ext Γ.C.Ps h' h'') (t : TabsOk Γ.C h'') (hW : ∀ a ∈ W, h'.get? a = none) (al : ∀ a ∈ W, ∃ o, h''.get? a = some o) :
    CSt Γ ρ X h scope cenv (W ++ Y) ρ' h'' :=
  { S.step I k t with
    av := fun a ha => (List.mem_append.mp ha).elim (fun q => .inr (fresh_back S.tab S.ext (hW a q))) (S.av a)
    alloc := fun a ha => (List.mem_append.mp ha).elim (al a) ((S.step I k t).alloc a)
    own := fun x i kd h1 h2 h3 h4 => let ⟨pv, v, e, sl, r⟩ := S.own x i kd h1 h2 h3 h4; ⟨pv, v, e, sl.ext S.tab k, (r.grow hW).ext S.tab k⟩ }
end

end
end Mine
namespace Mine
section
open PySem.Calls
/-- a name that may be set -/
structure IsTgt (Γ : Fx) (sc : Scope) (x : Str) (i : Nat) : Prop where
  k : ∃ k, sc.names.lookup x = some k ∧ (k = .local ∨ k = .cell)
  i : varOf Γ.nm x = some i
  ok : okName x = true
/-- names that may be set, in order -/
inductive AreTgt (Γ : Fx) (sc : Scope) : List PySem.Expr → List Nat → Prop
  | nil : AreTgt Γ sc [] []
  | cons {x p i es is} : IsTgt Γ sc x i → AreTgt Γ sc es is → AreTgt Γ sc (.Name x p :: es) (i :: is)
inductive TgtOk (Γ : Fx) (sc : Scope) : PySem.Expr → Tgt → Prop
  | one {x p i} : IsTgt Γ sc x i → TgtOk Γ sc (.Name x p) (.one i)
  | many {es k p is} : AreTgt Γ sc es is → TgtOk Γ sc (.Tuple es k p) (.many is)
theorem TgtOk.kind {Γ : Fx} {sc : Scope} {e : PySem.Expr} {t : Tgt} : TgtOk Γ sc e t → if t.isOne then IsName e else IsTupT e
  | .one _ => ⟨_, _, rfl⟩
  | .many _ => ⟨_, _, _, rfl⟩
section
variable {Γ : Fx} {A : Around} {e₀ : Env} {h₀ : Heap} {sc : Scope} {env : Env} {ρ : PEnv} {X : List Addr} {h : Heap} {scope : Scope} {cenv : Env} {Y : List Addr} {ρ' : PEnv} {h' h'' : Heap} {d : Addr}

/-- a name of the block's own set -/
theorem CSt.put (S : CSt Γ ρ X h scope cenv Y ρ' h') {x : Str} {i : Nat} {pv : PV} {v : Value} {a : Addr} (hx : IsTgt Γ scope x i) (r : Rep h' Y pv v)
    (hs : Heap.SameBut a h' h'') (ha : h.get? a = none) (hb0 : Γ.C.base.get? a = none) (hd : ∃ o, h'.get? a = some o ∧ (∀ xs n, o.data ≠ .seq xs n) ∧ ∀ vs, o.data ≠ .fields vs) (hd' : ∃ o, h''.get? a = some o)
    (hns : ∃ m, h''.Ns cenv.locals m) (hcell : ∀ n c, cenv.cells.lookup n = some c → h.get? c = none → ∃ v, h''.IsCell c v) (hsl : Slot cenv x h'' v)
    (hst : ∀ y u, y ≠ x → Slot cenv y h' u → Slot cenv y h'' u) : CSt Γ ρ X h scope cenv Y (Mine.put ρ' i (.val pv)) h'' := by
  obtain ⟨o, ho, hq, hf⟩ := hd
  have kp : Kp Y h' h'' := fun b ob _ sq e => hs.extBut b ob (fun q => by
    rw [q, ho] at e; cases e
    obtain ⟨_, xs, n, hd⟩ := sq
    exact hq _ _ hd) e
  have ob : ∀ b o, b ≠ a → h'.get? b = some o → h''.get? b = some o := fun b o hb e => hs.extBut b o hb e
  refine { ext := fun b ob hb e => let ⟨sl, e1, e2⟩ := S.ext b ob hb e; ⟨sl, hs.extBut b _ (fun q => by rw [q, ha] at e; cases e) e1, e2⟩, tab := S.tab.but ob ho hf hb0, av := S.av, alloc := fun b hb => ?_, ns := hns, cell := hcell, own := fun y j kd h1 h3 h4 h2 => ?_, free := fun y j h1 h3 h2 => ?_ }
  · by_cases q : b = a
    · rw [q]; exact hd'
    · obtain ⟨o, e⟩ := S.alloc b hb; exact ⟨o, ob b o q e⟩
  · by_cases q : j = i
    · subst q
      have := varOf_inj h1 hx.i
      subst this
      exact ⟨pv, v, get_same .., hsl, r.keep kp⟩
    · rw [get_other q] at h2 ⊢
      obtain ⟨pv', u, e, sl, r'⟩ := S.own y j kd h1 h3 h4 h2
      exact ⟨pv', u, e, hst y u (fun z => by subst z; rw [hx.i] at h1; cases h1; exact q rfl) sl, r'.keep kp⟩
  · by_cases q : j = i
    · subst q
      have := varOf_inj h1 hx.i
      subst this
      obtain ⟨k, hk, hk'⟩ := hx.k
      rw [hk] at h3; cases h3
      rcases hk' with q | q <;> cases q
    · rw [get_other q] at h2 ⊢
      exact S.free y j h1 h3 h2

/-- what a store leaves -/
noncomputable def Stored (Γ : Fx) (ρ : PEnv) (X : List Addr) (h : Heap) (scope : Scope) (cenv : Env) (Y : List Addr) (ρ₂ : PEnv) (h' : Heap) {α : Type} : α → Heap → Prop := fun _ h'' => CSt Γ ρ X h scope cenv Y ρ₂ h'' ∧ ∀ b o, Off h cenv b → h'.get? b = some o → h''.get? b = some o

theorem CSt.store (I : CIn Γ A e₀ h₀ sc env ρ X h scope cenv) (S : CSt Γ ρ X h scope cenv Y ρ' h') {x : Str} {i : Nat} {pv : PV} {v : Value} (hx : IsTgt Γ scope x i) (r : Rep h' Y pv v) :
    WU Γ.C A (storeName cenv x v) h' (Stored Γ ρ X h scope cenv Y (Mine.put ρ' i (.val pv)) h') := fun s tk => by
  obtain ⟨m, n⟩ := S.ns
  obtain ⟨k, hk, hk'⟩ := hx.k
  obtain ⟨ol, es, ep, hl1, hl2, hl3⟩ := id n
  rcases hk' with rfl | rfl
  · refine wpAny_storeName_local (I.kind x _ hk) n (fun h₂ n' hs => ⟨h₂, _, rfl, ?_, fun b o hb e => hs.extBut b o hb.1 e⟩) (by rw [I.fn]; rfl)
    have cl : ∀ {c w}, h'.IsCell c w → h₂.IsCell c w := fun ⟨oc, e1, e2⟩ => ⟨oc, hs.extBut _ oc (fun q => by rw [q, hl1] at e1; cases e1; rw [hl2] at e2; cases e2) e1, e2⟩
    refine CSt.put S hx r hs I.loc (none_base I.out.act.tab I.loc) ⟨ol, hl1, fun xs k q => (by rw [hl2] at q; cases q), fun xs q => (by rw [hl2] at q; cases q)⟩ (let ⟨o, _, _, e, _⟩ := n'; ⟨o, e⟩) ⟨_, n'⟩ (fun y c e f => let ⟨w, ic⟩ := S.cell y c e f; ⟨w, cl ic⟩) (.inl ⟨I.kind x _ hk, _, n', by simp⟩) (fun y u hy sl => ?_)
    rcases sl with ⟨a, m', n1, em⟩ | ⟨a, c, l, ic⟩
    · have : m' = m := by
        obtain ⟨o1, es1, ep1, w1, w2, w3, w4⟩ := n1
        rw [hl1] at w1; cases w1
        rw [hl2] at w2; cases w2
        funext y; rw [← w4 y, ← hl3.2 y]
      subst this
      exact .inl ⟨a, _, n', by simp only [if_neg hy]; exact em⟩
    · exact .inr ⟨a, c, l, cl ic⟩
  · obtain ⟨c, hc⟩ := I.has x _ hk (.inr rfl)
    have hcf : h.get? c = none := by
      rcases I.cells x c hc with ⟨_, q⟩ | ⟨q, _⟩
      · have := (okScope_mem I.ok q).1
        rw [hk] at this; cases this
      · exact q
    obtain ⟨w₀, ic⟩ := S.cell x c hc hcf
    have hkx : cenv.kindOf x = some .cell := by rw [I.kind x _ hk]; rfl
    refine wpAny_storeName_cell I.fn hkx hc ic fun h₂ ic' hs => ⟨h₂, tk, rfl, ?_, fun b o hb e => hs.extBut b o (hb.2 x c hc hcf) e⟩
    obtain ⟨oc, c1, c2⟩ := id ic
    have hlc : cenv.locals ≠ c := fun q => by rw [← q, hl1] at c1; cases c1; rw [hl2] at c2; cases c2
    have n' : h₂.Ns cenv.locals m := ⟨ol, es, ep, hs.extBut _ _ hlc hl1, hl2, hl3⟩
    refine CSt.put S hx r hs hcf (none_base I.out.act.tab hcf) ⟨oc, c1, fun xs k q => (by rw [c2] at q; cases q), fun xs q => (by rw [c2] at q; cases q)⟩ (let ⟨o, e, _⟩ := ic'; ⟨o, e⟩) ⟨_, n'⟩ (fun y c' e f => ?_) (.inr ⟨.inl hkx, c, hc, ic'⟩) (fun y u hy sl => ?_)
    · by_cases q : c' = c
      · rw [q]; exact ⟨_, ic'⟩
      · obtain ⟨w, oc, e1, e2⟩ := S.cell y c' e f
        exact ⟨w, oc, hs.extBut c' oc q e1, e2⟩
    · rcases sl with ⟨a, m', ⟨o1, es1, ep1, w1, w2⟩, em⟩ | ⟨a, c', l, oc', e1, e2⟩
      · exact .inl ⟨a, m', ⟨o1, es1, ep1, hs.extBut _ _ hlc w1, w2⟩, em⟩
      · exact .inr ⟨a, c', l, oc', hs.extBut c' oc' (fun q => hy (I.inj y x c (q ▸ l) hc)) e1, e2⟩

theorem kp_off (S : CSt Γ ρ X h scope cenv Y ρ' h') (k : ∀ b o, Off h cenv b → h'.get? b = some o → h''.get? b = some o) : Kp Y h' h'' := by
  intro b o _ sq e
  obtain ⟨_, xs, n, hd⟩ := sq
  refine k b o ⟨fun q => ?_, fun x c hc hf q => ?_⟩ e
  · obtain ⟨m, o2, es2, ep2, z1, z2, _⟩ := S.ns
    rw [← q, e] at z1; cases z1
    rw [z2] at hd; cases hd
  · obtain ⟨w, oc, e1, e2⟩ := S.cell x c hc hf
    rw [← q, e] at e1; cases e1
    rw [e2] at hd; cases hd
/-- several names assigned in order -/
theorem CSt.assignN (I : CIn Γ A e₀ h₀ sc env ρ X h scope cenv) : ∀ {es : List PySem.Expr} {is : List Nat} {pvs : List PV} {vs : List Value} {ρ' : PEnv} {h' : Heap}, AreTgt Γ scope es is → is.length = pvs.length → CSt Γ ρ X h scope cenv Y ρ' h' → RepL h' Y pvs vs →
    WU Γ.C A (assignInOrder ((assignEach es cenv).map (·.2)) vs) h' (Stored Γ ρ X h scope cenv Y (puts ρ' is pvs) h')
  | _, _, [], vs, ρ', h', .nil, _, S, r => fun s tk => by
    cases r
    exact wpAny_assignInOrder_none ⟨h', tk, rfl, S, fun _ _ _ e => e⟩
  | _, _, _ :: _, _, _, _, .nil, hl, _, _ => nomatch hl
  | _, _, [], _, _, _, .cons _ _, hl, _, _ => nomatch hl
  | _, _, pv :: pvs, vs, ρ', h', .cons hx hxs, hl, S, r => fun s tk => by
    obtain ⟨v, vs, rfl, r1, r2⟩ := r
    refine wpAny_assignInOrder_more (wpAny_assign_Name ((CSt.store I S hx r1).go fun _ h1 tk1 p => ?_))
    exact (CSt.assignN I hxs (Nat.succ.inj hl) p.1 (r2.keep (kp_off S p.2))).go fun _ h2 tk2 p2 => ⟨h2, tk2, rfl, p2.1, fun b o hb e => p2.2 b o hb (p.2 b o hb e)⟩
theorem AreTgt.each {es : List PySem.Expr} {is : List Nat} (a : AreTgt Γ scope es is) : (assignEach es cenv).length = es.length ∧ es.length = is.length ∧ (assignEach es cenv).findIdx? (·.1) = none := by
  induction a with
  | nil => exact ⟨rfl, rfl, rfl⟩
  | @cons x p i es is _ _ ih =>
    refine ⟨congrArg (· + 1) ih.1, congrArg (· + 1) ih.2.1, ?_⟩
    show List.findIdx? _ ((false, _) :: assignEach es cenv) = _
    rw [List.findIdx?_cons, ih.2.2]; rfl
/-- a target of a comprehension's for -/
theorem CSt.assignT (I : CIn Γ A e₀ h₀ sc env ρ X h scope cenv) (S : CSt Γ ρ X h scope cenv Y ρ' h') {e : PySem.Expr} {t : Tgt} {pv : PV} {v : Value} (ht : TgtOk Γ scope e t) (hb : kbind t pv) (r : Rep h' Y pv v) :
    WU Γ.C A (assign e cenv v) h' (Stored Γ ρ X h scope cenv Y (bindT t pv ρ') h') := fun s tk => by
  cases ht with
  | one hx => exact wpAny_assign_Name (CSt.store I S hx r s tk)
  | many hx =>
    rw [hb.1.eq] at r
    obtain ⟨a, vs, rfl, ha, hT, hr⟩ := r
    obtain ⟨l1, l2, l3⟩ := hx.each (cenv := cenv)
    refine wpAny_assign_Tuple I.out.act.hh hT (by rw [l1, l2, hb.2, ← hr.length]; simp) l3 fun h1 k1 => ?_
    have k1' : ∀ b o, h'.get? b = some o → h1.get? b = some o := fun b o e => k1 b o (Nat.ne_of_lt (Heap.lt_size e)) e
    exact (CSt.assignN I hx hb.2 (S.step I (.of_keep k1') (S.tab.keeps k1')) (hr.keep fun _ _ _ _ e => k1' _ _ e)).go fun _ h2 tk2 p => ⟨h2, tk2, rfl, p.1, fun b o hb e => p.2 b o hb (k1' b o e)⟩
end

end
end Mine
namespace Mine
section
open PySem.Calls

/-- what a comprehension does once its tests hold -/
noncomputable def emitC (elt : PySem.Expr) (gens : List Comprehension) (e : PySem.Expr) (d : Nat) (acc : Value) (env : Env) : Sem Unit :=
  match gens[d]? with
  | some g' => do
    let x ← eval g'.iter env
    standAt g'.iter.pos
    let x ← if g'.is_async != 0 then foldedIterable g'.iter x else foldedSetIterable g'.iter env x
    let _ ← runOwn (.compStart e d (← holding [x] (if g'.is_async != 0 then asyncIter x else pyIter x)) acc env) env
  | none => do let _ ← call (.builtin "list.append") [acc, ← eval elt env]
theorem compTurn_at {elt target iter : PySem.Expr} {ifs : List PySem.Expr} {gens : List Comprehension} {scope : Scope} {pos : Pos} {d : Nat} {it acc : Value} {env : Env} (hg : gens[d]? = some ⟨target, iter, ifs, 0⟩) :
    compTurn (.ListComp elt gens scope pos) d it acc env = (do
      standAt iter.pos
      match ← pyNext it with
      | none => pure (.done .next)
      | some v =>
        letOwnedTupleGo target it v
        assign target env v
        let mut ok := true
        for c in ifs do
          if ok then ok ← isTrue c env (eval c env)
        if ok then
          emitC elt gens (.ListComp elt gens scope pos) (d + 1) acc env
        again (.compLoop (.ListComp elt gens scope pos) d it acc env)) := by
  unfold compTurn
  simp only [hg]
  congr 1; funext _
  show (pyNext it >>= _) = _
  congr 1; funext r
  cases r with
  | none => rfl
  | some v =>
    dsimp only
    congr 1; funext _; congr 1; funext _; congr 1; funext ok
    cases ok with
    | false => rfl
    | true =>
      simp only [if_true]
      unfold emitC
      cases gens[d + 1]? with
      | none => rfl
      | some g =>
        by_cases hz : (g.is_async != 0) = true
        · simp only [if_pos hz, bind_assoc, pure_bind]
        · simp only [if_neg hz, bind_assoc, pure_bind]

/-- the list that a comprehension fills -/
structure DL (C : Cx) (h : Heap) (cenv : Env) (Y : List Addr) (dl : Addr) : Prop where
  mem : dl ∈ Y
  off : Off h cenv dl
  notP : dl ∉ C.Ps
  new : h.get? dl = none
noncomputable abbrev testsC (ifs : List PySem.Expr) (env : Env) (ok : Bool) : Sem Bool := forIn ifs ok fun c r => if r = true then do let ok ← isTrue c env (eval c env); pure (ForInStep.yield ok) else pure (ForInStep.yield r)
/-- tests, one after another -/
noncomputable def GoodC (Γ : Fx) (sc : Scope) (ifs : List PySem.Expr) (c : PEnv → Bool) (k : PEnv → Prop) : Prop := ∀ ρ A e₀ h₀ env X h, k ρ → XC Γ A e₀ h₀ sc env ρ X h → W Γ.C A (testsC ifs env true) h fun b _ => b = c ρ
noncomputable def turnE (t : Tgt) (ids : List Nat) (x : PV) (ρ : PEnv) : PEnv := bindT t x (eraseI (t.ids ++ ids) ρ)
noncomputable def turnV (t : Tgt) (ids : List Nat) (c : PEnv → Bool) (f : PEnv → List PV) (ρ : PEnv) (x : PV) : List PV := if c (turnE t ids x ρ) then f (turnE t ids x ρ) else []
noncomputable def turnK (t : Tgt) (ids : List Nat) (c : PEnv → Bool) (kc k : PEnv → Prop) (ρ : PEnv) (x : PV) : Prop := kbind t x ∧ kc (turnE t ids x ρ) ∧ (c (turnE t ids x ρ) = true → k (turnE t ids x ρ))
/-- what is to hold of the items throughout -/
structure ZOk (z : Heap → List PV → List Value → Heap → Prop) : Prop where
  nil : ∀ h H, z h [] [] H
  mv : ∀ h Y accs vs H H', RepL H Y accs vs → Kp Y H H' → z h accs vs H → z h accs vs H'
noncomputable def zT : Heap → List PV → List Value → Heap → Prop := fun _ _ _ _ => True
theorem zT_ok : ZOk zT := ⟨fun _ _ => trivial, fun _ _ _ _ _ _ _ _ _ => trivial⟩
/-- what a clause, and those behind it, add to the list -/
noncomputable def GInZ (z : Heap → List PV → List Value → Heap → Prop) (Γ : Fx) (scope : Scope) (elt : PySem.Expr) (gens : List Comprehension) (d : Nat) (ids : List Nat) (f : PEnv → List PV) (k : PEnv → Prop) : Prop := ∀ pos A e₀ h₀ sc env ρ X h cenv ρ' Y hh accs vs dl, CIn Γ A e₀ h₀ sc env ρ X h scope cenv → k ρ' →
  CSt Γ ρ X h scope cenv Y ρ' hh → DL Γ.C h cenv Y dl → hh.PlainList dl (vs : List Value).toArray → RepL hh Y accs vs → z h accs vs hh → accs.length + (f ρ').length ≤ 16777216 →
  WU Γ.C A (emitC elt gens (.ListComp elt gens scope pos) d (.ref dl) cenv) hh fun _ h' => ∃ vs', CSt Γ ρ X h scope cenv Y (eraseI ids ρ') h' ∧ h'.PlainList dl (vs' : List Value).toArray ∧ RepL h' Y (accs ++ f ρ') vs' ∧ Stay Γ.C h cenv dl hh h' ∧ z h (accs ++ f ρ') vs' h'
noncomputable abbrev GIn := GInZ zT

section
variable {Γ : Fx} {A : Around} {e₀ : Env} {h₀ : Heap} {sc : Scope} {env : Env} {ρ : PEnv} {X : List Addr} {h : Heap} {scope : Scope} {cenv : Env} {Y : List Addr} {ρ' : PEnv} {h' h'' : Heap} {dl : Addr} {ka kb : PEnv → Prop}
theorem c_nil : GoodC Γ sc [] (fun _ => true) (fun _ => True) := fun _ _ _ _ _ _ _ _ c _ _ => by
  unfold testsC; rw [List.forIn_nil]; exact wpAny_pure (T.mk (.refl _ _) c.act.tab rfl)
theorem tests_skip {C : Cx} : ∀ {ifs : List PySem.Expr} {h : Heap}, TabsOk C h → W C A (testsC ifs env false) h fun b _ => b = false
  | [], _, t => fun _ _ => by unfold testsC; rw [List.forIn_nil]; exact wpAny_pure (T.mk (.refl _ _) t rfl)
  | e :: es, _, t => fun s tk => by
    unfold testsC
    rw [List.forIn_cons]
    refine wpAny_bind ?_
    rw [if_neg (by decide)]
    exact wpAny_pure (tests_skip t s tk)
theorem c_cons {e : PySem.Expr} {es : List PySem.Expr} {t c : PEnv → Bool} (ha : GoodT Γ sc e t ka) (hb : GoodC Γ sc es c kb) : GoodC Γ sc (e :: es) (fun ρ => t ρ && c ρ) (fun ρ => ka ρ ∧ (t ρ = true → kb ρ)) := fun ρ A e₀ h₀ env X h k x s tk => by
  unfold testsC
  rw [List.forIn_cons]
  refine wpAny_bind ?_
  rw [if_pos rfl]
  refine wpAny_bind ((ha ρ A e₀ h₀ env X h k.1 x).go fun b h1 tk1 k1 t1 r1 => wpAny_pure ?_)
  show wpAny _ _ (testsC es env b) (T Γ.C s h fun b _ => b = (t ρ && c ρ)) _ _
  cases b with
  | true => exact wpAny_mono (hb ρ A e₀ h₀ env X h1 (k.2 r1.symm) (x.step k1 t1) s tk1) (fun _ _ y => (y.later k1).imp fun _ _ _ q => by rw [q, ← r1]; rfl) fun _ _ f => f
  | false => exact wpAny_mono (tests_skip t1 s tk1) (fun _ _ y => (y.later k1).imp fun _ _ _ q => by rw [q, ← r1]; rfl) fun _ _ f => f

theorem kp_stay (S : CSt Γ ρ X h scope cenv Y ρ' h') (hd : dl ∈ Y) (k : Stay Γ.C h cenv dl h' h'') : Kp Y h' h'' := by
  intro b o hb sq e
  have sq' := sq
  obtain ⟨hc, xs, n, hd'⟩ := sq
  refine k b o (S.tab.notP e (by rcases hc with q | q <;> rw [q] <;> nofun)) (fun q => hb (q ▸ hd)) ⟨fun q => ?_, fun x c hc hf q => ?_⟩ (fun _ _ q => by rw [hd'] at q; cases q) e
  · obtain ⟨m, o2, es2, ep2, z1, z2, _⟩ := S.ns
    rw [← q, e] at z1; cases z1
    rw [z2] at hd'; cases hd'
  · obtain ⟨w, oc, e1, e2⟩ := S.cell x c hc hf
    rw [← q, e] at e1; cases e1
    rw [e2] at hd'; cases hd'
theorem list_kept {h h' : Heap} {a : Addr} {xs : Array Value} (l : h.PlainList a xs) (k : ∀ o, h.get? a = some o → h'.get? a = some o) : h'.PlainList a xs := let ⟨n, ho⟩ := l; ⟨n, k _ ho⟩
theorem list_keptE {h h' : Heap} {W : List Addr} {a : Addr} {xs : Array Value} (l : h.PlainList a xs) (k : Ext W h h') (hp : a ∉ W) : h'.PlainList a xs := let ⟨n, ho⟩ := l; ⟨n, k.at hp ho fun _ _ q => by cases q⟩
theorem get_puts_not : ∀ {is : List Nat} {xs : List PV} {ρ : PEnv} {j : Nat}, j ∉ is → get (puts ρ is xs) j = get ρ j
  | [], _, _, _, _ => by unfold puts; rfl
  | _ :: _, [], _, _, _ => rfl
  | i :: is, x :: xs, ρ, j, h => (get_puts_not fun q => h (.tail _ q)).trans (get_other fun q => h (q ▸ .head _))
theorem get_bindT_not {t : Tgt} {x : PV} {ρ : PEnv} {j : Nat} (h : j ∉ t.ids) : get (bindT t x ρ) j = get ρ j := by
  cases t with
  | one i => exact get_other fun q => h (q ▸ .head _)
  | many is => exact get_puts_not h
theorem undef_sub {is js : List Nat} {ρ₁ ρ₂ : PEnv} (hi : ∀ i ∈ js, i ∈ is) (he : ∀ i, i ∉ is → get ρ₁ i = get ρ₂ i) : ∀ i, get (eraseI is ρ₁) i ≠ .undef → get (eraseI is ρ₁) i = get (eraseI js ρ₂) i := fun i q => by
  rw [get_eraseI] at q ⊢
  by_cases hm : i ∈ is
  · rw [if_pos hm] at q; exact absurd rfl q
  · rw [if_neg hm, get_eraseI, if_neg fun z => hm (hi i z)]; exact he i hm

/-- places of an iterator beside the block's -/
structure AptW (Γ : Fx) (h : Heap) (cenv : Env) (Y Y₀ : List Addr) (dl : Addr) (hs : Heap) (fp wr : List Addr) : Prop where
  qf : ∀ b ∈ fp, Off h cenv b ∧ b ≠ dl ∧ b ∉ Γ.C.Ps
  qw : ∀ b ∈ wr, b ∈ Y ∧ h.get? b = none ∧ hs.get? b = none
  qy : ∀ a ∈ Y₀, a ∈ Y ∧ a ∉ wr
  qd : DL Γ.C h cenv Y₀ dl
/-- the state between two turns -/
structure LSt (z : Heap → List PV → List Value → Heap → Prop) (Γ : Fx) (ρ : PEnv) (X : List Addr) (h : Heap) (scope : Scope) (cenv : Env) (Y : List Addr) (ρ₁ : PEnv) (dl : Addr) (hs : Heap) (accs : List PV) (vs : List Value) (H : Heap) : Prop where
  st : CSt Γ ρ X h scope cenv Y ρ₁ H
  l : H.PlainList dl vs.toArray
  r : RepL H Y accs vs
  sty : Stay Γ.C h cenv dl hs H
  z : z h accs vs H
section
variable {z : Heap → List PV → List Value → Heap → Prop} (zk : ZOk z) {target : PySem.Expr} {it : Value} {xs : List PV} {fp wr Y₀ : List Addr} {St : Nat → Heap → Prop} {hs : Heap} {ρ₁ : PEnv} {accs : List PV} {vs : List Value} {H H1 : Heap} {i : Nat}
include zk
theorem LSt.pull (P : Pull Γ.C A Y target it xs fp wr St) (Q : AptW Γ h cenv Y Y₀ dl hs fp wr) (L : LSt z Γ ρ X h scope cenv Y ρ₁ dl hs accs vs H) (hb0 : ∀ b, h.get? b = none → Γ.C.base.get? b = none) (st : St i H) (k1 : Exa wr H H1) {Y₂ : List Addr} (hY : ∀ a ∈ Y₂, a ∈ Y) (al : ∀ b ∈ wr, b ∈ Y₂ → ∃ o, H1.get? b = some o) : LSt z Γ ρ X h scope cenv Y₂ ρ₁ dl hs accs vs H1 where
  st := L.st.touch hb0 wr k1 (fun b hb => ⟨(Q.qw b hb).1, (Q.qw b hb).2.1, (Q.qf b (P.sub b hb)).1, fun o e => by
    obtain ⟨o', e', _, q⟩ := P.apart i H st b hb
    rw [e] at e'; cases e'; exact q⟩) hY al fun b hb => (Q.qf b (P.sub b hb)).2.2
  l := list_kept L.l fun o e => k1 dl o (fun q => (Q.qf _ (P.sub _ q)).2.1 rfl) e
  r := (L.r.keep fun b o hb _ e => k1 b o (fun q => hb (Q.qw b q).1) e).avoid fun a q => .inl (hY a q)
  sty := fun b o p q r f e => k1 b o (fun z => by rw [(Q.qw b z).2.2] at e; cases e) (L.sty b o p q r f e)
  z := zk.mv _ _ _ _ _ _ L.r (fun b o hb _ e => k1 b o (fun q => hb (Q.qw b q).1) e) L.z
theorem LSt.off (Q : DL Γ.C h cenv Y dl) (L : LSt z Γ ρ X h scope cenv Y ρ₁ dl hs accs vs H) {ρ₂ : PEnv} (S : CSt Γ ρ X h scope cenv Y ρ₂ H1) (k : ∀ b o, Off h cenv b → H.get? b = some o → H1.get? b = some o) : LSt z Γ ρ X h scope cenv Y ρ₂ dl hs accs vs H1 :=
  ⟨S, list_kept L.l fun o e => k dl o Q.off e, L.r.keep (kp_off L.st k), L.sty.trans fun b o _ _ r _ e => k b o r e, zk.mv _ _ _ _ _ _ L.r (kp_off L.st k) L.z⟩
theorem LSt.step (I : CIn Γ A e₀ h₀ sc env ρ X h scope cenv) (Q : DL Γ.C h cenv Y dl) (L : LSt z Γ ρ X h scope cenv Y ρ₁ dl hs accs vs H) (k : Ext Γ.C.Ps H H1) (t : TabsOk Γ.C H1) : LSt z Γ ρ X h scope cenv Y ρ₁ dl hs accs vs H1 :=
  ⟨L.st.step I k t, list_keptE L.l k Q.notP, L.r.ext L.st.tab k, L.sty.trans (.of_ext k), zk.mv _ _ _ _ _ _ L.r (kp_of_ext L.st.tab k) L.z⟩

/-- the turns of one clause -/
theorem loop_ok (I : CIn Γ A e₀ h₀ sc env ρ X h scope cenv) {elt iter : PySem.Expr} {ifs : List PySem.Expr} {gens : List Comprehension} {pos : Pos} {d : Nat} {t : Tgt} {ids : List Nat} {c : PEnv → Bool} {f : PEnv → List PV} {kc k : PEnv → Prop} {s : Shared} {R : Result → Shared → Prop}
    (hg : gens[d]? = some ⟨target, iter, ifs, 0⟩) (ht : TgtOk Γ scope target t) (hi : GoodC Γ scope ifs c kc) (hn : GInZ z Γ scope elt gens (d + 1) ids f k) (hk : ∀ x ∈ xs, turnK t ids c kc k ρ' x) (P : Pull Γ.C A Y target it xs fp wr St) (Q : AptW Γ h cenv Y Y₀ dl hs fp wr)
    (hlen : accs.length + (xs.flatMap (turnV t ids c f ρ')).length ≤ 16777216)
    (hR : ∀ h' tk vs', LSt z Γ ρ X h scope cenv Y₀ (eraseI (t.ids ++ ids) ρ') dl hs (accs ++ xs.flatMap (turnV t ids c f ρ')) vs' h' → R (.ok .next) (Sh s h' tk))
    (st : St 0 H) (L : LSt z Γ ρ X h scope cenv Y (eraseI (t.ids ++ ids) ρ') dl hs accs vs H) (tk : Nat) : codeAny Γ.C.M A (.compLoop (.ListComp elt gens scope pos) d it (.ref dl) cenv) R (Sh s H tk) := by
  have hDY : DL Γ.C h cenv Y dl := { Q.qd with mem := (Q.qy _ Q.qd.mem).1 }
  refine codeAny_loop rfl (fun n s' => ∃ i H tk vs' accs', s' = Sh s H tk ∧ n = xs.length + 1 - i ∧ i ≤ xs.length ∧ St i H ∧ LSt z Γ ρ X h scope cenv Y (eraseI (t.ids ++ ids) ρ') dl hs accs' vs' H ∧ accs' ++ (xs.drop i).flatMap (turnV t ids c f ρ') = accs ++ xs.flatMap (turnV t ids c f ρ')) ?_ (xs.length + 1)
    ⟨0, H, tk, vs, accs, rfl, rfl, Nat.zero_le _, st, L, rfl⟩
  generalize hE : accs ++ xs.flatMap (turnV t ids c f ρ') = E at hR ⊢
  have hEl : E.length ≤ 16777216 := by rw [← hE, List.length_append]; exact hlen
  rintro n s' ⟨i, H, tk, vs', accs', rfl, rfl, hile, st, L, hacc⟩
  show wpAny _ A ((compTurn (.ListComp elt gens scope pos) d it (.ref dl) cenv).onRaise (fun x => do noteFrame x cenv; theTreesLotGoes x)) _ _ _
  refine wpAny_noted ?_
  rw [compTurn_at hg]
  refine wpAny_bind (wpAny_standAt (wpAny_bind ?_))
  by_cases hlt : i < xs.length
  · rw [List.drop_eq_getElem_cons hlt, List.flatMap_cons, ← List.append_assoc] at hacc
    have hx : xs[i]? = some xs[i] := List.getElem?_eq_getElem hlt
    obtain ⟨hb, hkc, hkn⟩ := hk _ (List.getElem_mem hlt)
    generalize xs[i] = x at hx hacc hb hkc hkn
    refine wpAny_mono (P.item i x (Sh s H tk) hx st L.st.alloc) (fun r s1 y => ?_) fun _ _ f => f.elim
    obtain ⟨v, rfl, y⟩ := y
    refine wpAny_bind (wpAny_mono y (fun _ s2 y => ?_) fun _ _ f => f.elim)
    obtain ⟨H1, tk1, rfl, k1, st1, r1⟩ := y
    have L1 := L.pull zk P Q (fun b e => none_base I.out.act.tab e) st k1 (fun _ q => q) fun b hb _ => let ⟨o, e, _⟩ := P.apart _ _ st1 b hb; ⟨o, e⟩
    refine wpAny_bind ((CSt.assignT I L1.st ht hb r1).go fun _ H2 tk2 p2 => ?_)
    have L2 := L1.off zk hDY p2.1 p2.2
    have st2 := P.frame _ _ _ st1 (fun b hb o e _ => p2.2 b o (Q.qf b hb).1 e) (kp_off L1.st p2.2)
    refine wpAny_bind ((hi _ A e₀ h₀ cenv Y H2 hkc (L2.st.xc I)).go fun ok H3 tk3 k3 t3 r3 => ?_)
    have L3 := L2.step zk I hDY k3 t3
    have st3 := P.frame _ _ _ st2 (fun b hb o e f => k3.at (Q.qf b hb).2.2 e f) (kp_of_ext L2.st.tab k3)
    have low : ∀ j, j ∉ t.ids ++ ids → get ρ' j = get (turnE t ids x ρ') j := fun j hj => by
      show _ = get (bindT _ _ _) j
      rw [get_bindT_not fun q => hj (List.mem_append_left _ q), get_eraseI, if_neg hj]
    unfold turnV at hacc
    cases ok with
    | false =>
      rw [← (show false = c (turnE t ids x ρ') from r3), if_neg (by decide), List.append_nil] at hacc
      refine wpAny_pure ⟨rfl, xs.length + 1 - (i + 1), by (first | lia | omega), i + 1, H3, tk3, vs', accs', rfl, rfl, hlt, st3, ⟨L3.st.sub fun j q => ?_, L3.l, L3.r, L3.sty, L3.z⟩, hacc⟩
      have := undef_sub (js := []) (ρ₂ := turnE t ids x ρ') (fun _ q => nomatch q) low j q
      exact this
    | true =>
      rw [← (show true = c (turnE t ids x ρ') from r3), if_pos rfl] at hacc
      have hl2 : accs'.length + (f (turnE t ids x ρ')).length ≤ 16777216 := by
        have := congrArg List.length hacc
        rw [List.length_append, List.length_append] at this
        (first | lia | omega)
      refine wpAny_bind ((hn pos A e₀ h₀ sc env ρ X h cenv _ Y H3 accs' vs' dl I (hkn r3.symm) L3.st hDY L3.l L3.r L3.z hl2).go fun _ H4 tk4 y => ?_)
      obtain ⟨vs4, S4, hl4, ha4, sty4, z4⟩ := y
      have st4 := P.frame _ _ _ st3 (fun b hb o e f => sty4 b o (Q.qf b hb).2.2 (Q.qf b hb).2.1 (Q.qf b hb).1 f e) (kp_stay L3.st hDY.mem sty4)
      exact wpAny_pure ⟨rfl, xs.length + 1 - (i + 1), by (first | lia | omega), i + 1, H4, tk4, vs4, _, rfl, rfl, hlt, st4, ⟨S4.sub (undef_sub (fun _ q => List.mem_append_right _ q) low), hl4, ha4, L3.sty.trans sty4, z4⟩, hacc⟩
  · have hie : i = xs.length := by (first | lia | omega)
    subst hie
    rw [List.drop_length, List.flatMap_nil, List.append_nil] at hacc
    refine wpAny_mono (P.done (Sh s H tk) st) (fun r s1 y => ?_) fun _ _ f => f.elim
    obtain ⟨rfl, H1, tk1, rfl, k1⟩ := y
    have L1 := L.pull zk P Q (fun b e => none_base I.out.act.tab e) st k1 (fun a q => (Q.qy a q).1) fun b hb q => absurd hb (Q.qy b q).2
    rw [hacc] at L1
    exact wpAny_pure (hR H1 tk1 vs' L1)
end
end

end
end Mine
namespace Mine
section
open PySem.Calls
theorem noSet_ok {e : PySem.Expr} {env : Env} (h : noSet e = true) (x : Value) : foldedSetIterable e env x = pure x := by
  cases e <;> first | rfl | (cases h; done)
theorem codeAny_compStart_at {prog : Program} {w : World} {A : Around} {R : Result → Shared → Prop} {s : Shared} {elt target iter : PySem.Expr} {ifs : List PySem.Expr} {gens : List Comprehension} {scope : Scope} {pos : Pos} {d : Nat} {it acc : Value} {env : Env} (hg : gens[d]? = some ⟨target, iter, ifs, 0⟩)
    (h0 : codeAny (model prog w) A (.compLoop (.ListComp elt gens scope pos) d it acc env) R s)
    (h : wpAny (model prog w) A (pyIter it) (fun it' s' => codeAny (model prog w) A (.compLoop (.ListComp elt gens scope pos) d it' acc env) R s') never s) :
    codeAny (model prog w) A (.compStart (.ListComp elt gens scope pos) d it acc env) R s := by
  refine codeAny_of_tree ?_
  show wpAny _ _ ((compStart (.ListComp elt gens scope pos) d it acc env).onRaise (fun x => do noteFrame x env; standAt theWindowsPlace)) _ _ s
  refine wpAny_notedAt ?_
  unfold compStart
  have hg' : (clausesOf (.ListComp elt gens scope pos))[d]? = some ⟨target, iter, ifs, 0⟩ := hg
  rw [hg']
  show wpAny _ _ (ask >>= _) _ _ s
  refine wpAny_bind (wpAny_askSetting (wpAny_ite ?_))
  split
  · first
      | exact wpAny_bind (wpAny_pure (wpAny_pure (And.intro rfl h0)))
      | exact wpAny_pure (And.intro rfl h0)
  · first
      | exact wpAny_bind (wpAny_rule (wpAny_bind (wpAny_standAt (wpAny_bind (wpAny_mono h (fun it' s' h' => wpAny_pure (And.intro rfl h')) fun _ _ x => x.elim)))))
      | (refine wpAny_bind (wpAny_rule ?_); show wpAny _ _ (standAt iter.pos >>= _) _ _ s; exact wpAny_bind (wpAny_standAt (wpAny_bind (wpAny_mono h (fun it' s' h' => wpAny_pure (And.intro rfl h')) fun _ _ x => x.elim))))
section
variable {Γ : Fx} {A : Around} {e₀ : Env} {h₀ : Heap} {sc : Scope} {env : Env} {ρ : PEnv} {X : List Addr} {h : Heap} {scope : Scope} {cenv : Env} {Y : List Addr} {ρ' : PEnv} {h' h'' : Heap} {dl : Addr} {ka kb kc : PEnv → Prop} {elt : PySem.Expr} {gens : List Comprehension} {d : Nat}
/-- places that an inner source leans on are none of the block's own -/
theorem off_of_leans {h₁ h₂ : Heap} {fp wr : List Addr} (S : CSt Γ ρ X h scope cenv Y ρ' h₁) (D : DL Γ.C h cenv Y dl) (hl : ∃ o, h₁.get? dl = some o) (k : Ext Γ.C.Ps h₁ h₂) (t₂ : TabsOk Γ.C h₂) (L : Leans Y h₁ h₂ fp wr) : ∀ b ∈ fp, Off h cenv b ∧ b ≠ dl ∧ b ∉ Γ.C.Ps := by
  obtain ⟨l1, l2, l3⟩ := L
  have key : ∀ b, h₁.get? b = none → Off h cenv b ∧ b ≠ dl ∧ b ∉ Γ.C.Ps := fun b e => by
    refine ⟨⟨fun q => ?_, fun x c hc hf q => ?_⟩, fun q => ?_, fun q => ?_⟩
    · obtain ⟨m, o2, es2, ep2, z1, _⟩ := S.ns
      rw [← q, e] at z1; cases z1
    · obtain ⟨w, oc, e1, e2⟩ := S.cell x c hc hf
      rw [← q, e] at e1; cases e1
    · obtain ⟨o, e'⟩ := hl
      rw [← q, e] at e'; cases e'
    · obtain ⟨ps, e'⟩ := S.tab.obj q
      rw [e] at e'; cases e'
  intro b hb
  rcases l3 b hb with q | ⟨q1, o, q2, q3⟩ | q
  · exact key b (l1 b q)
  · obtain ⟨hc, xs, n, hd'⟩ := q3
    refine ⟨⟨fun q => ?_, fun x c hc hf q => ?_⟩, fun q => q1 (q ▸ D.mem), t₂.notP q2 (by rcases hc with q | q <;> rw [q] <;> nofun)⟩
    · obtain ⟨m, nsm⟩ := S.ns
      obtain ⟨o2, es2, ep2, z1, z2, _⟩ := Ns.ext S.tab k nsm
      rw [← q, q2] at z1; cases z1
      rw [z2] at hd'; cases hd'
    · obtain ⟨w, cl⟩ := S.cell x c hc hf
      obtain ⟨oc, e1, e2⟩ := Cell.ext S.tab k cl
      rw [← q, q2] at e1; cases e1
      rw [e2] at hd'; cases hd'
  · exact key b q
theorem i_last {na : Bool} {v : PEnv → PV} (hg : gens[d]? = none) (ha : Good Γ scope elt na v ka) : GIn Γ scope elt gens d [] (fun ρ => [v ρ]) ka := by
  intro pos A e₀ h₀ sc env ρ X h cenv ρ' Y hh accs vs dl I k S hD hl hr _ hn s tk
  unfold emitC
  rw [hg]
  refine wpAny_bind ((ha ρ' A e₀ h₀ cenv Y hh k (S.xc I)).go fun u h1 tk1 k1 t1 r => ?_)
  have S1 := S.step I k1 t1
  have hl1 := list_keptE hl k1 hD.notP
  have hsz : vs.toArray.size ≤ sizeLine := by
    have := hr.length
    rw [List.size_toArray, this]
    exact Nat.le_trans (Nat.le_add_right _ _) hn
  refine wpAny_bind (wpAny_list_append_plain (s := Sh s h1 tk1) hl1 (fun h2 hl2 hs2 => ?_) hsz)
  have k2 : Exa [dl] h1 h2 := fun b o hb e => hs2.extBut b o (fun q => hb (by rw [q]; exact .head _)) e
  have S2 := S1.touch (Y₂ := Y) (fun b e => none_base I.out.act.tab e) [dl] k2 (fun b hb => by
    rw [List.mem_singleton.mp hb]
    refine ⟨hD.mem, hD.new, hD.off, fun o e ws q t hf => ?_⟩
    obtain ⟨n', e'⟩ := hl1
    rw [e] at e'; cases e'
    cases hf) (fun _ q => q) (fun b hb _ => by rw [List.mem_singleton.mp hb]; obtain ⟨o, e⟩ := hl2; exact ⟨_, e⟩) fun b hb => by rw [List.mem_singleton.mp hb]; exact hD.notP
  have kp2 : Kp Y h1 h2 := fun b o hb _ e => k2 b o (fun q => hb (by rw [List.mem_singleton.mp q]; exact hD.mem)) e
  exact wpAny_pure ⟨h2, tk1, rfl, vs ++ [u], S2, by simpa using hl2, ((hr.ext S.tab k1).snoc r.1).keep kp2, (Stay.of_ext k1).trans fun b o _ hb _ _ e => hs2.extBut b o hb e, trivial⟩
noncomputable def okR (post : Shared → Prop) : Result → Shared → Prop
  | .ok _, s' => post s'
  | .error _, _ => False
theorem i_more {target iter : PySem.Expr} {ifs : List PySem.Expr} {t : Tgt} {ids : List Nat} {fs f : PEnv → List PV} {c : PEnv → Bool} (hg : gens[d]? = some ⟨target, iter, ifs, 0⟩) (hns : noSet iter = true) (ht : TgtOk Γ scope target t) (hs : GoodS Γ scope t.isOne iter fs ka) (hi : GoodC Γ scope ifs c kc) (hn : GIn Γ scope elt gens (d + 1) ids f kb) :
    GIn Γ scope elt gens d (t.ids ++ ids) (fun ρ => (fs ρ).flatMap (turnV t ids c f ρ)) (fun ρ => ka ρ ∧ allP (turnK t ids c kc kb ρ) (fs ρ)) := by
  intro pos A e₀ h₀ sc env ρ X h cenv ρ' Y hh accs vs dl I k S hD hl hr _ hlen s tk
  unfold emitC
  rw [hg]
  refine wpAny_bind (wpAny_mono (hs ρ' A e₀ h₀ cenv Y hh target ht.kind k.1 (S.xc I) s tk) (fun x s1 y => ?_) fun _ _ f => f.elim)
  refine wpAny_bind (wpAny_standAt (wpAny_bind ?_))
  show wpAny _ A (foldedSetIterable iter cenv x) _ _ _
  refine wpAny_of_eq (noSet_ok hns x) (wpAny_bind ?_)
  show wpAny _ A (holding [x] (pyIter x)) _ _ _
  refine wpAny_holding (wpAny_mono y (fun it s2 y => ?_) fun _ _ f => f.elim)
  obtain ⟨h1, tk1, rfl, k1, t1, fp, wr, L, P⟩ := y
  obtain ⟨St, P, st0⟩ := P [] fun _ q => nomatch q
  rw [List.nil_append] at P
  obtain ⟨l1, l2, l3⟩ := id L
  have S1 := (S.grow I k1 t1 l1 fun a q => l2 a (P.sub a q)).sub (ρ₂ := eraseI (t.ids ++ ids) ρ') (undef_sub (js := []) (fun _ q => nomatch q) fun _ _ => rfl)
  have Q : AptW Γ h cenv (wr ++ Y) Y dl hh fp wr := ⟨off_of_leans S hD (let ⟨o, e⟩ := hl; ⟨_, e⟩) k1 t1 L, fun b hb => ⟨List.mem_append_left _ hb, fresh_back S.tab S.ext (l1 b hb), l1 b hb⟩,
    fun a q => ⟨List.mem_append_right _ q, fun z => by obtain ⟨o, e⟩ := S.alloc a q; rw [l1 a z] at e; cases e⟩, hD⟩
  have loop : ∀ tk', codeAny Γ.C.M A (.compLoop (.ListComp elt gens scope pos) d it (.ref dl) cenv)
      (okR fun s' => ∃ h' tk, s' = Sh s h' tk ∧ ∃ vs', CSt Γ ρ X h scope cenv Y (eraseI (t.ids ++ ids) ρ') h' ∧ h'.PlainList dl (vs' : List Value).toArray ∧ RepL h' Y (accs ++ (fs ρ').flatMap (turnV t ids c f ρ')) vs' ∧ Stay Γ.C h cenv dl hh h' ∧ zT h [] vs' h') (Sh s h1 tk') := fun tk' =>
    loop_ok zT_ok I hg ht hi hn k.2.mem P Q hlen (fun h' tk vs' L' => ⟨h', tk, rfl, vs', L'.st, L'.l, L'.r, L'.sty, trivial⟩) st0 ⟨S1, list_keptE hl k1 hD.notP, (hr.grow l1).ext S.tab k1, .of_ext k1, trivial⟩ tk'
  refine wpAny_bind (wpAny_runOwn ?_)
  show codeAny Γ.C.M A _ _ _
  refine codeAny_mono (codeAny_compStart_at hg (loop tk1) (wpAny_mono (P.self 0 (Sh s h1 tk1) st0) (fun it' s' q => ?_) fun _ _ f => f.elim)) fun r s' q => ?_
  · obtain ⟨rfl, rfl⟩ := q
    exact loop tk1
  · cases r with
    | ok f => exact wpAny_pure q
    | error e => exact q.elim
end

end
end Mine
namespace Mine
section
open PySem.Calls
noncomputable def freeOf (nm : List Str) (scope : Scope) : List Nat := (List.range nm.length).filter fun i => match nm[i]? with
  | some x => scope.names.lookup x == some .free
  | none => false
theorem freeOf_not {nm : List Str} {scope : Scope} {x : Str} {i : Nat} {k : NameKind} (h1 : varOf nm x = some i) (h2 : scope.names.lookup x = some k) (h3 : k = .local ∨ k = .cell) : (freeOf nm scope).contains i = false := by
  cases hc : (freeOf nm scope).contains i with
  | false => rfl
  | true =>
    have hm := List.contains_iff_mem.mp hc
    unfold freeOf at hm
    rw [List.mem_filter, varOf_ok h1] at hm
    have h4 : (scope.names.lookup x == some .free) = true := hm.2
    rw [h2] at h4
    rcases h3 with rfl | rfl <;> cases h4
/-- a comprehension's parts -/
structure CompOkZ (z : Heap → List PV → List Value → Heap → Prop) (Γ : Fx) (sc scope : Scope) (elt target iter : PySem.Expr) (ifs : List PySem.Expr) (gs : List Comprehension) (t : Tgt) (ids : List Nat) (fs f : PEnv → List PV) (c : PEnv → Bool) (ka kb kc : PEnv → Prop) : Prop where
  ok : okScope sc scope = true
  ns : noSet iter = true
  ht : TgtOk Γ scope target t
  hs : GoodS Γ sc t.isOne iter fs ka
  hi : GoodC Γ scope ifs c kc
  hn : GInZ z Γ scope elt (⟨target, iter, ifs, 0⟩ :: gs) 1 ids f kb
noncomputable abbrev CompOk := CompOkZ zT
section
variable {Γ : Fx} {A : Around} {e₀ : Env} {h₀ : Heap} {sc : Scope} {env : Env} {ρ : PEnv} {X : List Addr} {h : Heap} {scope : Scope} {elt target iter : PySem.Expr} {ifs : List PySem.Expr} {gs : List Comprehension} {t : Tgt} {ids : List Nat} {fs f : PEnv → List PV} {c : PEnv → Bool} {ka kb kc : PEnv → Prop}
noncomputable def cV (ks : List Nat) (t : Tgt) (ids : List Nat) (c : PEnv → Bool) (fs f : PEnv → List PV) (ρ : PEnv) : List PV := (fs ρ).flatMap (turnV t ids c f (keepI ks ρ))
noncomputable def cK (ks : List Nat) (t : Tgt) (ids : List Nat) (c : PEnv → Bool) (fs f : PEnv → List PV) (ka kb kc : PEnv → Prop) (ρ : PEnv) : Prop := ka ρ ∧ allP (turnK t ids c kc kb (keepI ks ρ)) (fs ρ) ∧ (cV ks t ids c fs f ρ).length ≤ 16777216
noncomputable abbrev compV (nm : List Str) (scope : Scope) := cV (freeOf nm scope)
noncomputable abbrev compK (nm : List Str) (scope : Scope) := cK (freeOf nm scope)
/-- a list comprehension, up to what is then done with its list -/
theorem comp_core {z : Heap → List PV → List Value → Heap → Prop} (zk : ZOk z) (O : CompOkZ z Γ sc scope elt target iter ifs gs t ids fs f c ka kb kc) {pos pos' : Pos} {use : Option (Value → Sem Unit)} {s : Shared} {tk : Nat} {Q : Value → Shared → Prop} (hk : compK Γ.nm scope t ids c fs f ka kb kc ρ) (x : XC Γ A e₀ h₀ sc env ρ X h)
    (hQ : ∀ dl Cl h' tk vs m', h.get? dl = none → h.get? Cl = none → dl ≠ Cl → Ext Γ.C.Ps h h' → TabsOk Γ.C h' → h'.Ns Cl m' → h'.PlainList dl (vs : List Value).toArray → RepL h' X (compV Γ.nm scope t ids c fs f ρ) vs → z h (compV Γ.nm scope t ids c fs f ρ) vs h' → compPost Γ.C.M A never use Q (.ref dl) Cl (.ok .next) (Sh s h' tk)) :
    wpAny Γ.C.M A (comprehension (.ListComp elt (⟨target, iter, ifs, 0⟩ :: gs) scope pos) scope env pos' (newList []) false (eval iter env) use) Q never (Sh s h tk) := by
  have hok := O.ok
  obtain ⟨cl, hcl, cl1, cl2⟩ := closure_ok (env := env) (scope := scope) fun y hx => by
    obtain ⟨_, _, h3⟩ := okScope_mem hok hx
    rcases h3 rfl with q | q
    · exact (x.en.kcell y q).2
    · exact (x.en.kfree y q).2
  refine wpAny_comprehension_free rfl (fun x => noSet_ok O.ns x) hcl (okScope_fn hok) (fun x hx hl => by rw [← hl]; exact (okScope_mem hok (x := x.1) (k := x.2) hx).1) ?_
  refine wpAny_mono (O.hs ρ A e₀ h₀ env X h target O.ht.kind hk.1 x s tk) (fun u s1 y => ?_) fun _ _ f => f.elim
  refine wpAny_mono y (fun it s2 y => ?_) fun _ _ f => f.elim
  obtain ⟨h1, tk1, rfl, k, t1, fp, wr, L, P⟩ := y
  refine wpAny_newObj_type (newComp ?_)
  dsimp only
  generalize hH2 : h1.push { cls := .type "list", dict := none, data := .seq ([] : List Value).toArray } = H2
  have hD2 : H2.get? h1.objs.size = some { cls := .type "list", dict := none, data := .seq ([] : List Value).toArray } := hH2 ▸ Heap.get?_push_size _ rfl
  have k2 : ∀ b o, h1.get? b = some o → H2.get? b = some o := fun b o e => hH2 ▸ Heap.get?_push_of_some _ e
  have hsz2 : H2.objs.size = h1.objs.size + 1 := by rw [← hH2, Heap.size_push]
  generalize hH3 : H2.push { cls := .type "dict", data := .dict #[] } = H3
  have hsz3 : H3.objs.size = H2.objs.size + 1 := by rw [← hH3, Heap.size_push]
  have k3 : ∀ b o, H2.get? b = some o → H3.get? b = some o := fun b o e => hH3 ▸ Heap.get?_push_of_some _ e
  have hns3 : H3.Ns H2.objs.size (fun _ => none) := hH3 ▸ Heap.Ns.new H2 (.type "dict")
  rw [← hsz3]
  have k4 : ∀ b o, H3.get? b = some o → (pushCells H3 scope.names).get? b = some o := pushCells_keeps _ _
  obtain ⟨c1, c2, c3, c4⟩ := cells_laid scope.names H3 cl
    (fun y a q => by
      obtain ⟨v, ic⟩ := x.en.cell y a (cl1 y a q).1
      exact ⟨v, (Cell.ext x.act.tab k ic).keeps fun b o e => k3 b o (k2 b o e)⟩)
    (fun y z a q q' => x.en.inj y z a (cl1 y a q).1 (cl1 z a q').1)
  generalize hH4 : pushCells H3 scope.names = H4 at k4 c1
  have k13 : ∀ b o, h1.get? b = some o → H4.get? b = some o := fun b o e => k4 b o (k3 b o (k2 b o e))
  have back : ∀ a, h1.get? a = none → h.get? a = none := fun a e => fresh_back t1 k e
  have none13 : ∀ a, H3.get? a = none → h1.get? a = none := fun a e => by
    cases q : h1.get? a with
    | none => rfl
    | some o => rw [k3 _ _ (k2 _ _ q)] at e; cases e
  have fD : h1.get? h1.objs.size = none := fresh_none (Nat.le_refl _)
  have fL : h1.get? H2.objs.size = none := fresh_none (by rw [hsz2]; exact Nat.le_succ _)
  have hDL : h1.objs.size ≠ H2.objs.size := by rw [hsz2]; exact Nat.ne_of_lt (Nat.lt_succ_self _)
  have notFree : ∀ x, (x, NameKind.free) ∈ scope.names → (x, NameKind.cell) ∉ scope.names := fun x q q' => by
    have a1 := (okScope_mem hok q).1
    rw [(okScope_mem hok q').1] at a1; cases a1
  have hcells : ∀ x a, (cellsFrom H3.objs.size scope.names cl).lookup x = some a → (env.cells.lookup x = some a ∧ (x, NameKind.free) ∈ scope.names) ∨ (H3.get? a = none ∧ (x, NameKind.cell) ∈ scope.names) := fun x a q => by
    by_cases hm : (x, NameKind.cell) ∈ scope.names
    · obtain ⟨a', e1, e2⟩ := c4 x hm
      rw [q] at e1; cases e1
      exact .inr ⟨e2, hm⟩
    · rw [c3 x hm] at q
      exact .inl (cl1 x a q)
  let cenv : Env := { scope := relabel scope env, locals := H2.objs.size, globals := env.globals, cells := cellsFrom H3.objs.size scope.names cl, qual := env.qual, func := none, code := env.code, frame := env.frame, builtins := env.builtins }
  show codeAny Γ.C.M A (.compStart (.ListComp elt (⟨target, iter, ifs, 0⟩ :: gs) scope pos) 0 it (.ref h1.objs.size) cenv) (compPost Γ.C.M A never use Q (.ref h1.objs.size) H2.objs.size) (Sh s H4 tk1)
  have I : CIn Γ A e₀ h₀ sc env ρ X h scope cenv :=
    { out := x, ok := hok, kind := fun x k e => kind_relabel (cenv := cenv) e, fn := (by show scope.kind = _; exact okScope_fn hok), glob := rfl, bltn := rfl, loc := back _ fL,
      cells := fun x a q => (hcells x a q).imp id fun z => ⟨back _ (none13 _ z.1), z.2⟩,
      has := fun x k e hk => by
        have hm := PySem.mem_of_lookup e
        rcases hk with rfl | rfl
        · obtain ⟨a, q⟩ := cl2 x hm
          exact ⟨a, by show (cellsFrom H3.objs.size scope.names cl).lookup x = _; rw [c3 x (notFree x hm)]; exact q⟩
        · obtain ⟨a, q, _⟩ := c4 x hm
          exact ⟨a, q⟩,
      inj := fun x y a q q' => c2 x y a q q' }
  obtain ⟨l1, l2, l3⟩ := id L
  have hDY : DL Γ.C h cenv (h1.objs.size :: X) h1.objs.size :=
    { mem := .head _
      off := ⟨hDL, fun y a q hf e => by
        rcases hcells y a q with ⟨z, _⟩ | ⟨z, _⟩
        · obtain ⟨v, o, e', _⟩ := x.en.cell y a z
          rw [hf] at e'; cases e'
        · rw [← e, k3 _ _ hD2] at z; cases z⟩
      notP := fun q => by
        obtain ⟨ps, e⟩ := t1.obj q
        rw [fD] at e; cases e
      new := back _ fD }
  obtain ⟨St, P, st0⟩ := P [h1.objs.size] fun a q => by rw [List.mem_singleton.mp q]; exact fD
  have x13 : Ext Γ.C.Ps h H4 := k.trans (.of_keep k13)
  have t4 : TabsOk Γ.C H4 := t1.keeps k13
  have freshNe : ∀ b a, (∃ o, h1.get? b = some o) → h1.get? a = none → b ≠ a := fun b a q e z => by
    obtain ⟨o, q⟩ := q
    rw [z, e] at q; cases q
  have Q' : AptW Γ h cenv ([h1.objs.size] ++ (wr ++ X)) (h1.objs.size :: X) h1.objs.size h fp wr :=
    { qf := fun b hb => by
        have al := l2 b hb
        refine ⟨⟨freshNe _ _ al fL, fun y a q hf => ?_⟩, freshNe _ _ al fD, ?_⟩
        · rcases hcells y a q with ⟨z, _⟩ | ⟨z, _⟩
          · obtain ⟨v, o, e', _⟩ := x.en.cell y a z
            rw [hf] at e'; cases e'
          · exact freshNe _ _ al (none13 _ z)
        · have key : h.get? b = none → b ∉ Γ.C.Ps := fun e q => by
            obtain ⟨ps, e'⟩ := x.act.tab.obj q
            rw [e] at e'; cases e'
          rcases l3 b hb with q | ⟨_, o, e, hc, _⟩ | q
          · exact key (l1 b q)
          · exact t1.notP e (by rcases hc with q | q <;> rw [q] <;> nofun)
          · exact key q
      qw := fun b hb => ⟨List.mem_append_right _ (List.mem_append_left _ hb), l1 b hb, l1 b hb⟩
      qy := fun a q => by
        rcases List.mem_cons.mp q with rfl | q
        · exact ⟨.head _, fun z => by obtain ⟨o, e⟩ := l2 _ (P.sub _ z); rw [fD] at e; cases e⟩
        · exact ⟨List.mem_append_right _ (List.mem_append_right _ q), fun z => by obtain ⟨o, e⟩ := x.alloc a q; rw [l1 a z] at e; cases e⟩
      qd := hDY }
  have S : CSt Γ ρ X h scope cenv ([h1.objs.size] ++ (wr ++ X)) (eraseI (t.ids ++ ids) (keepI (freeOf Γ.nm scope) ρ)) H4 :=
    { ext := x13, tab := t4
      av := fun a q => by
        rcases List.mem_append.mp q with q | q
        · rw [List.mem_singleton.mp q]; exact .inr (back _ fD)
        · rcases List.mem_append.mp q with q | q
          · exact .inr (l1 a q)
          · exact .inl q
      alloc := fun a q => by
        rcases List.mem_append.mp q with q | q
        · rw [List.mem_singleton.mp q]; exact ⟨_, k4 _ _ (k3 _ _ hD2)⟩
        · rcases List.mem_append.mp q with q | q
          · obtain ⟨o, e⟩ := l2 a (P.sub a q); exact ⟨o, k13 _ _ e⟩
          · obtain ⟨o, e⟩ := (x.step k t1).alloc a q; exact ⟨o, k13 _ _ e⟩
      ns := ⟨_, hns3.keeps k4⟩
      cell := fun x a q _ => c1 x a q
      own := fun y i kd h1 h3 h4 h2 => by
        exfalso
        rw [get_eraseI] at h2
        split at h2
        · exact h2 rfl
        · rw [get_keepI, freeOf_not h1 h3 h4] at h2; exact h2 rfl
      free := fun y i h1 h3 h2 => by
        rw [get_eraseI] at h2 ⊢
        split at h2
        · exact absurd rfl h2
        · rename_i hm
          rw [if_neg hm, get_keepI]
          rw [get_keepI] at h2
          cases hc : (freeOf Γ.nm scope).contains i with
          | true => rfl
          | false => rw [hc] at h2; exact absurd rfl h2 }
  have st4 : St 0 H4 := P.frame _ _ _ st0 (fun b _ o e _ => k13 b o e) fun b o _ _ e => k13 b o e
  have loop : codeAny Γ.C.M A (.compLoop (.ListComp elt (⟨target, iter, ifs, 0⟩ :: gs) scope pos) 0 it (.ref h1.objs.size) cenv) (compPost Γ.C.M A never use Q (.ref h1.objs.size) H2.objs.size) (Sh s H4 tk1) :=
    loop_ok zk (accs := []) (vs := []) I rfl O.ht O.hi O.hn hk.2.1.mem P Q' (by rw [List.length_nil, Nat.zero_add]; exact hk.2.2)
      (fun h' tk' vs' L' => by
        obtain ⟨m', nsm⟩ := L'.st.ns
        exact hQ h1.objs.size H2.objs.size h' tk' vs' m' (back _ fD) (back _ fL) hDL L'.st.ext L'.st.tab nsm L'.l (L'.r.avoid fun a q => .inl (.tail _ q)) L'.z)
      st4 ⟨S, ⟨_, k4 _ _ (k3 _ _ hD2)⟩, rfl, .of_ext x13, zk.nil _ _⟩ tk1
  refine codeAny_compStart_at rfl loop (wpAny_mono (P.self 0 (Sh s H4 tk1) st4) (fun it' s' q => ?_) fun _ _ f => f.elim)
  obtain ⟨rfl, rfl⟩ := q
  exact loop
theorem ns_off {H H' : Heap} {Cl : Addr} {m' : Str → Option Value} (n : H.Ns Cl m') (hs : Heap.SameBut Cl H H') (Y : List Addr) : Kp Y H H' := fun a o _ sq e => hs.extBut a o (fun q => by
  obtain ⟨o2, es2, ep2, z1, z2, _⟩ := n
  rw [← q, e] at z1; cases z1
  obtain ⟨_, xs, n, hd⟩ := sq
  rw [z2] at hd; cases hd) e
/-- a list comprehension's list, and its items -/
theorem g_compZ {z : Heap → List PV → List Value → Heap → Prop} (zk : ZOk z) (O : CompOkZ z Γ sc scope elt target iter ifs gs t ids fs f c ka kb kc) {pos : Pos} {ρ : PEnv} {A : Around} {e₀ : Env} {h₀ : Heap} {env : Env} {X : List Addr} {h : Heap} (hk : compK Γ.nm scope t ids c fs f ka kb kc ρ) (x : XC Γ A e₀ h₀ sc env ρ X h) :
    W Γ.C A (eval (.ListComp elt (⟨target, iter, ifs, 0⟩ :: gs) scope pos) env) h fun u h' => ∃ (dl : Addr) (vs : List Value), u = .ref dl ∧ h.get? dl = none ∧ h'.PlainList dl vs.toArray ∧ RepL h' X (compV Γ.nm scope t ids c fs f ρ) vs ∧ z h (compV Γ.nm scope t ids c fs f ρ) vs h' :=
  fun s tk => by
    rw [eval_ListComp]
    refine comp_core (use := none) zk O hk x fun dl Cl h' tk vs m' f1 f2 hne k t nsm hl hr hz => ?_
    refine ⟨m', nsm, fun h'' hs'' => T.mk (fun b o hb e => let ⟨sl, e1, e2⟩ := k b o hb e; ⟨sl, hs''.extBut b _ (fun q => by rw [q, f2] at e; cases e) e1, e2⟩) ?_ ⟨dl, vs, rfl, f1, let ⟨n, e⟩ := hl; ⟨n, hs''.extBut _ _ hne e⟩, hr.keep (ns_off nsm hs'' X), zk.mv _ _ _ _ _ _ hr (ns_off nsm hs'' X) hz⟩⟩
    obtain ⟨o, ho, hd⟩ := Ns.data nsm
    exact t.but (fun b o hb e => hs''.extBut b o hb e) ho hd (none_base x.act.tab f2)
theorem g_comp (O : CompOk Γ sc scope elt target iter ifs gs t ids fs f c ka kb kc) {pos : Pos} : Good Γ sc (.ListComp elt (⟨target, iter, ifs, 0⟩ :: gs) scope pos) true (fun ρ => .lst (compV Γ.nm scope t ids c fs f ρ)) (compK Γ.nm scope t ids c fs f ka kb kc) :=
  fun ρ A e₀ h₀ env X h hk x => (g_compZ zT_ok O hk x).imp fun u h' _ _ ⟨dl, vs, e, f1, l, r, _⟩ => by
    subst e
    refine ⟨⟨dl, vs, rfl, fun q => ?_, l.isList, r⟩, fun _ a e => by cases e; exact ⟨f1, let ⟨n, e⟩ := l; ⟨_, e, rfl, rfl⟩⟩⟩
    obtain ⟨o, e⟩ := x.alloc dl q
    rw [f1] at e; cases e
end

end
end Mine
namespace Mine
section
open PySem.Calls
section
variable {Γ : Fx} {C : Cx} {sc : Scope} {A : Around} {X : List Addr} {h : Heap} {l r c : PySem.Expr} {na nb nc : Bool} {va vb vc : PEnv → PV} {ka kb kc : PEnv → Prop} {t : PEnv → Bool} {kt : PEnv → Prop} {e₀ : Env} {h₀ : Heap} {env : Env} {ρ : PEnv} {x : Str} {p pos : Pos} {i : Nat} {k : NameKind}
theorem g_if (ht : GoodT Γ sc c t kt) (ha : Good Γ sc l na va ka) (hb : Good Γ sc r nb vb kb) : Good Γ sc (.IfExp c l r p) false (fun ρ => if t ρ then va ρ else vb ρ) (fun ρ => kt ρ ∧ (t ρ = true → ka ρ) ∧ (t ρ = false → kb ρ)) :=
  fun ρ A e₀ h₀ env X h k c s tk => IfExp_ ((ht ρ A e₀ h₀ env X h k.1 c).go fun b h1 tk1 k1 t1 e => by
    have e : b = t ρ := e
    cases b with
    | true =>
      refine (ha ρ A e₀ h₀ env X h1 (k.2.1 e.symm) (c.step k1 t1)).go fun u h2 tk2 k2 t2 r => ?_
      exact T.mk (k1.trans k2) t2 ⟨by dsimp only; rw [← e]; exact r.1, nofun⟩
    | false =>
      refine (hb ρ A e₀ h₀ env X h1 (k.2.2 e.symm) (c.step k1 t1)).go fun u h2 tk2 k2 t2 r => ?_
      exact T.mk (k1.trans k2) t2 ⟨by dsimp only; rw [← e]; exact r.1, nofun⟩)
theorem g_or2 (ha : Good Γ sc l na va ka) (hb : Good Γ sc r nb vb kb) : Good Γ sc (.BoolOp .Or [l, r] p) false (fun ρ => if tv (va ρ) then va ρ else vb ρ) (fun ρ => ka ρ ∧ tk (va ρ) ∧ (tv (va ρ) = false → kb ρ)) :=
  fun ρ A e₀ h₀ env X h k c s tk => BoolOp_or ((ha ρ A e₀ h₀ env X h k.1 c).go fun u h1 tk1 k1 t1 r1 => wpAny_mono (tru_ok (s := Sh s h1 tk1) r1.1 k.2.1) (fun b s2 y => by
    obtain ⟨e, h2, tk2, rfl, k2⟩ := y
    have k3 := k1.trans (.of_keep k2)
    have t3 := t1.keeps k2
    cases b with
    | true =>
      rw [if_pos rfl]
      exact T.mk k3 t3 ⟨by dsimp only; rw [← e]; exact r1.1.ext t1 (.of_keep k2), nofun⟩
    | false =>
      rw [if_neg (by decide)]
      refine BoolOp_one ((hb ρ A e₀ h₀ env X h2 (k.2.2 e.symm) (c.step k3 t3)).go fun u h4 tk4 k4 t4 r4 => ?_)
      exact T.mk (k3.trans k4) t4 ⟨by dsimp only; rw [← e]; exact r4.1, nofun⟩) fun _ _ f => f.elim)
noncomputable def mxL : List Int → Int
  | [] => 0
  | n :: ns => maxL n ns
theorem g_max1 (hg : IsGlob Γ sc x (.builtin "max")) (hs : noStar l) (ha : Good Γ sc l na va ka) : Good Γ sc (.Call (.Name x p) [l] [] pos) false (fun ρ => .int (mxL ((asL (va ρ)).map asI))) (fun ρ => ka ρ ∧ isL (va ρ) ∧ allP isI (asL (va ρ)) ∧ asL (va ρ) ≠ []) :=
  fun ρ A e₀ h₀ env X h k c s tk => bi_go hg trivial (l_cons hs ha l_nil) ⟨k.1, trivial⟩ c fun h1 tk1 us k1 t1 r => by
    obtain ⟨v, q, rfl, r, rfl⟩ := r
    rw [k.2.1.eq] at r
    obtain ⟨a, us, rfl, _, hl, hr⟩ := r
    rw [ints_eq k.2.2.1] at hr
    have hi := hr.ints
    have hne := k.2.2.2
    cases e : (asL (va ρ)).map asI with
    | nil => exact absurd (List.map_eq_nil_iff.mp e) hne
    | cons n ns =>
      rw [e] at hi
      exact wpAny_mono (b_max c.act.hh hl hi) (fun _ _ g => int_T k1 t1 (show Kept (Sh s h1 tk1) (IsInt (mxL ((asL (va ρ)).map asI))) _ _ by rw [e]; exact g)) fun _ _ f => f.elim
noncomputable def krange2 (a n : Int) : Prop := Builtin.Range.small a n 1 = true ∧ 0 ≤ Builtin.Range.rangeSize a n 1
theorem s_range2 (hg : IsGlob Γ sc x (.type "range")) (hs : noStar l) (hs' : noStar r) (ha : Good Γ sc l na va ka) (hb : Good Γ sc r nb vb kb) : GoodS Γ sc true (.Call (.Name x p) [l, r] [] pos) (fun ρ => zs (rng (asI (va ρ)) 1 (Builtin.Range.rangeSize (asI (va ρ)) (asI (vb ρ)) 1).toNat)) (fun ρ => ka ρ ∧ kb ρ ∧ isI (va ρ) ∧ isI (vb ρ) ∧ krange2 (asI (va ρ)) (asI (vb ρ))) :=
  fun ρ A e₀ h₀ env X h tgt ht k c s tk => bi_go hg trivial (l_cons hs ha (l_cons hs' hb l_nil)) ⟨k.1, k.2.1, trivial⟩ c fun h1 tk1 us k1 t1 r => by
    obtain ⟨v, q, rfl, r, u, q', rfl, r', rfl⟩ := r
    rw [k.2.2.1.eq] at r
    rw [k.2.2.2.1.eq] at r'
    obtain ⟨t, rfl⟩ := r
    obtain ⟨t', rfl⟩ := r'
    refine wpAny_mono b_range2 (fun v s2 y => ?_) fun _ _ f => f.elim
    obtain ⟨h2, tk2, rfl, k2, ⟨rr, t1', t2', t3', rfl, hr⟩, _⟩ := y
    exact wpAny_mono (iter_range (C := Γ.C) (X := X) (s := Sh s h2 tk2) c.act.hh ht hr k.2.2.2.2.1 k.2.2.2.2.2) (fun _ _ y => iter_T (k1.trans (.of_keep k2)) (t1.keeps k2) y) fun _ _ f => f.elim
end

end
end Mine
namespace Mine
section
open PySem.Calls
section
variable {prog : Program} {w : World} {A : Around} {E : Value → Shared → Prop} {s : Shared}
theorem lri_no_len : typeLookup (.type "list_reverseiterator") "__len__" = pure none := by rw [typeLookup_type, builtinLookup_eq_fast]; kernel_rfl
theorem lri_hint : typeLookup (.type "list_reverseiterator") "__length_hint__" = pure (some (.builtin "list_reverseiterator.__length_hint__")) := by rw [typeLookup_type, builtinLookup_eq_fast]; kernel_rfl
theorem sub_lri : isSubtype (.type "list_reverseiterator") (.type "list_reverseiterator") = pure true := by rw [isSubtype_type]; kernel_rfl
set_option maxRecDepth 100000
theorem hint_rev {I l : Addr} {i : Int} {Q : Bool → Shared → Prop} (hi : s.heap.IsRevIter I l i) (h : Q false s) : wpAny (model prog w) A (Builtin.List.listLengthHint (.ref I)) Q E s := by
  unfold Builtin.List.listLengthHint
  refine wpAny_bind (wpAny_specialOf hi.typeIs lri_no_len ?_)
  show wpAny _ _ (specialOf (Value.ref I) (Str.ofString "__length_hint__") >>= _) _ _ _
  refine wpAny_bind (wpAny_specialOf hi.typeIs lri_hint ?_)
  generalize hid : ("list_reverseiterator.__length_hint__" : String) = id0
  wp_delta
  rw [show splitId id0 = some ("list_reverseiterator", "__length_hint__") from by subst hid; decide +kernel]
  subst hid
  refine wpAny_bind (wpAny_isInstance (T := "list_reverseiterator") (b := true) hi.typeIs sub_lri ?_)
  refine wpAny_ite_split (fun hab => absurd hab (by decide)) (fun _ => ?_)
  refine wpAny_ite_split (fun _ => ?_) (fun hab => absurd (by decide +kernel) hab)
  refine wpAny_ite_split (fun hab => absurd hab (by decide +kernel)) (fun _ => ?_)
  exact wpAny_pure h
theorem extend_rev {R : Result → Shared → Prop} {I l : Addr} {vs : List Value} (hh : A.handled = none) (hi : s.heap.IsRevIter I l ((vs.length : Int) - 1)) (hl : s.heap.IsList l vs.toArray) (hne : l ≠ I) (hn : vs.length ≤ sizeLine) (S : Addr) (res : Value) (c₀ : Nat) (hS : s.heap.get? S = some { cls := .type "list", data := .seq #[] c₀ }) (hSl : S ≠ l)
    (hR : ∀ h' tk acc' c', (∀ b o, b ≠ S → b ≠ I → s.heap.get? b = some o → h'.get? b = some o) → h'.get? S = some { cls := .type "list", dict := none, data := .seq acc' c', slots := #[] } →
      ItemsOf (fun i v => vs.toArray[vs.toArray.size - 1 - i]? = some v) acc' vs.toArray.size → R (.ok (.ret res)) { s with heap := h', toks := tk }) :
    wpAny (model prog w) A.in1 (Builtin.List.listExtendWith (.ref S) (.ref I) res)
      (fun fin s' => match fin with | .done f => R (.ok f) s' | .again c' => c'.quiet = true ∧ codeAny (model prog w) A c' R s') (fun e s' => R (.error e) s') s := by
  have hSI : S ≠ I := fun e => by obtain ⟨o, ho, hc, _⟩ := hi; rw [← e, hS] at ho; cases ho; exact absurd (Value.type.inj hc) (by decide)
  have W0 := Walks.listRev (prog := prog) (w := w) (A := A.in1) hh I l hne vs.toArray
  have st0 : 0 ≤ vs.toArray.size ∧ s.heap.IsRevIter I l ((vs.toArray.size : Int) - 1 - ((0 : Nat) : Int)) ∧ s.heap.IsList l vs.toArray := ⟨Nat.zero_le _, by simpa using hi, hl⟩
  have W := W0.toS
  have hSf : S ∉ [I, l] := fun hm => (List.mem_cons.mp hm).elim hSI fun q => hSl (List.mem_singleton.mp q)
  unfold Builtin.List.listExtendWith
  refine wpAny_bind (wpAny_typeOf (T := "list_reverseiterator") hi.typeIs ?_)
  have h1 : Builtin.List.listSameRef (.ref S) (.ref I) = false := by simp [Builtin.List.listSameRef, hSI]
  have h2 : (Value.type "list_reverseiterator" == Value.type "list") = false := by decide
  have h3 : (Value.type "list_reverseiterator" == Value.type "tuple") = false := by decide
  simp only [h1, h2, h3, Bool.or_false, Bool.false_eq_true, if_false]
  refine wpAny_bind (W.self 0 _ _ _ st0 ?_)
  refine wpAny_bind (wpAny_holding (hint_rev hi ?_))
  refine wpAny_ite_split (fun hab => absurd hab (by decide +kernel)) (fun _ => ?_)
  refine wpAny_pure ⟨plainId_quiet F.plain_extend_loop _, codeAny_extend_loopS W (by simpa using hn) S hSf res vs.toArray.size 0 _ #[] c₀ rfl (Nat.zero_le _) st0 hS (ItemsOf.nil _) fun s' acc' c' hm hS' hacc => ?_⟩
  rw [Moved.eq_with hm]
  refine hR s'.heap s'.toks acc' c' (fun b o hb hb' e => hm.heap b o (fun hmem => ?_) e) hS' hacc
  rcases List.mem_cons.mp hmem with e' | hmem
  · exact hb e'
  · exact hb' (List.mem_singleton.mp hmem)
theorem init_rev {R : Result → Shared → Prop} {I l : Addr} {vs : List Value} (hh : A.handled = none) (hi : s.heap.IsRevIter I l ((vs.length : Int) - 1)) (hl : s.heap.IsList l vs.toArray) (hne : l ≠ I) (hn : vs.length ≤ sizeLine) (S : Addr) (hS : s.heap.get? S = some { cls := .type "list", data := .seq #[] }) (hSl : S ≠ l)
    (hR : ∀ h' tk acc' c', (∀ b o, b ≠ S → b ≠ I → s.heap.get? b = some o → h'.get? b = some o) → h'.get? S = some { cls := .type "list", dict := none, data := .seq acc' c', slots := #[] } →
      ItemsOf (fun i v => vs.toArray[vs.toArray.size - 1 - i]? = some v) acc' vs.toArray.size → R (.ok (.ret .none)) { s with heap := h', toks := tk }) :
    wpAny (model prog w) A.in1 (Builtin.«list.__init__» ⟨[.ref S, .ref I], []⟩)
      (fun fin s' => match fin with | .done f => R (.ok f) s' | .again c' => c'.quiet = true ∧ codeAny (model prog w) A c' R s') (fun e s' => R (.error e) s') s := by
  have hSI : S ≠ I := fun e => by obtain ⟨o, ho, hc, _⟩ := hi; rw [← e, hS] at ho; cases ho; exact absurd (Value.type.inj hc) (by decide)
  show wpAny _ _ (do let old ← Builtin.List.listItems (.ref S); Builtin.List.listUpdate (.ref S) (fun _ => #[]); letGo old.toList.reverse; Builtin.List.listExtendWith (.ref S) (.ref I) .none) _ _ s
  refine wpAny_bind ?_
  unfold Builtin.List.listItems
  refine wpAny_bind (wpAny_seqItems hS rfl (wpAny_pure ?_))
  show wpAny _ _ (updateSeq S (fun _ => #[]) >>= fun _ => letGo (#[] : Array Value).toList.reverse >>= fun _ => Builtin.List.listExtendWith (.ref S) (.ref I) .none) _ _ s
  refine wpAny_bind (wpAny_updateSeq hS rfl ?_)
  have hS₂ := Heap.get?_update_self (Obj.mapSeq (fun _ => (#[] : Array Value))) hS rfl
  have oth : ∀ b o, b ≠ S → s.heap.get? b = some o → (s.heap.update S (Obj.mapSeq (fun _ => (#[] : Array Value)))).get? b = some o :=
    fun b o hb e => (Heap.get?_update_other _ _ (Ne.symm hb)).trans e
  refine wpAny_bind (wpAny_letGo ?_)
  refine extend_rev hh (hi.at fun o => oth I o (Ne.symm hSI)) (hl.at fun o => oth l o (Ne.symm hSl)) hne hn S .none _ hS₂ hSl fun h' tk acc' c' hk hS' hacc => ?_
  exact hR h' tk acc' c' (fun b o hb hb' e => hk b o hb hb' (oth b o hb e)) hS' hacc
/-- list(reversed(xs)) -/
theorem b_listRev {I l : Addr} {vs : List Value} (hh : A.handled = none) (hi : s.heap.IsRevIter I l ((vs.length : Int) - 1)) (hl : s.heap.IsList l vs.toArray) (hne : l ≠ I) (hn : vs.length ≤ sizeLine) :
    wpAny (model prog w) A (call (.type "list") [.ref I]) (fun v s' => ∃ h' tk l', s' = { s with heap := h', toks := tk } ∧ v = .ref l' ∧ s.heap.get? l' = none ∧ (∀ b o, b ≠ I → s.heap.get? b = some o → h'.get? b = some o) ∧ h'.PlainList l' vs.reverse.toArray) E s := by
  obtain ⟨oI, hoI, _⟩ := id hi
  obtain ⟨ol, hol, _⟩ := id hl
  have fr : s.heap.get? s.heap.objs.size = none := fresh_none (Nat.le_refl _)
  refine callType_codes (Q₁ := fun obj s₁ => obj = .ref s.heap.objs.size ∧ s₁ = { s with heap := s.heap.push { cls := .type "list", data := .seq #[] } }) F.called_list (F.typeCall_list_1 _) F.entry_list_init
    (code_list_new _ ⟨rfl, rfl⟩) fun obj s₁ h₁ => ?_
  obtain ⟨rfl, rfl⟩ := h₁
  have hS : (s.heap.push { cls := .type "list", data := .seq #[] }).get? s.heap.objs.size = some { cls := .type "list", data := .seq #[] } := Heap.get?_push_size _ rfl
  refine ⟨⟨_, hS, rfl⟩, F.args_list_init_2 _ _, init_rev (A := A.in1) hh (hi.at fun o e => Heap.get?_push_of_some _ e) (hl.at fun o e => Heap.get?_push_of_some _ e) hne hn _ hS (fun q => by rw [← q, fr] at hol; cases hol) fun h' tk acc' c' hk hS' hacc => ?_⟩
  refine ⟨rfl, h', tk, _, rfl, rfl, fr, fun b o hb e => hk b o (fun q => by rw [q, fr] at e; cases e) hb (Heap.get?_push_of_some _ e), c', ?_⟩
  have e : acc' = vs.reverse.toArray := by
    apply Array.ext
    · rw [hacc.1]; simp
    · intro i h1 h2
      have := hacc.2 i acc'[i] (Array.getElem?_eq_getElem h1)
      have hlen : i < vs.length := by simpa using h2
      simp only [List.size_toArray] at this
      rw [List.getElem?_toArray] at this
      have : vs[vs.length - 1 - i]? = some acc'[i] := this
      rw [List.getElem?_eq_getElem (by omega)] at this
      simp only [List.getElem_toArray, List.getElem_reverse]
      exact (Option.some.inj this).symm
  rw [← e]; exact hS'
end

end
end Mine
namespace Mine
section
open PySem.Calls
section
variable {Γ : Fx} {C : Cx} {sc : Scope} {A : Around} {X : List Addr} {h : Heap} {l r q : PySem.Expr} {na nb nc : Bool} {va vb vc : PEnv → PV} {ka kb kc : PEnv → Prop} {t u : PEnv → Bool} {kt : PEnv → Prop} {e₀ : Env} {h₀ : Heap} {env : Env} {ρ : PEnv} {x y : Str} {p p2 pos pos' : Pos} {i : Nat} {k : NameKind}
theorem t_not (ha : GoodT Γ sc l t ka) : GoodT Γ sc (.UnaryOp .Not l p) (fun ρ => !t ρ) ka := fun ρ A e₀ h₀ env X h k c s tk =>
  wpAny_isTrue_Not ((ha ρ A e₀ h₀ env X h k c).go fun b h1 tk1 k1 t1 e => T.mk k1 t1 (congrArg _ e))
/-- an and, as a test -/
noncomputable def GoodAnd (es : List PySem.Expr) (t : PEnv → Bool) (k : PEnv → Prop) (Γ : Fx) (sc : Scope) : Prop := ∀ ρ A e₀ h₀ env X h, k ρ → XC Γ A e₀ h₀ sc env ρ X h → W Γ.C A (allTrue .And es env) h fun c _ => c = t ρ
theorem nd_nil : GoodAnd [] (fun _ => true) (fun _ => True) Γ sc := fun _ _ _ _ _ _ _ _ c _ _ => wpAny_allTrue_And_nil (T.mk (.refl _ _) c.act.tab rfl)
theorem nd_cons {e : PySem.Expr} {es : List PySem.Expr} (ha : GoodT Γ sc e t ka) (hb : GoodAnd es u kb Γ sc) : GoodAnd (e :: es) (fun ρ => t ρ && u ρ) (fun ρ => ka ρ ∧ (t ρ = true → kb ρ)) Γ sc :=
  fun ρ A e₀ h₀ env X h k c s tk => wpAny_allTrue_And_cons ((ha ρ A e₀ h₀ env X h k.1 c).go fun b h1 tk1 k1 t1 r1 => by
    cases b with
    | false =>
      show T Γ.C s h (fun c _ => c = (t ρ && u ρ)) false (Sh s h1 tk1)
      exact T.mk k1 t1 (by rw [← r1]; rfl)
    | true => exact wpAny_mono (hb ρ A e₀ h₀ env X h1 (k.2 r1.symm) (c.step k1 t1) s tk1) (fun _ _ y => (y.later k1).imp fun _ _ _ q => by
        show _ = (t ρ && u ρ)
        rw [q, ← r1]; rfl) fun _ _ f => f.elim)
theorem t_and {es : List PySem.Expr} (h : GoodAnd es t ka Γ sc) : GoodT Γ sc (.BoolOp .And es p) t ka := fun ρ A e₀ h₀ env X h' q x s tk => wpAny_isTrue_BoolOp (h ρ A e₀ h₀ env X h' q x s tk)
/-- a < b < c -/
theorem t_chain {o1 o2 : CmpOp} (hs : noSet q = true) (ha : Good Γ sc l na va ka) (hb : Good Γ sc r nb vb kb) (hc : Good Γ sc q nc vc kc) : GoodT Γ sc (.Compare l [o1, o2] [r, q] p) (fun ρ => vcmp o1 (va ρ) (vb ρ) && vcmp o2 (vb ρ) (vc ρ))
    (fun ρ => ka ρ ∧ kb ρ ∧ kcmp o1 (va ρ) (vb ρ) ∧ (vcmp o1 (va ρ) (vb ρ) = true → kc ρ ∧ kcmp o2 (vb ρ) (vc ρ))) :=
  fun ρ A e₀ h₀ env X h k c s tk => isTrue_chain ((ha ρ A e₀ h₀ env X h k.1 c).go fun v h1 tk1 k1 t1 r1 => test_link ((hb ρ A e₀ h₀ env X h1 k.2.1 (c.step k1 t1)).go fun u h2 tk2 k2 t2 r2 =>
    cmpop_ok (s := Sh s h2 tk2) (un64 c) (r1.1.ext t1 k2) r2.1 k.2.2.1 (wpAny_truthy_bool (by
      cases e : vcmp o1 (va ρ) (vb ρ) with
      | false => exact T.mk (P := fun c _ => c = (vcmp o1 (va ρ) (vb ρ) && vcmp o2 (vb ρ) (vc ρ))) (k1.trans k2) t2 (by rw [e]; rfl)
      | true =>
        obtain ⟨k3, k4⟩ := k.2.2.2 e
        refine test_last ((hc ρ A e₀ h₀ env X h2 k3 ((c.step k1 t1).step k2 t2)).go fun w h3 tk3 k5 t3 r3 => ?_)
        exact cmpop_ok (s := Sh s h3 tk3) (un64 c) (r2.1.ext t2 k5) r3.1 k4 (wpAny_truthy_bool (T.mk (P := fun c _ => c = (vcmp o1 (va ρ) (vb ρ) && vcmp o2 (vb ρ) (vc ρ))) ((k1.trans k2).trans k5) t3 (by rw [e]; rfl)))))))
    (noSet_marks (op := o2) hs)
theorem g_and2 (ha : Good Γ sc l na va ka) (hb : Good Γ sc r nb vb kb) : Good Γ sc (.BoolOp .And [l, r] p) false (fun ρ => if tv (va ρ) then vb ρ else va ρ) (fun ρ => ka ρ ∧ tk (va ρ) ∧ (tv (va ρ) = true → kb ρ)) :=
  fun ρ A e₀ h₀ env X h k c s tk => BoolOp_and ((ha ρ A e₀ h₀ env X h k.1 c).go fun u h1 tk1 k1 t1 r1 => wpAny_mono (tru_ok (s := Sh s h1 tk1) r1.1 k.2.1) (fun b s2 y => by
    obtain ⟨e, h2, tk2, rfl, k2⟩ := y
    have k3 := k1.trans (.of_keep k2)
    have t3 := t1.keeps k2
    cases b with
    | false =>
      rw [if_neg (by decide)]
      exact T.mk k3 t3 ⟨by dsimp only; rw [← e]; exact r1.1.ext t1 (.of_keep k2), nofun⟩
    | true =>
      rw [if_pos rfl]
      refine BoolOp_one ((hb ρ A e₀ h₀ env X h2 (k.2.2 e.symm) (c.step k3 t3)).go fun u h4 tk4 k4 t4 r4 => ?_)
      exact T.mk (k3.trans k4) t4 ⟨by dsimp only; rw [← e]; exact r4.1, nofun⟩) fun _ _ f => f.elim)
theorem g_str {z : Str} {kd : Nat} : Good Γ sc (.Constant (.str z) kd p) false (fun _ => .str z) (fun _ => True) := fun ρ A e₀ h₀ env X h _ c s tk => wpAny_Constant_str (T.mk (tk := tk + 1) (.refl _ _) c.act.tab ⟨⟨_, rfl⟩, nofun⟩)
theorem g_bits {ap : Pos} (hl : (ap.endLine == p.line) = true) (hb : ∀ env, attributeBase l (Str.ofString "bit_length") env (eval l env) = eval l env) (ha : Good Γ sc l na va ka) : Good Γ sc (.Call (.Attribute l (Str.ofString "bit_length") ap) [] [] p) false (fun ρ => .int (bits (asI (va ρ)))) (fun ρ => ka ρ ∧ isI (va ρ)) :=
  fun ρ A e₀ h₀ env X h k c s tk => by
    refine wpAny_Call_method (T := "int") (id := "int.bit_length") (hb env) rfl hl PySem.F.plainAttrs_int PyProof.Rows.slot_int_bit_length type_int_bit_length ?_
    refine (ha ρ A e₀ h₀ env X h k.1 c).go fun v h1 tk1 k1 t1 r1 => ?_
    have r1 := r1.1
    rw [k.2.eq] at r1
    obtain ⟨u, rfl⟩ := r1
    exact ⟨typeIs_int _ _ _, nofun, Calls.callWith_builtin rfl (evalArgs_nil3 (wpAny_mono b_bits (fun _ _ g => int_T k1 t1 g) fun _ _ f => f.elim))⟩
/-- xs[-1] -/
noncomputable def lastV (q : Bool × List PV) : PV := q.2.getLast?.getD .none
theorem g_last {b : PEnv → Bool × List PV} {kd : Nat} {p3 : Pos} (ha : GoodB Γ sc l b ka) : Good Γ sc (.Subscript l (.UnaryOp .USub (.Constant (.int 1) kd p2) p3) p) false (fun ρ => lastV (b ρ)) (fun ρ => ka ρ ∧ (b ρ).1 = false ∧ (b ρ).2 ≠ [] ∧ (b ρ).2.length ≤ 16777216) :=
  fun ρ A e₀ h₀ env X h k c s tk => Subscript_ ((ha ρ A e₀ h₀ env X h k.1 c).go fun o h1 tk1 k1 t1 r1 => by
    obtain ⟨a, vs, rfl, hl, r1⟩ := r1
    rw [k.2.1] at hl
    have g1 : Good Γ sc (.Constant (.int 1) kd p2) false (fun _ => .int 1) (fun _ => True) := fun ρ A e₀ h₀ env X h _ x s tk => wpAny_Constant_int (T.mk (tk := tk + 1) (.refl _ _) x.act.tab ⟨⟨_, rfl⟩, nofun⟩)
    refine (g_un (op := .USub) (p := p3) g1 ρ A e₀ h₀ env X h1 ⟨trivial, rfl⟩ (c.step k1 t1)).go fun u h2 tk2 k2 t2 r2 => ?_
    obtain ⟨tt, rfl⟩ := (show ∃ t, u = .int (-1) t from r2.1)
    obtain ⟨z, hz⟩ : ∃ z, (b ρ).2.getLast? = some z := ⟨_, List.getLast?_eq_some_getLast k.2.2.1⟩
    have hz' : (b ρ).2[(b ρ).2.length - 1]? = some z := by rw [← List.getLast?_eq_getElem?]; exact hz
    obtain ⟨u, hu, hr⟩ := (r1.ext t1 k2).get hz'
    obtain ⟨Ty, id, hT, hlk⟩ := isSeq.tail (s := Sh s h2 tk2) (hl.ext t1 k2)
    have e : lastV (b ρ) = z := by unfold lastV; rw [hz]; rfl
    have hlen := r1.length
    have hpos : 0 < (b ρ).2.length := List.length_pos_iff.mpr k.2.2.1
    have hl2 : h2.IsList a vs.toArray := isSeq.ext (T := false) t1 k2 hl
    refine tail_ok hT hlk (wpAny_getItem_list_neg (s := Sh s h2 tk2) (x := u) hl2 (by decide) ?_ (by decide) ?_ ?_)
    · simp; (first | lia | omega)
    · have : (-1 + (vs.toArray.size : Int)).toNat = (b ρ).2.length - 1 := by rw [List.size_toArray, hlen]; (first | lia | omega)
      rw [this]; simpa using hu
    · exact T.mk (k1.trans k2) t2 ⟨(show Rep _ _ (lastV (b ρ)) _ from e.symm ▸ hr), nofun⟩)
/-- what a new list gives -/
theorem newL_T {h1 h2 : Heap} {s : Shared} {tk2 : Nat} {a : Addr} {vs : List Value} {xs : List PV} (c : XC Γ A e₀ h₀ sc env ρ X h) (k1 : Ext Γ.C.Ps h h1) (t1 : TabsOk Γ.C h1) (k2 : Ext Γ.C.Ps h1 h2) (t2 : TabsOk Γ.C h2) (f : h1.get? a = none) (l : h2.PlainList a vs.toArray) (r : RepL h2 X xs vs) :
    T Γ.C s h (fun v h' => Rep h' X (.lst xs) v ∧ (true = true → New h v h')) (.ref a) (Sh s h2 tk2) :=
  T.mk (k1.trans k2) t2 ⟨⟨a, vs, rfl, fun q => (by obtain ⟨o, e⟩ := (c.step k1 t1).alloc a q; rw [f] at e; cases e), l.isList, r⟩, fun _ b e => by cases e; exact ⟨fresh_back t1 k1 f, let ⟨n, e⟩ := l; ⟨_, e, rfl, rfl⟩⟩⟩
/-- list(xs) -/
theorem g_listS {b : PEnv → Bool × List PV} (hg : IsGlob Γ sc x (.type "list")) (hs : noStar l) (ha : GoodB Γ sc l b ka) : Good Γ sc (.Call (.Name x p) [l] [] pos) true (fun ρ => .lst (b ρ).2) (fun ρ => ka ρ ∧ (b ρ).2.length ≤ 16777216) :=
  fun ρ A e₀ h₀ env X h k c s tk => wpAny_Call_NameR (name_glob hg c (bi_callWith (f := .type "list") trivial (by rw [starEach_cons hs]; rfl) (by
    rw [starEach_cons hs]
    refine Calls.evalArgs_plain (Calls.spliced_cons ((ha ρ A e₀ h₀ env X h k.1 c).go fun u h1 tk1 k1 t1 r1 => Calls.spliced_nil ?_))
    obtain ⟨a, vs, rfl, hl, r1⟩ := r1
    have hsz : vs.toArray.size ≤ sizeLine := by rw [List.size_toArray, r1.length, sizeLine_eq]; exact k.2
    have fin : ∀ h' c', (∀ b o', h1.get? b = some o' → h'.get? b = some o') → h'.get? h1.objs.size = some { cls := .type "list", dict := none, data := .seq vs.toArray c', slots := #[] } → T Γ.C s h (fun v h' => Rep h' X (.lst (b ρ).2) v ∧ (true = true → New h v h')) (.ref h1.objs.size) (Sh s h' tk1) := fun h' c' k2 e =>
      newL_T c k1 t1 (.of_keep k2) (t1.keeps k2) (fresh_none (Nat.le_refl _)) ⟨c', e⟩ (r1.keep fun b o _ _ e => k2 b o e)
    generalize (b ρ).1 = q at hl
    cases q with
    | false =>
      obtain ⟨o, ho, hc, n, hd⟩ := hl
      exact call_list_seq (s := Sh s h1 tk1) a (.inl rfl) ho hc hd fin hsz
    | true =>
      obtain ⟨o, ho, hc, n, hd⟩ := hl
      exact call_list_seq (s := Sh s h1 tk1) a (.inr rfl) ho hc hd fin hsz)))
theorem list_of (hg : IsGlob Γ sc x (.type "list")) {e : PySem.Expr} (hs : noStar e) (c : XC Γ A e₀ h₀ sc env ρ X h) {s : Shared} {tk : Nat} {Q : Value → Shared → Prop}
    (q : wpAny Γ.C.M A (eval e env) (fun v s' => wpAny Γ.C.M A (call (.type "list") [v] []) Q never s') never (Sh s h tk)) : wpAny Γ.C.M A (eval (.Call (.Name x p) [e] [] pos) env) Q never (Sh s h tk) :=
  wpAny_Call_NameR (name_glob hg c (bi_callWith (f := .type "list") trivial (by rw [starEach_cons hs]; rfl) (by
    rw [starEach_cons hs]
    exact Calls.evalArgs_plain (Calls.spliced_cons (wpAny_mono q (fun v s' y => Calls.spliced_nil y) fun _ _ f => f.elim)))))
theorem listR_T {h1 : Heap} {s : Shared} {tk1 : Nat} {a b d : Int} {v : Value} (c : XC Γ A e₀ h₀ sc env ρ X h) (k1 : Ext Γ.C.Ps h h1) (t1 : TabsOk Γ.C h1) (hr : IsRng a b d v h1) (hs : Builtin.Range.small a b d = true) (h0 : 0 ≤ Builtin.Range.rangeSize a b d) (hn : (Builtin.Range.rangeSize a b d).toNat ≤ 16777216) :
    wpAny Γ.C.M A (call (.type "list") [v] []) (T Γ.C s h fun v h' => Rep h' X (.lst (zs (rng a d (Builtin.Range.rangeSize a b d).toNat))) v ∧ (false = true → New h v h')) never (Sh s h1 tk1) := by
  obtain ⟨rr, t, u, w, rfl, hr⟩ := hr
  refine wpAny_mono (b_listRange (s := Sh s h1 tk1) c.act.hh hr hs hn h0) (fun v s2 y => ?_) fun _ _ f => f.elim
  obtain ⟨h2, tk2, rfl, k2, l, vs, rfl, f, hl, hi⟩ := y
  exact T.mk (k1.trans (.of_keep k2)) (t1.keeps k2) ⟨⟨l, vs, rfl, fun q => (by obtain ⟨o, e⟩ := (c.step k1 t1).alloc l q; rw [show h1.get? l = none from f] at e; cases e), hl, .of_ints hi⟩, nofun⟩
/-- list(range(a, b, c)) -/
theorem g_listR3 (hg : IsGlob Γ sc x (.type "list")) (hg2 : IsGlob Γ sc y (.type "range")) (hs1 : noStar l) (hs2 : noStar r) (hs3 : noStar q) (ha : Good Γ sc l na va ka) (hb : Good Γ sc r nb vb kb) (hc : Good Γ sc q nc vc kc) :
    Good Γ sc (.Call (.Name x p) [.Call (.Name y p2) [l, r, q] [] pos'] [] pos) false (fun ρ => .lst (zs (rng (asI (va ρ)) (asI (vc ρ)) (Builtin.Range.rangeSize (asI (va ρ)) (asI (vb ρ)) (asI (vc ρ))).toNat)))
      (fun ρ => ka ρ ∧ kb ρ ∧ kc ρ ∧ isI (va ρ) ∧ isI (vb ρ) ∧ isI (vc ρ) ∧ asI (vc ρ) ≠ 0 ∧ (asI (vc ρ)).natAbs < 1073741824 ∧ Builtin.Range.small (asI (va ρ)) (asI (vb ρ)) (asI (vc ρ)) = true ∧ 0 ≤ Builtin.Range.rangeSize (asI (va ρ)) (asI (vb ρ)) (asI (vc ρ)) ∧ (Builtin.Range.rangeSize (asI (va ρ)) (asI (vb ρ)) (asI (vc ρ))).toNat ≤ 16777216) :=
  fun ρ A e₀ h₀ env X h k c s tk => list_of hg (fun _ _ q => by cases q) c (bi_go hg2 trivial (l_cons hs1 ha (l_cons hs2 hb (l_cons hs3 hc l_nil))) ⟨k.1, k.2.1, k.2.2.1, trivial⟩ c fun h1 tk1 us k1 t1 r => by
    obtain ⟨kA, kB, kC, iA, iB, iC, n0, nb, sm, z0, zn⟩ := k
    obtain ⟨v, _, rfl, r, u, _, rfl, r', w, _, rfl, r'', rfl⟩ := r
    rw [iA.eq] at r
    rw [iB.eq] at r'
    rw [iC.eq] at r''
    obtain ⟨t, rfl⟩ := r
    obtain ⟨t', rfl⟩ := r'
    obtain ⟨t'', rfl⟩ := r''
    refine wpAny_mono (b_range3 n0 nb) (fun v s2 y => ?_) fun _ _ f => f.elim
    obtain ⟨h2, tk2, rfl, k2, hr, _⟩ := y
    exact listR_T c (k1.trans (.of_keep k2)) (t1.keeps k2) hr sm z0 zn)
/-- list(range(n)) -/
theorem g_listR1 (hg : IsGlob Γ sc x (.type "list")) (hg2 : IsGlob Γ sc y (.type "range")) (hs1 : noStar l) (ha : Good Γ sc l na va ka) :
    Good Γ sc (.Call (.Name x p) [.Call (.Name y p2) [l] [] pos'] [] pos) false (fun ρ => .lst (zs (rng 0 1 (Builtin.Range.rangeSize 0 (asI (va ρ)) 1).toNat)))
      (fun ρ => ka ρ ∧ isI (va ρ) ∧ krange (asI (va ρ)) ∧ (Builtin.Range.rangeSize 0 (asI (va ρ)) 1).toNat ≤ 16777216) :=
  fun ρ A e₀ h₀ env X h k c s tk => list_of hg (fun _ _ q => by cases q) c (bi_go hg2 trivial (l_cons hs1 ha l_nil) ⟨k.1, trivial⟩ c fun h1 tk1 us k1 t1 r => by
    obtain ⟨kA, iA, kr, zn⟩ := k
    obtain ⟨v, _, rfl, r, rfl⟩ := r
    rw [iA.eq] at r
    obtain ⟨t, rfl⟩ := r
    refine wpAny_mono b_range1 (fun v s2 y => ?_) fun _ _ f => f.elim
    obtain ⟨h2, tk2, rfl, k2, hr, _⟩ := y
    exact listR_T c (k1.trans (.of_keep k2)) (t1.keeps k2) hr kr.1 kr.2 zn)
/-- list(reversed(xs)) -/
theorem g_listRev (hg : IsGlob Γ sc x (.type "list")) (hg2 : IsGlob Γ sc y (.type "reversed")) (hs1 : noStar l) (ha : Good Γ sc l na va ka) :
    Good Γ sc (.Call (.Name x p) [.Call (.Name y p2) [l] [] pos'] [] pos) false (fun ρ => .lst (asL (va ρ)).reverse) (fun ρ => ka ρ ∧ isL (va ρ) ∧ (asL (va ρ)).length ≤ 16777216) :=
  fun ρ A e₀ h₀ env X h k c s tk => list_of hg (fun _ _ q => by cases q) c (bi_go hg2 trivial (l_cons hs1 ha l_nil) ⟨k.1, trivial⟩ c fun h1 tk1 us k1 t1 r => by
    obtain ⟨kA, iA, zn⟩ := k
    obtain ⟨v, _, rfl, r, rfl⟩ := r
    rw [iA.eq] at r
    obtain ⟨a, vs, rfl, hx, hl, hr⟩ := r
    obtain ⟨ol, hol, _⟩ := id hl
    have fr : h1.get? h1.objs.size = none := fresh_none (Nat.le_refl _)
    have hne : a ≠ h1.objs.size := fun q => by rw [q, fr] at hol; cases hol
    refine call_reversed_list (s := Sh s h1 tk1) hl ?_
    generalize hH : h1.push (revObj a ((vs.toArray.size : Int) - 1)) = H
    have hi : H.IsRevIter h1.objs.size a ((vs.length : Int) - 1) := ⟨_, by rw [← hH]; exact Heap.get?_push_size _ rfl, rfl, by simp [revObj]⟩
    have kk : ∀ b o, h1.get? b = some o → H.get? b = some o := fun b o e => hH ▸ Heap.get?_push_of_some _ e
    refine wpAny_mono (b_listRev (E := never) (s := Sh s H tk1) c.act.hh hi (hl.at fun o => kk a o) hne (by rw [hr.length, sizeLine_eq]; exact zn)) (fun v s2 y => ?_) fun _ _ f => f.elim
    obtain ⟨h2, tk2, l', rfl, rfl, f, k2, l2⟩ := y
    have k3 : ∀ b o, h1.get? b = some o → h2.get? b = some o := fun b o e => k2 b o (fun q => by rw [q, fr] at e; cases e) (kk b o e)
    refine T.mk (k1.trans (.of_keep k3)) (t1.keeps k3) ⟨⟨l', vs.reverse, rfl, fun q => ?_, l2.isList, (hr.keep fun b o _ _ e => k3 b o e).reverse⟩, nofun⟩
    obtain ⟨o, e⟩ := (c.step k1 t1).alloc l' q
    exact absurd (kk l' o e) (by rw [show H.get? l' = none from f]; nofun))
end

end
end Mine
namespace Mine
section
open PySem.Calls


/-- a name of a function's own set, and what hangs on it -/
structure PutR (C : Cx) (h₀ : Heap) (e : Env) (x : Str) (v : Value) (h h' : Heap) : Prop where
  ex : ∃ a, (a = e.locals ∨ ∃ y, e.cells.lookup y = some a) ∧ h₀.get? a = none ∧ (∃ o, h.get? a = some o ∧ ∀ xs n, o.data ≠ .seq xs n) ∧ Ext (a :: C.Ps) h h'
  tab : TabsOk C h'
  al : ∀ b, (∃ o, h.get? b = some o) → ∃ o, h'.get? b = some o
  ns : ∃ m, h'.Ns e.locals m
  cell : ∀ n c, e.cells.lookup n = some c → ∃ v, h'.IsCell c v
  slot : Slot e x h' v
  others : ∀ y u, y ≠ x → Slot e y h u → Slot e y h' u
  back : ∀ y u, y ≠ x → Slot e y h' u → Slot e y h u

theorem Ns.fun {h : Heap} {a : Addr} {m m' : Str → Option Value} (x : h.Ns a m) (y : h.Ns a m') : m = m' := by
  obtain ⟨o1, es1, ep1, w1, w2, w3, w4⟩ := x
  obtain ⟨o2, es2, ep2, z1, z2, z3, z4⟩ := y
  rw [w1] at z1; cases z1
  rw [w2] at z2; cases z2
  funext n
  rw [← w4 n, ← z4 n]
theorem Cell.fun {h : Heap} {a : Addr} {m m' : Option Value} (x : h.IsCell a m) (y : h.IsCell a m') : m = m' := by
  obtain ⟨o1, w1, w2⟩ := x
  obtain ⟨o2, z1, z2⟩ := y
  rw [w1] at z1; cases z1
  rw [w2] at z2; cases z2
  rfl
theorem Slot.fun {e : Env} {x : Str} {h : Heap} {v u : Value} (a : Slot e x h v) (b : Slot e x h u) : v = u := by
  rcases a with ⟨k1, m, n, r⟩ | ⟨k1, c, l, n⟩ <;> rcases b with ⟨k2, m', n', r'⟩ | ⟨k2, c', l', n'⟩
  · cases Ns.fun n n'
    rw [r] at r'; cases r'; rfl
  · rw [k1] at k2; rcases k2 with q | q <;> cases q
  · rw [k2] at k1; rcases k1 with q | q <;> cases q
  · rw [l] at l'; cases l'
    cases Cell.fun n n'; rfl

section
variable {Γ : Fx} {A : Around} {h₀ : Heap} {sc : Scope} {e : Env} {ρ : PEnv} {X X' : List Addr} {h h' : Heap}
theorem PutR.kp' {C : Cx} {x : Str} {v : Value} (p : PutR C h₀ e x v h h') (t : TabsOk C h) (Y : List Addr) : Kp Y h h' := fun b ob _ sq eb => by
  obtain ⟨a, _, ha0, ⟨oa, hoa, hoa'⟩, k⟩ := p.ex
  obtain ⟨hc, xs, nn, hd⟩ := sq
  refine k.at (fun q => (List.mem_cons.mp q).elim (fun q => ?_) (t.notP eb (by rcases hc with q | q <;> rw [q] <;> nofun))) eb fun _ _ q => by rw [hd] at q; cases q
  rw [q, hoa] at eb; cases eb
  exact hoa' _ _ hd
theorem plain_kp (k : Kp [] h h') {a : Addr} {xs : Array Value} (l : h.PlainList a xs) : h'.PlainList a xs := let ⟨n, ho⟩ := l; ⟨n, k _ _ (fun q => nomatch q) ⟨.inl rfl, _, n, rfl⟩ ho⟩
theorem HoldsB.kp {v : Value} (k : ∀ Y, Kp Y h h') : ∀ {b : Bind}, HoldsB X h b v → HoldsB X h' b v
  | .undef, _ => trivial
  | .val _, r => Rep.keep (k X) r
  | .own _, ⟨a, vs, e, l, r⟩ => ⟨a, vs, e, plain_kp (k []) l, r.keep (k X)⟩
  | .own2 _, ⟨a, as, e, l, r⟩ => ⟨a, as, e, plain_kp (k []) l, r.imp fun _ _ _ => plain_kp (k [])⟩
theorem XC.put {x : Str} {i : Nat} {b : Bind} {v : Value} (c : XC Γ A e h₀ sc e ρ X h) (p : PutR Γ.C h₀ e x v h h') (hv : varOf Γ.nm x = some i) (hb : HoldsB X' h' b v) (hX : ∀ a ∈ X', a ∈ X ∨ (h.get? a = none ∧ ∃ o, h'.get? a = some o)) : XC Γ A e h₀ sc e (Mine.put ρ i b) X' h' := by
  have kp := p.kp' c.act.tab
  have hX' : ∀ a ∈ X', a ∈ X ∨ h.get? a = none := fun a q => (hX a q).imp id fun z => z.1
  refine { act := ?_, dep := c.dep, unt := c.unt, en := { c.en with loc := p.ns, cell := p.cell }, vars := fun j y kd h2 h3 h4 h1 => ?_, alloc := fun b q => (hX b q).elim (fun z => p.al b (c.alloc b z)) fun z => z.2, own0 := c.own0 }
  · obtain ⟨a, ha, ha0, ⟨oa, hoa, hoa'⟩, k⟩ := p.ex
    refine c.act.re p.ns p.tab fun L m n => ?_
    by_cases q : L = a
    · subst q
      rcases ha with rfl | ⟨y, hy⟩
      · exact p.ns
      · obtain ⟨w, o, e1, e2⟩ := c.en.cell y L hy
        obtain ⟨o', es, ep, e3, e4, _⟩ := n
        rw [e1] at e3; cases e3
        rw [e2] at e4; cases e4
    · exact ⟨m, k.ns (fun z => (List.mem_cons.mp z).elim q (ns_notP c.act.tab n)) n⟩
  · by_cases q : j = i
    · subst q
      have := varOf_inj h2 hv
      subst this
      rw [get_same]
      exact ⟨v, p.slot, hb⟩
    · rw [get_other q] at h1 ⊢
      obtain ⟨u, sl, r⟩ := c.vars j y kd h2 h3 h4 h1
      exact ⟨u, p.others y u (fun z => by subst z; rw [hv] at h2; cases h2; exact q rfl) sl, (HoldsB.avoid hX' r).kp kp⟩
/-- a name stored -/
theorem put_ok {A' : Around} {x : Str} {v : Value} {i : Nat} (c : XC Γ A e h₀ sc e ρ X h) (ht : IsTgt Γ sc x i) : WU Γ.C A' (storeName e x v) h fun _ h' => PutR Γ.C h₀ e x v h h' := fun s tk => by
  obtain ⟨kd, hx, hk⟩ := ht.k
  obtain ⟨m, nn⟩ := c.en.loc
  obtain ⟨ol, es, ep, hl1, hl2, hl3⟩ := id nn
  rcases hk with rfl | rfl
  · refine wpAny_storeName_local (c.en.kloc x hx) nn (fun h' n' hs => ⟨h', _, rfl, ?_⟩) (by rw [c.en.kind]; rfl)
    have ob : ∀ b o, b ≠ e.locals → h.get? b = some o → h'.get? b = some o := fun b o hb eb => hs.extBut b o hb eb
    have cells : ∀ cc w, h.IsCell cc w → h'.IsCell cc w := fun cc w ic => by
      obtain ⟨oc, e1, e2⟩ := ic
      refine ⟨oc, ob cc oc (fun q => ?_) e1, e2⟩
      rw [q, hl1] at e1; cases e1; rw [hl2] at e2; cases e2
    refine { ex := ⟨e.locals, .inl rfl, c.act.loc0, ⟨ol, hl1, fun xs k q => by rw [hl2] at q; cases q⟩, Ext.of_but fun b o hb eb => ob b o (fun q => hb (q ▸ .head _)) eb⟩, tab := c.act.tab.but ob hl1 (fun vs q => (by rw [hl2] at q; cases q)) (c.act.h0 ▸ c.act.loc0), al := fun b hb => ?_, ns := ⟨_, n'⟩, cell := fun n cc q => ?_, slot := .inl ⟨c.en.kloc x hx, _, n', by simp⟩, others := fun y u hy sl => ?_, back := fun y u hy sl => ?_ }
    · by_cases q : b = e.locals
      · obtain ⟨o, _, _, eo, _⟩ := n'; exact ⟨o, q ▸ eo⟩
      · obtain ⟨o, eo⟩ := hb; exact ⟨o, ob b o q eo⟩
    · obtain ⟨w, ic⟩ := c.en.cell n cc q
      exact ⟨w, cells cc w ic⟩
    · rcases sl with ⟨a, m', n1, em⟩ | ⟨a, cc, l, ic⟩
      · cases Ns.fun nn n1
        exact .inl ⟨a, _, n', by simp only [if_neg hy]; exact em⟩
      · exact .inr ⟨a, cc, l, cells cc _ ic⟩
    · rcases sl with ⟨a, m', n1, em⟩ | ⟨a, cc, l, ic⟩
      · cases Ns.fun n' n1
        simp only [if_neg hy] at em
        exact .inl ⟨a, _, nn, em⟩
      · obtain ⟨w, ic'⟩ := c.en.cell y cc l
        cases Cell.fun ic (cells cc w ic')
        exact .inr ⟨a, cc, l, ic'⟩
  · obtain ⟨hkx, cc, hc⟩ := c.en.kcell x hx
    obtain ⟨w₀, ic⟩ := c.en.cell x cc hc
    obtain ⟨oc, ho1, ho2⟩ := id ic
    refine wpAny_storeName_cell c.en.kind hkx hc ic fun h' ic' hs => ⟨h', tk, rfl, ?_⟩
    have ob : ∀ b o, b ≠ cc → h.get? b = some o → h'.get? b = some o := fun b o hb eb => hs.extBut b o hb eb
    have hlc : e.locals ≠ cc := fun q => by rw [q, ho1] at hl1; cases hl1; rw [hl2] at ho2; cases ho2
    have n' : h'.Ns e.locals m := ⟨ol, es, ep, ob _ _ hlc hl1, hl2, hl3⟩
    have hcP : cc ∉ Γ.C.Ps := c.act.tab.notPd ho1 fun vs q => by rw [ho2] at q; cases q
    refine { ex := ⟨cc, .inr ⟨x, hc⟩, c.own0.2 x cc hx hc, ⟨oc, ho1, fun xs k q => by rw [ho2] at q; cases q⟩, Ext.of_but fun b o hb eb => ob b o (fun q => hb (q ▸ .head _)) eb⟩, tab := c.act.tab.but ob ho1 (fun vs q => (by rw [ho2] at q; cases q)) (c.act.h0 ▸ c.own0.2 x cc hx hc), al := fun b hb => ?_, ns := ⟨_, n'⟩, cell := fun n c2 q => ?_, slot := .inr ⟨.inl hkx, cc, hc, ic'⟩, others := fun y u hy sl => ?_, back := fun y u hy sl => ?_ }
    · by_cases q : b = cc
      · obtain ⟨o, eo, _⟩ := ic'; exact ⟨o, q ▸ eo⟩
      · obtain ⟨o, eo⟩ := hb; exact ⟨o, ob b o q eo⟩
    · by_cases z : c2 = cc
      · rw [z]; exact ⟨_, ic'⟩
      · obtain ⟨w, o2, e1, e2⟩ := c.en.cell n c2 q
        exact ⟨w, o2, ob c2 o2 z e1, e2⟩
    · rcases sl with ⟨a, m', n1, em⟩ | ⟨a, c2, l, o2, e1, e2⟩
      · cases Ns.fun nn n1
        exact .inl ⟨a, _, n', em⟩
      · exact .inr ⟨a, c2, l, o2, ob c2 o2 (fun q => hy (c.en.inj y x cc (q ▸ l) hc)) e1, e2⟩
    · rcases sl with ⟨a, m', n1, em⟩ | ⟨a, c2, l, ic2⟩
      · cases Ns.fun n' n1
        exact .inl ⟨a, _, nn, em⟩
      · obtain ⟨w, o2, e1, e2⟩ := c.en.cell y c2 l
        have : h'.IsCell c2 w := ⟨o2, ob c2 o2 (fun q => hy (c.en.inj y x cc (q ▸ l) hc)) e1, e2⟩
        cases Cell.fun ic2 this
        exact .inr ⟨a, c2, l, o2, e1, e2⟩
end

end
end Mine
namespace Mine
section
open PySem.Calls
set_option backward.match.sparseCases false


mutual
/-- no function in it -/
noncomputable def PV.plain : PV → Bool
  | .fn _ => false
  | .lst xs => plainL xs
  | .tup xs => plainL xs
  | _ => true
noncomputable def plainL : List PV → Bool
  | [] => true
  | x :: xs => x.plain && plainL xs
end
mutual
theorem Rep.unique {h : Heap} {X Y : List Addr} : ∀ {x y : PV} {v : Value}, Rep h X x v → Rep h Y y v → x.plain = true → y.plain = true → x = y
  | .int _, y, _, r, r', _, q => by
    obtain ⟨t, rfl⟩ := r
    cases y with
    | int j => obtain ⟨t', e⟩ := r'; cases e; rfl
    | bool => cases r'
    | none => cases r'
    | str => obtain ⟨_, e⟩ := r'; cases e
    | fn => cases q
    | lst => obtain ⟨_, _, e, _⟩ := r'; cases e
    | tup => obtain ⟨_, _, e, _⟩ := r'; cases e
  | .bool _, y, _, r, r', _, q => by
    cases r
    cases y with
    | int j => obtain ⟨t', e⟩ := r'; cases e
    | bool => cases r'; rfl
    | none => cases r'
    | str => obtain ⟨_, e⟩ := r'; cases e
    | fn => cases q
    | lst => obtain ⟨_, _, e, _⟩ := r'; cases e
    | tup => obtain ⟨_, _, e, _⟩ := r'; cases e
  | .none, y, _, r, r', _, q => by
    cases r
    cases y with
    | int j => obtain ⟨t', e⟩ := r'; cases e
    | bool => cases r'
    | none => rfl
    | str => obtain ⟨_, e⟩ := r'; cases e
    | fn => cases q
    | lst => obtain ⟨_, _, e, _⟩ := r'; cases e
    | tup => obtain ⟨_, _, e, _⟩ := r'; cases e
  | .str _, y, _, r, r', _, q => by
    obtain ⟨t, rfl⟩ := r
    cases y with
    | int j => obtain ⟨t', e⟩ := r'; cases e
    | bool => cases r'
    | none => cases r'
    | str => obtain ⟨_, e⟩ := r'; cases e; rfl
    | fn => cases q
    | lst => obtain ⟨_, _, e, _⟩ := r'; cases e
    | tup => obtain ⟨_, _, e, _⟩ := r'; cases e
  | .fn _, _, _, _, _, p, _ => by cases p
  | .lst xs, y, _, r, r', p, q => by
    obtain ⟨a, vs, rfl, _, ⟨o, ho, hc, n, hd⟩, hr⟩ := r
    cases y with
    | int j => obtain ⟨t', e⟩ := r'; cases e
    | bool => cases r'
    | none => cases r'
    | str => obtain ⟨_, e⟩ := r'; cases e
    | fn => cases q
    | lst ys =>
      obtain ⟨a', vs', e, _, ⟨o', ho', hc', n', hd'⟩, hr'⟩ := r'
      cases e
      rw [ho] at ho'; cases ho'
      rw [hd] at hd'
      have e : vs = vs' := by simpa using congrArg (fun d => match d with | Data.seq xs _ => xs.toList | _ => []) hd'
      subst e
      exact congrArg _ (RepL.unique hr hr' p q)
    | tup ys =>
      obtain ⟨a', vs', e, _, ⟨o', ho', hc', n', hd'⟩, hr'⟩ := r'
      cases e
      rw [ho] at ho'; cases ho'
      rw [hc] at hc'
      exact absurd (Value.type.inj hc') (by decide)
  | .tup xs, y, _, r, r', p, q => by
    obtain ⟨a, vs, rfl, _, ⟨o, ho, hc, n, hd⟩, hr⟩ := r
    cases y with
    | int j => obtain ⟨t', e⟩ := r'; cases e
    | bool => cases r'
    | none => cases r'
    | str => obtain ⟨_, e⟩ := r'; cases e
    | fn => cases q
    | tup ys =>
      obtain ⟨a', vs', e, _, ⟨o', ho', hc', n', hd'⟩, hr'⟩ := r'
      cases e
      rw [ho] at ho'; cases ho'
      rw [hd] at hd'
      have e : vs = vs' := by simpa using congrArg (fun d => match d with | Data.seq xs _ => xs.toList | _ => []) hd'
      subst e
      exact congrArg _ (RepL.unique hr hr' p q)
    | lst ys =>
      obtain ⟨a', vs', e, _, ⟨o', ho', hc', n', hd'⟩, hr'⟩ := r'
      cases e
      rw [ho] at ho'; cases ho'
      rw [hc] at hc'
      exact absurd (Value.type.inj hc') (by decide)
theorem RepL.unique {h : Heap} {X Y : List Addr} : ∀ {xs ys : List PV} {vs : List Value}, RepL h X xs vs → RepL h Y ys vs → plainL xs = true → plainL ys = true → xs = ys
  | [], ys, _, r, r', _, _ => by
    cases r
    cases ys with
    | nil => rfl
    | cons => obtain ⟨_, _, e, _⟩ := r'; cases e
  | x :: xs, ys, _, r, r', p, q => by
    obtain ⟨v, vs, rfl, r1, r2⟩ := r
    cases ys with
    | nil => cases r'
    | cons y ys =>
      obtain ⟨v', vs', e, s1, s2⟩ := r'
      cases e
      simp only [plainL, Bool.and_eq_true] at p q
      rw [Rep.unique r1 s1 p.1 q.1, RepL.unique r2 s2 p.2 q.2]
end
mutual
/-- a value less deep than the list at D lies off D -/
theorem Rep.offD {h : Heap} {X : List Addr} {D : Addr} {big : PV} (hb : Rep h X big (.ref D)) (pb : big.plain = true) : ∀ {x : PV} {v : Value}, Rep h X x v → x.plain = true → sizeOf x < sizeOf big → Rep h (D :: X) x v
  | .int _, _, r, _, _ => r
  | .bool _, _, r, _, _ => r
  | .none, _, r, _, _ => r
  | .str _, _, r, _, _ => r
  | .fn _, _, r, _, _ => r
  | .lst xs, _, r, p, q => by
    have r0 := r
    obtain ⟨a, vs, rfl, ha, hl, hr⟩ := r
    refine ⟨a, vs, rfl, fun z => ?_, hl, RepL.offD hb pb hr p (by simp only [PV.lst.sizeOf_spec] at q; (first | lia | omega))⟩
    rcases List.mem_cons.mp z with z | z
    · subst z
      have := Rep.unique r0 hb p pb
      rw [this] at q; exact Nat.lt_irrefl _ q
    · exact ha z
  | .tup xs, _, r, p, q => by
    have r0 := r
    obtain ⟨a, vs, rfl, ha, hl, hr⟩ := r
    refine ⟨a, vs, rfl, fun z => ?_, hl, RepL.offD hb pb hr p (by simp only [PV.tup.sizeOf_spec] at q; (first | lia | omega))⟩
    rcases List.mem_cons.mp z with z | z
    · subst z
      have := Rep.unique r0 hb p pb
      rw [this] at q; exact Nat.lt_irrefl _ q
    · exact ha z
theorem RepL.offD {h : Heap} {X : List Addr} {D : Addr} {big : PV} (hb : Rep h X big (.ref D)) (pb : big.plain = true) : ∀ {xs : List PV} {vs : List Value}, RepL h X xs vs → plainL xs = true → sizeOf xs < sizeOf big → RepL h (D :: X) xs vs
  | [], _, r, _, _ => r
  | x :: xs, _, r, p, q => by
    obtain ⟨v, vs, rfl, r1, r2⟩ := r
    simp only [plainL, Bool.and_eq_true] at p
    simp only [List.cons.sizeOf_spec] at q
    exact ⟨v, vs, rfl, Rep.offD hb pb r1 p.1 (by (first | lia | omega)), RepL.offD hb pb r2 p.2 (by (first | lia | omega))⟩
end

/-- a list of lists of the function's own: its places -/
structure Own3 (Γ : Fx) (e : Env) (h₀ : Heap) (X₀ X : List Addr) (ρ : PEnv) (h : Heap) : Prop where
  one : ∀ x y i j xss yss, varOf Γ.nm x = some i → varOf Γ.nm y = some j → get ρ i = .own2 xss → get ρ j = .own2 yss → i = j
  at' : ∀ x i xss v, varOf Γ.nm x = some i → get ρ i = .own2 xss → Slot e x h v → ∃ (a : Addr) (as : List Addr), v = .ref a ∧ h.PlainList a (as.map Value.ref).toArray ∧ (a :: as).Nodup ∧
    ∀ b ∈ a :: as, b ∈ X ∧ b ∉ X₀ ∧ h₀.get? b = none ∧ (∃ xs, h.PlainList b xs) ∧ ∀ y j ys, varOf Γ.nm y = some j → get ρ j = .own ys → ¬ Slot e y h (.ref b)
theorem Own3.no {Γ : Fx} {e : Env} {h₀ : Heap} {X₀ X : List Addr} {ρ : PEnv} {h : Heap} (k : ∀ i xss, get ρ i ≠ .own2 xss) : Own3 Γ e h₀ X₀ X ρ h := ⟨fun _ _ i _ _ _ _ _ q => absurd q (k i _), fun _ i _ _ _ q => absurd q (k i _)⟩
theorem Own3.move {Γ : Fx} {e : Env} {h₀ : Heap} {X₀ X X₀' X' : List Addr} {ρ ρ' : PEnv} {h h' : Heap} (O : Own3 Γ e h₀ X₀ X ρ h) (h0 : ∀ i xss, get ρ' i = .own2 xss → get ρ i = .own2 xss)
    (h1 : ∀ x i xss v, varOf Γ.nm x = some i → get ρ' i = .own2 xss → Slot e x h' v → Slot e x h v)
    (h2 : ∀ y j ys b, varOf Γ.nm y = some j → get ρ' j = .own ys → Slot e y h' (.ref b) → (∃ ys', get ρ j = .own ys' ∧ Slot e y h (.ref b)) ∨ h.get? b = none)
    (h3 : ∀ b xs, b ∈ X → b ∉ X₀ → h₀.get? b = none → h.PlainList b xs → (∀ y j ys, varOf Γ.nm y = some j → get ρ j = .own ys → ¬ Slot e y h (.ref b)) → b ∈ X' ∧ b ∉ X₀' ∧ h'.PlainList b xs) : Own3 Γ e h₀ X₀' X' ρ' h' :=
  ⟨fun x y i j xss yss q1 q2 q3 q4 => O.one x y i j xss yss q1 q2 (h0 _ _ q3) (h0 _ _ q4), fun x i xss v q1 q2 q3 => by
    obtain ⟨a, as, e1, e2, e3, e4⟩ := O.at' x i xss v q1 (h0 _ _ q2) (h1 x i xss v q1 q2 q3)
    obtain ⟨a1, a2, a3, _, a5⟩ := e4 a (.head _)
    refine ⟨a, as, e1, (h3 a _ a1 a2 a3 e2 a5).2.2, e3, fun b hb => ?_⟩
    obtain ⟨b1, b2, b3, ⟨xs, b4⟩, b5⟩ := e4 b hb
    obtain ⟨c1, c2, c3⟩ := h3 b xs b1 b2 b3 b4 b5
    refine ⟨c1, c2, b3, ⟨xs, c3⟩, fun y j ys p1 p2 p3 => ?_⟩
    rcases h2 y j ys b p1 p2 p3 with ⟨ys', q, s⟩ | q
    · exact b5 y j ys' p1 q s
    · obtain ⟨n, ho⟩ := b4
      rw [q] at ho; cases ho⟩
/-- a function's state between two statements -/
structure ST (Γ : Fx) (A : Around) (e : Env) (h₀ : Heap) (sc : Scope) (X₀ X : List Addr) (ρ : PEnv) (h : Heap) : Prop where
  xc : XC Γ A e h₀ sc e ρ X h
  own1 : ∀ x i xs v, varOf Γ.nm x = some i → get ρ i = .own xs → Slot e x h v → ∃ a, v = .ref a ∧ a ∈ X ∧ a ∉ X₀ ∧ h₀.get? a = none
  own2 : ∀ x y i j xs ys a, varOf Γ.nm x = some i → varOf Γ.nm y = some j → get ρ i = .own xs → get ρ j = .own ys → Slot e x h (.ref a) → Slot e y h (.ref a) → i = j
  sub : ∀ a ∈ X₀, a ∈ X
  own3 : Own3 Γ e h₀ X₀ X ρ h

section
variable {Γ : Fx} {C : Cx} {h₀ : Heap} {A : Around} {sc : Scope} {e : Env} {ρ : PEnv} {X₀ X X' : List Addr} {h h' : Heap}

theorem PutR.kp {x : Str} {v : Value} (p : PutR C h₀ e x v h h') (t : TabsOk C h) (Y : List Addr) : Kp Y h h' := fun b ob _ sq eb => by
  obtain ⟨a, _, ha0, ⟨oa, hoa, hoa'⟩, k⟩ := p.ex
  obtain ⟨hc, xs, nn, hd⟩ := sq
  refine k.at (fun q => (List.mem_cons.mp q).elim (fun q => ?_) (t.notP eb (by rcases hc with q | q <;> rw [q] <;> nofun))) eb fun _ _ q => by rw [hd] at q; cases q
  rw [q, hoa] at eb; cases eb
  exact hoa' _ _ hd

theorem Slot.ext_back (en : EnvOk C sc e h) (t : TabsOk C h) (k : Ext C.Ps h h') {x : Str} {v : Value} (q : Slot e x h' v) : Slot e x h v := by
  rcases q with ⟨a, m', n1, em⟩ | ⟨a, cc, l, ic⟩
  · obtain ⟨m, nn⟩ := en.loc
    cases Ns.fun n1 (Ns.ext t k nn)
    exact .inl ⟨a, m', nn, em⟩
  · obtain ⟨w, ic'⟩ := en.cell x cc l
    cases Cell.fun ic (Cell.ext t k ic')
    exact .inr ⟨a, cc, l, ic'⟩
theorem ST.step (S : ST Γ A e h₀ sc X₀ X ρ h) (k : Ext Γ.C.Ps h h') (t : TabsOk Γ.C h') : ST Γ A e h₀ sc X₀ X ρ h' :=
  { S with xc := S.xc.step k t
           own1 := fun x i xs v h1 h2 h3 => S.own1 x i xs v h1 h2 (Slot.ext_back S.xc.en S.xc.act.tab k h3)
           own2 := fun x y i j xs ys a h1 h2 h3 h4 h5 h6 => S.own2 x y i j xs ys a h1 h2 h3 h4 (Slot.ext_back S.xc.en S.xc.act.tab k h5) (Slot.ext_back S.xc.en S.xc.act.tab k h6)
           own3 := S.own3.move (fun _ _ q => q) (fun _ _ _ _ _ _ q => Slot.ext_back S.xc.en S.xc.act.tab k q) (fun _ _ ys _ _ q q' => .inl ⟨ys, q, Slot.ext_back S.xc.en S.xc.act.tab k q'⟩) fun _ _ q1 q2 _ q4 _ => ⟨q1, q2, plain_ext S.xc.act.tab k q4⟩ }
theorem put_val_own2 {ρ : PEnv} {i j : Nat} {b : Bind} {xss : List (List Int)} (hb : ∀ ys, b ≠ .own2 ys) (q : get (Mine.put ρ i b) j = .own2 xss) : j ≠ i ∧ get ρ j = .own2 xss := by
  rw [get_put] at q
  split at q
  · exact absurd q (hb _)
  · rename_i z; exact ⟨z, q⟩

/-- a name set to a value -/
theorem ST.putV (S : ST Γ A e h₀ sc X₀ X ρ h) {x : Str} {i : Nat} {v : Value} {pv : PV} (p : PutR Γ.C h₀ e x v h h') (hv : varOf Γ.nm x = some i) (r : Rep h' X pv v) : ST Γ A e h₀ sc X₀ X (Mine.put ρ i (.val pv)) h' := by
  have bk : ∀ {y : Str} {j : Nat} {u : Value}, varOf Γ.nm y = some j → j ≠ i → Slot e y h' u → Slot e y h u := fun h1 q h3 => p.back _ _ (fun z => by subst z; rw [hv] at h1; cases h1; exact q rfl) h3
  refine { S with xc := S.xc.put p hv (b := .val pv) r fun a q => .inl q, own1 := fun y j xs u h1 h2 h3 => ?_, own2 := fun y z j k xs ys a h1 h2 h3 h4 h5 h6 => ?_, own3 := S.own3.move (fun j _ q => (put_val_own2 (fun _ z => by cases z) q).2) (fun _ _ _ _ q1 q2 q3 => bk q1 (put_val_own2 (fun _ z => by cases z) q2).1 q3) (fun y j ys b q1 q2 q3 => ?_) fun _ _ q1 q2 _ q4 _ => ⟨q1, q2, plain_kp (p.kp S.xc.act.tab []) q4⟩ }
  · rw [get_put] at h2
    split at h2
    · cases h2
    · rename_i q
      exact S.own1 y j xs u h1 h2 (p.back y u (fun z => by subst z; rw [hv] at h1; cases h1; exact q rfl) h3)
  · rw [get_put] at h3 h4
    split at h3
    · cases h3
    · split at h4
      · cases h4
      · rename_i q q'
        exact S.own2 y z j k xs ys a h1 h2 h3 h4 (p.back y _ (fun z => by subst z; rw [hv] at h1; cases h1; exact q rfl) h5) (p.back z _ (fun z => by subst z; rw [hv] at h2; cases h2; exact q' rfl) h6)
  · rw [get_put] at q2
    split at q2
    · cases q2
    · rename_i q
      exact .inl ⟨ys, q2, bk q1 q q3⟩

/-- a name set to a list of the function's own -/
theorem ST.putO (S : ST Γ A e h₀ sc X₀ X ρ h) {x : Str} {i : Nat} {d : Addr} {xs : List PV} (p : PutR Γ.C h₀ e x (.ref d) h h') (hv : varOf Γ.nm x = some i) (r : Rep h' X (.lst xs) (.ref d)) (hp : plainL xs = true) (hd : h.get? d = none) (hpl : New h (.ref d) h') :
    ST Γ A e h₀ sc X₀ (d :: X) (Mine.put ρ i (.own xs)) h' := by
  have hb : HoldsB (d :: X) h' (.own xs) (.ref d) := by
    have r0 := r
    obtain ⟨a, vs, ea, _, l, hr⟩ := r
    cases ea
    exact ⟨d, vs, rfl, hpl.plain l, RepL.offD r0 (by simpa [PV.plain] using hp) hr hp (by simp only [PV.lst.sizeOf_spec]; (first | lia | omega))⟩
  have hd0 : h₀.get? d = none := by
    cases q : h₀.get? d with
    | none => rfl
    | some o => rw [S.xc.act.keep0 _ _ q] at hd; cases hd
  have hal : ∃ o, h'.get? d = some o := by obtain ⟨a, vs, ea, _, ⟨o, l, _⟩, _⟩ := r; cases ea; exact ⟨o, l⟩
  have xc := S.xc.put (X' := d :: X) p hv (b := .own xs) hb fun a q => by
    rcases List.mem_cons.mp q with rfl | q
    · exact .inr ⟨hd, hal⟩
    · exact .inl q
  have notd : ∀ y j ys, varOf Γ.nm y = some j → get ρ j = .own ys → ¬ Slot e y h (.ref d) := fun y j ys h1 h2 h3 => by
    obtain ⟨a, ea, ha, _⟩ := S.own1 y j ys _ h1 h2 h3
    cases ea
    obtain ⟨o, eo⟩ := S.xc.alloc _ ha
    rw [hd] at eo; cases eo
  have bk : ∀ {y : Str} {j : Nat} {u : Value}, varOf Γ.nm y = some j → j ≠ i → Slot e y h' u → Slot e y h u := fun h1 q h3 => p.back _ _ (fun z => by subst z; rw [hv] at h1; cases h1; exact q rfl) h3
  have o3 : Own3 Γ e h₀ X₀ (d :: X) (Mine.put ρ i (.own xs)) h' := S.own3.move (fun j _ q => (put_val_own2 (fun _ z => by cases z) q).2) (fun _ _ _ _ q1 q2 q3 => bk q1 (put_val_own2 (fun _ z => by cases z) q2).1 q3) (fun y j ys b q1 q2 q3 => by
    by_cases q : j = i
    · subst q
      have := varOf_inj q1 hv
      subst this
      cases Slot.fun q3 p.slot
      exact .inr hd
    · rw [get_other q] at q2
      exact .inl ⟨ys, q2, bk q1 q q3⟩) fun _ _ q1 q2 _ q4 _ => ⟨.tail _ q1, q2, plain_kp (p.kp S.xc.act.tab []) q4⟩
  refine { xc := xc, own1 := fun y j ys u h1 h2 h3 => ?_, own2 := fun y z j k ys zs a h1 h2 h3 h4 h5 h6 => ?_, sub := fun a q => .tail _ (S.sub a q), own3 := o3 }
  · rw [get_put] at h2
    split at h2
    · rename_i q
      subst q
      have := varOf_inj h1 hv
      subst this
      cases Slot.fun h3 p.slot
      exact ⟨d, rfl, .head _, fun q => (by obtain ⟨o, eo⟩ := S.xc.alloc _ (S.sub _ q); rw [hd] at eo; cases eo), hd0⟩
    · rename_i q
      obtain ⟨a, e1, e2, e3⟩ := S.own1 y j ys u h1 h2 (p.back y u (fun z => by subst z; rw [hv] at h1; cases h1; exact q rfl) h3)
      exact ⟨a, e1, .tail _ e2, e3⟩
  · rw [get_put] at h3 h4
    split at h3 <;> split at h4
    · rename_i q q'; rw [q, q']
    · rename_i q q'
      exfalso
      subst q
      have := varOf_inj h1 hv
      subst this
      cases Slot.fun h5 p.slot
      exact notd z k zs h2 h4 (p.back z _ (fun z => by subst z; rw [hv] at h2; cases h2; exact q' rfl) h6)
    · rename_i q q'
      exfalso
      subst q'
      have := varOf_inj h2 hv
      subst this
      cases Slot.fun h6 p.slot
      exact notd y j ys h1 h3 (p.back y _ (fun z => by subst z; rw [hv] at h1; cases h1; exact q rfl) h5)
    · rename_i q q'
      exact S.own2 y z j k ys zs a h1 h2 h3 h4 (p.back y _ (fun z => by subst z; rw [hv] at h1; cases h1; exact q rfl) h5) (p.back z _ (fun z => by subst z; rw [hv] at h2; cases h2; exact q' rfl) h6)

theorem refs_inj {a : Addr} {as bs : List Addr} (l : h.PlainList a (as.map Value.ref).toArray) (l' : h.PlainList a (bs.map Value.ref).toArray) : as = bs := by
  obtain ⟨n, ho⟩ := l
  obtain ⟨n', ho'⟩ := l'
  rw [ho] at ho'
  have e : (as.map Value.ref).toArray = (bs.map Value.ref).toArray := by
    have := congrArg (fun o => match o with | some (o : Obj) => (match o.data with | .seq xs _ => xs | _ => #[]) | none => #[]) ho'
    exact this
  have e2 : as.map Value.ref = bs.map Value.ref := by simpa using congrArg Array.toList e
  exact List.map_inj_right (fun x y q => by cases q; rfl) |>.mp e2
theorem ST.own0 (S : ST Γ A e h₀ sc X₀ X ρ h) {x : Str} {i : Nat} {a : Addr} {xs : List PV} (hv : varOf Γ.nm x = some i) (hi : get ρ i = .own xs) (sl : Slot e x h (.ref a)) : h₀.get? a = none := by
  obtain ⟨a', ea, _, _, hg⟩ := S.own1 x i xs _ hv hi sl
  cases ea; exact hg
/-- one of the function's own lists changed -/
theorem same_ext {a : Addr} {items : Array Value} (t : TabsOk C h) (hl : h.IsList a items) (hs : Heap.SameBut a h h') (h0 : C.base.get? a = none) : Ext (a :: C.Ps) h h' ∧ TabsOk C h' :=
  let ⟨_, ho, _, _, hd⟩ := hl
  ⟨Ext.of_but fun b o hb eb => hs.extBut b o (fun q => hb (q ▸ .head _)) eb, t.but (fun b o hb eb => hs.extBut b o hb eb) ho (fun vs q => by rw [hd] at q; cases q) h0⟩
/-- what one of the function's own lists, changed, leaves -/
structure Mvd (Γ : Fx) (A : Around) (e : Env) (h₀ : Heap) (sc : Scope) (X : List Addr) (a : Addr) (h h' : Heap) : Prop where
  ob : ∀ b o, b ≠ a → b ∉ Γ.C.Ps → IsSq o → h.get? b = some o → h'.get? b = some o
  kp : Kp X h h'
  slot : ∀ {y u}, Slot e y h u → Slot e y h' u
  back : ∀ {y u}, Slot e y h' u → Slot e y h u
  act : Act Γ.C A e h₀ h'
  en : EnvOk Γ.C sc e h'
  al : ∀ b ∈ X, ∃ o, h'.get? b = some o
theorem Mvd.pl {a : Addr} (t : TabsOk Γ.C h) (M : Mvd Γ A e h₀ sc X a h h') {b : Addr} {ws : Array Value} (hb : b ≠ a) (l : h.PlainList b ws) : h'.PlainList b ws := let ⟨k, ho⟩ := l; ⟨k, M.ob _ _ hb (t.notP ho (by nofun)) ⟨.inl rfl, _, _, rfl⟩ ho⟩
theorem ST.moved (S : ST Γ A e h₀ sc X₀ X ρ h) {a : Addr} {vs : List Value} (ha : a ∈ X) (hl : h.IsList a vs.toArray) (hs : Ext (a :: Γ.C.Ps) h h') (tab : TabsOk Γ.C h') (hl' : ∃ o, h'.get? a = some o) : Mvd Γ A e h₀ sc X a h h' := by
  obtain ⟨oa, hoa, hca, na, hda⟩ := id hl
  have nw : ∀ {b : Addr}, b ≠ a → b ∉ Γ.C.Ps → b ∉ a :: Γ.C.Ps := fun hb hp q => (List.mem_cons.mp q).elim hb hp
  have ob : ∀ b o, b ≠ a → b ∉ Γ.C.Ps → IsSq o → h.get? b = some o → h'.get? b = some o := fun b o hb hp sq eb => hs.at (nw hb hp) eb sq.noD
  obtain ⟨m, nn⟩ := S.xc.en.loc
  have nd : ∀ {b : Addr} {o : Obj}, h.get? b = some o → (∀ xs k, o.data ≠ .seq xs k) → b ≠ a := fun eb hd q => by
    rw [q, hoa] at eb; cases eb; exact hd _ _ hda
  have nn' : h'.Ns e.locals m := by
    obtain ⟨ol, es, ep, hl1, hl2, hl3⟩ := id nn
    exact hs.ns (nw (nd hl1 fun xs k q => by rw [hl2] at q; cases q) (S.xc.act.tab.notPd hl1 fun vs q => by rw [hl2] at q; cases q)) nn
  have cell : ∀ {cc : Addr} {w : Option Value}, h.IsCell cc w → h'.IsCell cc w := fun ic => by
    obtain ⟨o, e1, e2⟩ := id ic
    exact hs.cell (nw (nd e1 fun xs k q => by rw [e2] at q; cases q) (S.xc.act.tab.notPd e1 fun vs q => by rw [e2] at q; cases q)) ic
  refine { ob := ob, kp := fun b o hb sq eb => ob b o (fun q => hb (q ▸ ha)) (S.xc.act.tab.notP eb (by rcases sq.1 with q | q <;> rw [q] <;> nofun)) sq eb, slot := fun q => ?_, back := fun q => ?_, act := ?_, en := ?_, al := fun b q => ?_ }
  · rcases q with ⟨k, m', n1, em⟩ | ⟨k, cc, l, ic⟩
    · cases Ns.fun nn n1; exact .inl ⟨k, _, nn', em⟩
    · exact .inr ⟨k, cc, l, cell ic⟩
  · rcases q with ⟨k, m', n1, em⟩ | ⟨k, cc, l, ic⟩
    · cases Ns.fun nn' n1; exact .inl ⟨k, _, nn, em⟩
    · obtain ⟨w, ic'⟩ := S.xc.en.cell _ cc l
      cases Cell.fun ic (cell ic')
      exact .inr ⟨k, cc, l, ic'⟩
  · refine S.xc.act.re ⟨m, nn'⟩ tab fun L m n => ⟨m, hs.ns (nw (fun q => ?_) (ns_notP S.xc.act.tab n)) n⟩
    obtain ⟨o, es, ep, e1, e2, _⟩ := n
    rw [q, hoa] at e1; cases e1
    rw [hda] at e2; cases e2
  · exact { S.xc.en with loc := ⟨m, nn'⟩, cell := fun y cc l => let ⟨w, ic⟩ := S.xc.en.cell y cc l; ⟨w, cell ic⟩ }
  · by_cases z : b = a
    · exact z ▸ hl'
    · by_cases hp : b ∈ Γ.C.Ps
      · obtain ⟨ps, e⟩ := tab.obj hp; exact ⟨_, e⟩
      · exact hs.some b (nw z hp) (S.xc.alloc b q)
theorem ST.mut (S : ST Γ A e h₀ sc X₀ X ρ h) {x : Str} {i : Nat} {a : Addr} {xs ys : List PV} {vs vs' : List Value} (hv : varOf Γ.nm x = some i) (hi : get ρ i = .own xs) (sl : Slot e x h (.ref a)) (hl : h.IsList a vs.toArray)
    (hs : Ext (a :: Γ.C.Ps) h h') (tab : TabsOk Γ.C h') (hl' : h'.PlainList a vs'.toArray) (hr : RepL h X ys vs') : ST Γ A e h₀ sc X₀ X (Mine.put ρ i (.own ys)) h' := by
  obtain ⟨a', ea, ha, ha0, hg⟩ := S.own1 x i xs _ hv hi sl
  cases ea
  have M := S.moved ha hl hs tab (let ⟨_, e⟩ := hl'; ⟨_, e⟩)
  have key : ∀ {l : Nat} {rs : List PV}, get (Mine.put ρ i (.own ys)) l = .own rs → ∃ rs', get ρ l = .own rs' := fun {l rs} hl => by
    rw [get_put] at hl
    split at hl
    · rename_i q; exact ⟨xs, q ▸ hi⟩
    · exact ⟨rs, hl⟩
  refine { xc := { act := M.act, dep := S.xc.dep, unt := S.xc.unt, en := M.en, vars := ?_, alloc := M.al, own0 := S.xc.own0 }, own1 := fun y j zs u h1 h2 h3 => let ⟨zs', e2⟩ := key h2; S.own1 y j zs' u h1 e2 (M.back h3), own2 := fun y z j k ps qs b h1 h2 h3 h4 h5 h6 => let ⟨ps', e3⟩ := key h3; let ⟨qs', e4⟩ := key h4; S.own2 y z j k ps' qs' b h1 h2 e3 e4 (M.back h5) (M.back h6), sub := S.sub, own3 := S.own3.move (fun j _ q => (put_val_own2 (fun _ z => by cases z) q).2) (fun _ _ _ _ _ _ q3 => M.back q3) (fun y j zs b q1 q2 q3 => let ⟨zs', e2⟩ := key q2; .inl ⟨zs', e2, M.back q3⟩) fun b ws q1 q2 _ q4 q5 => ⟨q1, q2, M.pl S.xc.act.tab (fun z => q5 x i xs hv hi (z ▸ sl)) q4⟩ }
  intro j y kd h2 h3 h4 h1
  by_cases q : j = i
  · subst q
    have := varOf_inj h2 hv
    subst this
    rw [get_same]
    exact ⟨.ref a, M.slot sl, a, vs', rfl, hl', hr.keep M.kp⟩
  · rw [get_other q] at h1 ⊢
    obtain ⟨u, sl', r⟩ := S.xc.vars j y kd h2 h3 h4 h1
    refine ⟨u, M.slot sl', ?_⟩
    generalize hb : get ρ j = b at r
    cases b with
    | undef => trivial
    | val _ => exact Rep.keep M.kp r
    | own2 zss =>
      obtain ⟨a', as, rfl, l, r⟩ := r
      obtain ⟨a2, as2, e2, l2, _, o4⟩ := S.own3.at' y j zss _ h2 hb sl'
      cases e2
      have hne : ∀ b ∈ a' :: as2, b ≠ a := fun b hb' z => by subst z; exact (o4 b hb').2.2.2.2 x i xs hv hi sl
      have eas : as = as2 := refs_inj l l2
      subst eas
      exact ⟨a', as, rfl, M.pl S.xc.act.tab (hne _ (.head _)) l, r.imp fun b hb' _ => M.pl S.xc.act.tab (hne _ (.tail _ hb'))⟩
    | own zs =>
      obtain ⟨a', ws, rfl, l, r⟩ := r
      exact ⟨a', ws, rfl, M.pl S.xc.act.tab (fun z => q (S.own2 y x j i zs xs a h2 hv hb hi (z ▸ sl') sl)) l, r.keep M.kp⟩
theorem Rows.set {h h' : Heap} {b : Addr} {ys : List Int} {vs' : List Value} (hl' : h'.PlainList b vs'.toArray) (hi : IntsAre vs' ys) (k : ∀ c ws, c ≠ b → h.PlainList c ws → h'.PlainList c ws) : ∀ {xss : List (List Int)} {as : List Addr} {j : Nat}, as.Nodup → as[j]? = some b → Rows h xss as → Rows h' (xss.set j ys) as
  | [], _, _, _, e, r => by cases r; cases e
  | xs :: xss, _, 0, hn, e, r => by
    obtain ⟨c, bs, vs, rfl, p, q, r⟩ := r
    cases e
    exact ⟨b, bs, vs', rfl, hl', hi, r.imp fun c hc ws => k c ws fun z => (List.nodup_cons.mp hn).1 (z ▸ hc)⟩
  | xs :: xss, _, j + 1, hn, e, r => by
    obtain ⟨c, bs, vs, rfl, p, q, r⟩ := r
    have e : bs[j]? = some b := by simpa using e
    exact ⟨c, bs, vs, rfl, k c _ (fun z => (List.nodup_cons.mp hn).1 (z ▸ List.mem_of_getElem? e)) p, q, Rows.set hl' hi k (List.nodup_cons.mp hn).2 e r⟩
/-- a row of one of the function's own lists of lists changed -/
theorem ST.mut2 (S : ST Γ A e h₀ sc X₀ X ρ h) {x : Str} {i j : Nat} {a b : Addr} {xss : List (List Int)} {ys : List Int} {as : List Addr} {vs vs' : List Value} (hv : varOf Γ.nm x = some i) (hi : get ρ i = .own2 xss) (sl : Slot e x h (.ref a)) (pl : h.PlainList a (as.map Value.ref).toArray) (hr : Rows h xss as) (hj : as[j]? = some b) (hl : h.IsList b vs.toArray)
    (hs : Ext (b :: Γ.C.Ps) h h') (tab : TabsOk Γ.C h') (hl' : h'.PlainList b vs'.toArray) (hy : IntsAre vs' ys) : ST Γ A e h₀ sc X₀ X (Mine.put ρ i (.own2 (xss.set j ys))) h' := by
  obtain ⟨a', as', ea, l2, nd, o4⟩ := S.own3.at' x i xss _ hv hi sl
  cases ea
  cases refs_inj pl l2
  have hbm : b ∈ as := List.mem_of_getElem? hj
  obtain ⟨ha, _, hg, _, hno⟩ := o4 b (.tail _ hbm)
  have hab : a ≠ b := fun z => (List.nodup_cons.mp nd).1 (z ▸ hbm)
  have M := S.moved ha hl hs tab (let ⟨_, e⟩ := hl'; ⟨_, e⟩)
  have key : ∀ {l : Nat} {rs : List PV}, get (Mine.put ρ i (.own2 (xss.set j ys))) l = .own rs → get ρ l = .own rs := fun {l rs} hl => by
    rw [get_put] at hl
    split at hl
    · cases hl
    · exact hl
  have key2 : ∀ {l : Nat} {rs : List (List Int)}, get (Mine.put ρ i (.own2 (xss.set j ys))) l = .own2 rs → ∃ rs', get ρ l = .own2 rs' := fun {l rs} hl => by
    rw [get_put] at hl
    split at hl
    · rename_i q; exact ⟨xss, q ▸ hi⟩
    · exact ⟨rs, hl⟩
  refine { xc := { act := M.act, dep := S.xc.dep, unt := S.xc.unt, en := M.en, vars := ?_, alloc := M.al, own0 := S.xc.own0 }, own1 := fun y l zs u h1 h2 h3 => S.own1 y l zs u h1 (key h2) (M.back h3), own2 := fun y z l k ps qs b h1 h2 h3 h4 h5 h6 => S.own2 y z l k ps qs b h1 h2 (key h3) (key h4) (M.back h5) (M.back h6), sub := S.sub, own3 := ⟨fun y z l k ps qs h1 h2 h3 h4 => let ⟨_, e3⟩ := key2 h3; let ⟨_, e4⟩ := key2 h4; S.own3.one y z l k _ _ h1 h2 e3 e4, fun y l zss u h1 h2 h3 => ?_⟩ }
  · intro l y kd h2 h3 h4 h1
    by_cases q : l = i
    · subst q
      have := varOf_inj h2 hv
      subst this
      rw [get_same]
      exact ⟨.ref a, M.slot sl, a, as, rfl, M.pl S.xc.act.tab hab pl, hr.set hl' hy (fun c ws z => M.pl S.xc.act.tab z) (List.nodup_cons.mp nd).2 hj⟩
    · rw [get_other q] at h1 ⊢
      obtain ⟨u, sl', r⟩ := S.xc.vars l y kd h2 h3 h4 h1
      refine ⟨u, M.slot sl', ?_⟩
      generalize hb : get ρ l = z at r
      cases z with
      | undef => trivial
      | val _ => exact Rep.keep M.kp r
      | own2 zss => exact absurd (S.own3.one y x l i _ _ h2 hv hb hi) q
      | own zs =>
        obtain ⟨a', ws, rfl, l, r⟩ := r
        exact ⟨a', ws, rfl, M.pl S.xc.act.tab (fun z => hno y _ zs h2 hb (z ▸ sl')) l, r.keep M.kp⟩
  · obtain ⟨zss', e2⟩ := key2 h2
    obtain ⟨c, cs, e1, p1, p2, p3⟩ := S.own3.at' y l zss' u h1 e2 (M.back h3)
    have hli := S.own3.one y x l i _ _ h1 hv e2 hi
    subst hli
    have := varOf_inj h1 hv
    subst this
    have := Slot.fun (M.back h3) sl
    subst this
    cases e1
    cases refs_inj pl p1
    refine ⟨a, as, rfl, M.pl S.xc.act.tab hab pl, nd, fun d hd => ?_⟩
    obtain ⟨d1, d2, d3, ⟨ws, d4⟩, d5⟩ := p3 d hd
    refine ⟨d1, d2, d3, ?_, fun y' l' ys' q1 q2 q3 => d5 y' l' ys' q1 (key q2) (M.back q3)⟩
    by_cases z : d = b
    · exact ⟨_, z ▸ hl'⟩
    · exact ⟨ws, M.pl S.xc.act.tab z d4⟩

/-- a list of the function's own given out of hand -/
theorem ST.freeze (S : ST Γ A e h₀ sc X₀ X ρ h) {x : Str} {i : Nat} {a : Addr} {xs : List PV} (hv : varOf Γ.nm x = some i) (hi : get ρ i = .own xs) (sl : Slot e x h (.ref a)) :
    ST Γ A e h₀ sc X₀ (X.filter fun b => !(b == a)) (Mine.put ρ i (.val (.lst xs))) h := by
  obtain ⟨a', ea, ha, ha0, hg⟩ := S.own1 x i xs _ hv hi sl
  cases ea
  have hsub : ∀ b ∈ X.filter fun b => !(b == a), b ∈ X := fun b q => (List.mem_filter.mp q).1
  have hin : ∀ b ∈ X, b ≠ a → b ∈ X.filter fun b => !(b == a) := fun b q z => List.mem_filter.mpr ⟨q, by simpa using z⟩
  have hna : a ∉ X.filter fun b => !(b == a) := fun q => by have := (List.mem_filter.mp q).2; simp at this
  refine { xc := { S.xc with vars := ?_, alloc := fun b q => S.xc.alloc b (hsub b q) }, own1 := fun y j zs u h1 h2 h3 => ?_, own2 := fun y z j k ps qs b h1 h2 h3 h4 h5 h6 => ?_, sub := fun b q => hin b (S.sub b q) fun z => ha0 (z ▸ q), own3 := S.own3.move (fun j _ q => (put_val_own2 (fun _ z => by cases z) q).2) (fun _ _ _ _ _ _ q3 => q3) (fun y j zs b q1 q2 q3 => ?_) fun b ws q1 q2 _ q4 q5 => ⟨hin b q1 fun z => q5 x i xs hv hi (z ▸ sl), q2, q4⟩ }
  · intro j y kd' h2 h3 h4 h1
    by_cases q : j = i
    · subst q
      have := varOf_inj h2 hv
      subst this
      obtain ⟨u, sl', r⟩ := S.xc.vars j y kd' h2 h3 h4 (by rw [hi]; nofun)
      rw [hi] at r
      obtain ⟨a', vs, rfl, l, r⟩ := r
      rw [get_same]
      cases Slot.fun sl sl'
      exact ⟨.ref a, sl, a, vs, rfl, hna, l.isList, r.avoid fun b q => .inl (hsub b q)⟩
    · rw [get_other q] at h1 ⊢
      obtain ⟨u, sl', r⟩ := S.xc.vars j y kd' h2 h3 h4 h1
      exact ⟨u, sl', HoldsB.avoid (fun b q => .inl (hsub b q)) r⟩
  · rw [get_put] at h2
    split at h2
    · cases h2
    · rename_i q
      obtain ⟨b, rfl, e2, e3, e4⟩ := S.own1 y j zs u h1 h2 h3
      exact ⟨b, rfl, hin b e2 fun z => q (S.own2 y x j i zs xs a h1 hv h2 hi (z ▸ h3) sl), e3, e4⟩
  · rw [get_put] at h3 h4
    split at h3
    · cases h3
    · split at h4
      · cases h4
      · exact S.own2 y z j k ps qs b h1 h2 h3 h4 h5 h6
  · rw [get_put] at q2
    split at q2
    · cases q2
    · exact .inl ⟨zs, q2, q3⟩
end

end
end Mine
namespace Mine
section
open PySem.Calls
inductive Fl where
  | next | ret (v : PV)
noncomputable abbrev SS := PEnv → (Fl → PEnv → Prop) → Prop
/-- the tables, the frame, its cells and its own lists aside, all stays -/
noncomputable def Chg (C : Cx) (e : Env) (X₀ X : List Addr) (h h' : Heap) : Prop := ∀ b o, b ∉ C.Ps → b ≠ e.locals → (∀ x c, e.cells.lookup x = some c → b ≠ c) → (b ∉ X ∨ b ∈ X₀) → h.get? b = some o → ∃ sl, h'.get? b = some { o with slots := sl } ∧ (NoD o → sl = o.slots)
section
variable {Γ : Fx} {C : Cx} {h₀ : Heap} {A : Around} {sc : Scope} {e : Env} {ρ : PEnv} {X₀ X X' : List Addr} {h h' h'' : Heap}
theorem Chg.at (c : Chg C e X₀ X h h') {b : Addr} {o : Obj} (p : b ∉ C.Ps) (q : b ≠ e.locals) (r : ∀ x c, e.cells.lookup x = some c → b ≠ c) (w : b ∉ X ∨ b ∈ X₀) (eb : h.get? b = some o) (hc : NoD o) : h'.get? b = some o := by
  obtain ⟨sl, e1, e2⟩ := c b o p q r w eb
  rw [e2 hc] at e1; exact e1
theorem Chg.of_ext (k : Ext C.Ps h h') : Chg C e X₀ X h h' := fun b o p _ _ _ q => k b o p q
theorem Chg.trans (a : Chg C e X₀ X h h') (hX : ∀ a ∈ X', a ∈ X ∨ h.get? a = none) (b : Chg C e X₀ X' h' h'') : Chg C e X₀ X h h'' := fun c o p q r t u => by
  obtain ⟨sl, e1, e2⟩ := a c o p q r t u
  obtain ⟨sl2, e3, e4⟩ := b c _ p q r (t.elim (fun z => .inl fun z' => (hX c z').elim z fun w => by rw [w] at u; cases u) .inr) e1
  exact ⟨sl2, e3, fun hc => (e4 hc).trans (e2 hc)⟩
theorem al_ext (k : Ext C.Ps h h') (t : TabsOk C h') (a : Addr) (q : ∃ o, h.get? a = some o) : ∃ o, h'.get? a = some o := by
  by_cases hp : a ∈ C.Ps
  · obtain ⟨ps, e⟩ := t.obj hp; exact ⟨_, e⟩
  · exact k.some a hp q
theorem PutR.pre {x : Str} {v : Value} (en : EnvOk C sc e h) (t : TabsOk C h) (k : Ext C.Ps h h') (t' : TabsOk C h') (p : PutR C h₀ e x v h' h'') : PutR C h₀ e x v h h'' := by
  obtain ⟨a, ha, ha0, _, kk⟩ := p.ex
  refine { ex := ⟨a, ha, ha0, ?_, Ext.trans (fun b o hb eb => k b o (fun q => hb (.tail _ q)) eb) kk⟩, tab := p.tab, al := fun b q => p.al b (al_ext k t' b q), ns := p.ns, cell := p.cell, slot := p.slot, others := fun y u hy sl => p.others y u hy (sl.ext t k), back := fun y u hy sl => Slot.ext_back en t k (p.back y u hy sl) }
  rcases ha with rfl | ⟨y, hy⟩
  · obtain ⟨m, o, es, ep, e1, e2, _⟩ := en.loc
    exact ⟨o, e1, fun xs n q => by rw [e2] at q; cases q⟩
  · obtain ⟨w, o, e1, e2⟩ := en.cell y a hy
    exact ⟨o, e1, fun xs n q => by rw [e2] at q; cases q⟩
theorem PutR.post {x : Str} {v : Value} {cl : Addr} {m' : Str → Option Value} (p : PutR C h₀ e x v h h') (hc : h.get? cl = none) (hc0 : C.base.get? cl = none) (hn : h'.Ns cl m') (hs : Heap.SameBut cl h' h'') (hl : e.locals ≠ cl) (hcc : ∀ y c, e.cells.lookup y = some c → c ≠ cl) : PutR C h₀ e x v h h'' := by
  obtain ⟨a, ha, ha0, hdat, kk⟩ := p.ex
  have ob : ∀ b o, b ≠ cl → h'.get? b = some o → h''.get? b = some o := fun b o hb eb => hs.extBut b o hb eb
  have slot : ∀ {y : Str} {u : Value}, Slot e y h' u → Slot e y h'' u := fun q => by
    rcases q with ⟨k, m', ⟨o, es, ep, e1, e2⟩, em⟩ | ⟨k, cc, l, o, e1, e2⟩
    · exact .inl ⟨k, _, ⟨o, es, ep, ob _ _ hl e1, e2⟩, em⟩
    · exact .inr ⟨k, cc, l, o, ob _ _ (hcc _ _ l) e1, e2⟩
  obtain ⟨oc, hoc, hdc⟩ := Ns.data hn
  refine { ex := ⟨a, ha, ha0, hdat, fun b o hb eb => let ⟨sl, e1, e2⟩ := kk b o hb eb; ⟨sl, ob b _ (fun q => by rw [q, hc] at eb; cases eb) e1, e2⟩⟩, tab := p.tab.but ob hoc hdc hc0, al := fun b q => ?_, ns := ?_, cell := fun n c q => ?_, slot := slot p.slot, others := fun y u hy sl => slot (p.others y u hy sl), back := fun y u hy sl => p.back y u hy ?_ }
  · have z : b ≠ cl := fun z => by obtain ⟨o, eo⟩ := q; rw [z, hc] at eo; cases eo
    obtain ⟨o, eo⟩ := p.al b q; exact ⟨o, ob b o z eo⟩
  · obtain ⟨m, o, es, ep, e1, e2⟩ := p.ns; exact ⟨m, o, es, ep, ob _ _ hl e1, e2⟩
  · obtain ⟨w, o, e1, e2⟩ := p.cell n c q; exact ⟨w, o, ob _ _ (hcc _ _ q) e1, e2⟩
  · rcases sl with ⟨k, m', n1, em⟩ | ⟨k, cc, l, ic⟩
    · obtain ⟨m, o, es, ep, e1, e2⟩ := p.ns
      have : h''.Ns e.locals m := ⟨o, es, ep, ob _ _ hl e1, e2⟩
      cases Ns.fun n1 this
      exact .inl ⟨k, _, ⟨o, es, ep, e1, e2⟩, em⟩
    · obtain ⟨w, o, e1, e2⟩ := p.cell y cc l
      have : h''.IsCell cc w := ⟨o, ob _ _ (hcc _ _ l) e1, e2⟩
      cases Cell.fun ic this
      exact .inr ⟨k, cc, l, o, e1, e2⟩
theorem PutR.chg {x : Str} {v : Value} (p : PutR C h₀ e x v h h') : Chg C e X₀ X h h' := fun b o hp hl hc _ eb => by
  obtain ⟨a, ha, ha0, ⟨oa, hoa, hoa'⟩, k⟩ := p.ex
  refine k b o (fun q => (List.mem_cons.mp q).elim (fun q => ?_) hp) eb
  rcases ha with z | ⟨y, z⟩
  · exact hl (q.trans z)
  · exact hc y a z q
end
/-- how a statement ends -/
noncomputable def Ends (Γ : Fx) (A : Around) (sc : Scope) (e : Env) (h₀ : Heap) (X₀ X' : List Addr) : Fl → PEnv → Flow → Heap → Prop
  | .next, ρ', f, h' => f = .next ∧ ST Γ A e h₀ sc X₀ X' ρ' h'
  | .ret pv, _, f, h' => ∃ v, f = .ret v ∧ Rep h' X₀ pv v ∧ Act Γ.C A e h₀ h'
structure SPost (Γ : Fx) (A : Around) (sc : Scope) (e : Env) (h₀ : Heap) (X₀ X : List Addr) (st : Bool) (h : Heap) (fl : Fl) (ρ' : PEnv) (f : Flow) (h' : Heap) : Prop where
  ch : Chg Γ.C e X₀ X h h'
  al : ∀ a, (∃ o, h.get? a = some o) → ∃ o, h'.get? a = some o
  ends : ∃ X', (st = true → X' = X) ∧ (∀ a ∈ X', a ∈ X ∨ h.get? a = none) ∧ Ends Γ A sc e h₀ X₀ X' fl ρ' f h'
/-- a statement's meaning; st: it makes no list of the function's own, and gives none out of hand -/
noncomputable def GoodM (Γ : Fx) (sc : Scope) (st : Bool) (m : Env → Sem Flow) (S : SS) : Prop := ∀ ρ Q A e h₀ X₀ X h, S ρ Q → ST Γ A e h₀ sc X₀ X ρ h → WU Γ.C A (m e) h fun f h' => ∃ fl ρ', Q fl ρ' ∧ SPost Γ A sc e h₀ X₀ X st h fl ρ' f h'
/-- … or ends early, as Z has it -/
noncomputable def GoodZ (Γ : Fx) (sc : Scope) (Z : Flow → Heap → Prop) (st : Bool) (m : Env → Sem Flow) (S : SS) : Prop := ∀ ρ Q A e h₀ X₀ X h, S ρ Q → ST Γ A e h₀ sc X₀ X ρ h → WU Γ.C A (m e) h fun f h' => (∃ fl ρ', Q fl ρ' ∧ SPost Γ A sc e h₀ X₀ X st h fl ρ' f h') ∨ Z f h'
theorem GoodM.z {Γ : Fx} {sc : Scope} {Z : Flow → Heap → Prop} {st : Bool} {m : Env → Sem Flow} {S : SS} (g : GoodM Γ sc st m S) : GoodZ Γ sc Z st m S := fun ρ Q A e h₀ X₀ X h hq T => (g ρ Q A e h₀ X₀ X h hq T).imp fun _ _ => .inl
noncomputable abbrev GoodStm (Γ : Fx) (sc : Scope) (st : Bool) (s : Stmt) (S : SS) : Prop := GoodM Γ sc st (exec s) S
noncomputable abbrev GoodStms (Γ : Fx) (sc : Scope) (st : Bool) (ss : List Stmt) (S : SS) : Prop := GoodM Γ sc st (execs ss) S
section
variable {Γ : Fx} {h₀ : Heap} {A : Around} {sc : Scope} {e : Env} {ρ : PEnv} {X₀ X X' : List Addr} {h h' h'' : Heap} {st : Bool} {fl : Fl} {f : Flow}
theorem SPost.later {X'' : List Addr} {st' : Bool} (c : Chg Γ.C e X₀ X h h') (hX : ∀ a ∈ X'', a ∈ X ∨ h.get? a = none) (hb : ∀ a, (∃ o, h.get? a = some o) → ∃ o, h'.get? a = some o) (hst : st' = true → st = true ∧ X'' = X) (p : SPost Γ A sc e h₀ X₀ X'' st h' fl ρ f h'') : SPost Γ A sc e h₀ X₀ X st' h fl ρ f h'' :=
  let ⟨X', e1, e2, en⟩ := p.ends
  ⟨c.trans hX p.ch, fun a q => p.al a (hb a q), X', fun q => by rw [e1 (hst q).1, (hst q).2], fun a q => (e2 a q).elim (hX a) fun z => .inr (by
    cases w : h.get? a with
    | none => rfl
    | some o => obtain ⟨o', e⟩ := hb a ⟨o, w⟩; rw [z] at e; cases e), en⟩
theorem SPost.weak {st' : Bool} (p : SPost Γ A sc e h₀ X₀ X st h fl ρ f h') (k : st' = true → st = true) : SPost Γ A sc e h₀ X₀ X st' h fl ρ f h' := let ⟨X', e1, e2, en⟩ := p.ends; ⟨p.ch, p.al, X', fun q => e1 (k q), e2, en⟩
/-- expression valued first -/
theorem SPost.ext (k : Ext Γ.C.Ps h h') (t : TabsOk Γ.C h') (p : SPost Γ A sc e h₀ X₀ X st h' fl ρ f h'') : SPost Γ A sc e h₀ X₀ X st h fl ρ f h'' := p.later (.of_ext k) (fun _ => .inl) (al_ext k t) fun q => ⟨q, rfl⟩
theorem ST.congr {ρ' : PEnv} (S : ST Γ A e h₀ sc X₀ X ρ h) (k : ∀ i, get ρ' i = get ρ i) : ST Γ A e h₀ sc X₀ X ρ' h :=
  { S with
    xc := { S.xc with vars := fun i x kd h1 h2 h3 h4 => by rw [k] at h4 ⊢; exact S.xc.vars i x kd h1 h2 h3 h4 }
    own1 := fun x i xs v h1 h2 h3 => S.own1 x i xs v h1 (by rw [← k]; exact h2) h3
    own2 := fun x y i j xs ys a h1 h2 h3 h4 h5 h6 => S.own2 x y i j xs ys a h1 h2 (by rw [← k]; exact h3) (by rw [← k]; exact h4) h5 h6
    own3 := S.own3.move (fun i _ q => (k i).symm.trans q) (fun _ _ _ _ _ _ q => q) (fun _ j ys _ _ q q' => .inl ⟨ys, (k j).symm.trans q, q'⟩) fun _ _ q1 q2 _ q4 _ => ⟨q1, q2, q4⟩ }
/-- a name set to what an expression gave -/
theorem post_putV (S : ST Γ A e h₀ sc X₀ X ρ h) {x : Str} {i : Nat} {v : Value} {pv : PV} (r : Rep h' X pv v) (hv : varOf Γ.nm x = some i) (p : PutR Γ.C h₀ e x v h h') : SPost Γ A sc e h₀ X₀ X true h .next (put ρ i (.val pv)) .next h' :=
  ⟨p.chg, p.al, X, fun _ => rfl, fun _ => .inl, rfl, S.putV p hv r⟩
theorem post_putO (S : ST Γ A e h₀ sc X₀ X ρ h) {x : Str} {i : Nat} {v : Value} {xs : List PV} (r : Rep h' X (.lst xs) v) (hn : New h v h') (hp : plainL xs = true) (hv : varOf Γ.nm x = some i) (p : PutR Γ.C h₀ e x v h h') : SPost Γ A sc e h₀ X₀ X false h .next (put ρ i (.own xs)) .next h' := by
  have r0 := r
  obtain ⟨d, vs, rfl, _, l, _⟩ := r0
  exact ⟨p.chg, p.al, d :: X, nofun, fun a q => (List.mem_cons.mp q).elim (fun z => .inr (z ▸ (hn d rfl).1)) .inl, rfl, S.putO p hv r hp (hn d rfl).1 hn⟩
theorem New.later {v : Value} {h1 h2 : Heap} {xs : List PV} (r : Rep h1 X (.lst xs) v) (n : New h v h1) (k : Kp [] h1 h2) : New h v h2 := by
  obtain ⟨d, vs, rfl, _, l, _⟩ := r
  obtain ⟨j, ho⟩ := n.plain l
  intro a e
  cases e
  exact ⟨(n d rfl).1, _, k d _ (fun q => nomatch q) ⟨.inl rfl, _, j, rfl⟩ ho, rfl, rfl⟩
end
/-- an expression, assigned to a name -/
noncomputable def GoodA (Γ : Fx) (sc : Scope) (ex : PySem.Expr) (nw : Bool) (v : PEnv → PV) (k : PEnv → Prop) : Prop := ∀ x p pos i ρ A e h₀ X₀ X h (Q : Flow → Heap → Prop), k ρ → ST Γ A e h₀ sc X₀ X ρ h → IsTgt Γ sc x i →
  (∀ u h2, PutR Γ.C h₀ e x u h h2 → Rep h2 X (v ρ) u → (∀ xs, v ρ = .lst xs → nw = true → New h u h2) → Q .next h2) → WU Γ.C A (exec (.Assign [.Name x p] ex pos) e) h Q
section
variable {Γ : Fx} {sc : Scope} {ex : PySem.Expr} {nw : Bool} {v : PEnv → PV} {k : PEnv → Prop}
theorem a_val (hs : ∀ x p l env, swapsWith ex (some (.Name x p)) l env = pure false) (ha : Good Γ sc ex nw v k) : GoodA Γ sc ex nw v k := fun x p pos i ρ A e h₀ X₀ X h Q hk S ht hQ s tk => by
  have c := S.xc
  refine wpAny_Assign_Name ((ha ρ A e h₀ e X h hk c).go fun u h1 tk1 k1 t1 r => (put_ok (c.step k1 t1) ht).go fun _ h2 tk2 p => ⟨h2, tk2, rfl, ?_⟩) (hs ..)
  refine hQ u h2 (p.pre c.en c.act.tab k1 t1) (r.1.keep (p.kp t1 X)) fun xs e1 e2 => ?_
  rw [e1] at r
  exact New.later r.1 (r.2 e2) (p.kp t1 [])
/-- a comprehension, assigned to a name -/
theorem a_compZ {z : Heap → List PV → List Value → Heap → Prop} (zk : ZOk z) {elt target iter : PySem.Expr} {ifs : List PySem.Expr} {gs : List Comprehension} {scope : Scope} {cpos : Pos} {t : Tgt} {ids : List Nat} {fs f : PEnv → List PV} {c : PEnv → Bool} {ka kb kc : PEnv → Prop} (O : CompOkZ z Γ sc scope elt target iter ifs gs t ids fs f c ka kb kc) {x : Str} {p pos : Pos} {i : Nat} {ρ : PEnv} {A : Around} {e : Env} {h₀ : Heap} {X₀ X : List Addr} {h : Heap} {Q : Flow → Heap → Prop} (hk : compK Γ.nm scope t ids c fs f ka kb kc ρ) (S : ST Γ A e h₀ sc X₀ X ρ h) (ht : IsTgt Γ sc x i)
    (hQ : ∀ (dl : Addr) (vs : List Value) h2, h.get? dl = none → PutR Γ.C h₀ e x (.ref dl) h h2 → h2.PlainList dl vs.toArray → RepL h2 X (compV Γ.nm scope t ids c fs f ρ) vs → z h (compV Γ.nm scope t ids c fs f ρ) vs h2 → Q .next h2) : WU Γ.C A (exec (.Assign [.Name x p] (.ListComp elt (⟨target, iter, ifs, 0⟩ :: gs) scope cpos) pos) e) h Q := fun s tk => by
  have hsw : swapsWith (.ListComp elt (⟨target, iter, ifs, 0⟩ :: gs) scope cpos) (some (.Name x p)) pos.line e = pure (e.blockKind == .function && e.kindOf x == some .local && p.line == (Expr.ListComp elt (⟨target, iter, ifs, 0⟩ :: gs) scope cpos).pos.line && !(scope.names.any fun (n, k) => n == x && (k == .local || k == .cell))) := rfl
  cases hb : (e.blockKind == .function && e.kindOf x == some .local && p.line == (Expr.ListComp elt (⟨target, iter, ifs, 0⟩ :: gs) scope cpos).pos.line && !(scope.names.any fun (n, k) => n == x && (k == .local || k == .cell))) with
  | false =>
    rw [hb] at hsw
    have c := S.xc
    refine wpAny_Assign_Name ((g_compZ zk O hk c).go fun u h1 tk1 k1 t1 r => (put_ok (c.step k1 t1) ht).go fun _ h2 tk2 p => ⟨h2, tk2, rfl, ?_⟩) hsw
    obtain ⟨dl, vs, rfl, f1, l, r, hz⟩ := r
    exact hQ dl vs h2 f1 (p.pre c.en c.act.tab k1 t1) (plain_kp (p.kp t1 []) l) (r.keep (p.kp t1 X)) (zk.mv _ _ _ _ _ _ r (p.kp t1 X) hz)
  | true =>
    rw [hb] at hsw
    have c := S.xc
    rw [exec_Assign_Name_used _ _ _ _ hsw]
    refine wpAny_bind (wpAny_standAt (wpAny_bind ?_))
    show wpAny _ A (do let _ ← comprehension (.ListComp elt (⟨target, iter, ifs, 0⟩ :: gs) scope cpos) scope e _ (newList []) false (eval iter e) (some (assign (.Name x p) e))) _ _ _
    refine wpAny_bind (wpAny_mono (comp_core (Q := fun _ s' => ∃ h2 tk2, s' = Sh s h2 tk2 ∧ Q .next h2) (use := some (assign (.Name x p) e)) zk O hk c fun dl Cl h' tk' vs m' f1 f2 hne k1 t1 nsm hl hr hz => ?_) (fun _ s' hq => wpAny_pure (wpAny_pure hq)) fun _ _ f => f.elim)
    show wpAny Γ.C.M A (assign (.Name x p) e (.ref dl)) (fun _ s'' => ∃ m, s''.heap.Ns Cl m ∧ ∀ h', Heap.SameBut Cl s''.heap h' → ∃ h2 tk2, { s'' with heap := h' } = Sh s h2 tk2 ∧ Q .next h2) never _
    refine wpAny_assign_Name ((put_ok (c.step k1 t1) ht).go fun _ h2 tk2 p => ?_)
    have hLC : e.locals ≠ Cl := fun q => by
      obtain ⟨m, o, es, ep, z, _⟩ := c.en.loc
      rw [q, f2] at z; cases z
    have hCC : ∀ y cc, e.cells.lookup y = some cc → cc ≠ Cl := fun y cc l q => by
      obtain ⟨w, o, z, _⟩ := c.en.cell y cc l
      rw [q, f2] at z; cases z
    have hm2 : h2.Ns Cl m' := by
      obtain ⟨a, ha, ha0, ⟨oa, hoa, hoa'⟩, kk⟩ := p.ex
      have nsm' := nsm
      obtain ⟨o, es, ep, z1, z2⟩ := nsm'
      refine kk.ns (fun q => (List.mem_cons.mp q).elim (fun q => ?_) (t1.notPd z1 fun vs q => by rw [z2.1] at q; cases q)) nsm
      rcases ha with w | ⟨y, w⟩
      · exact hLC (w ▸ q.symm)
      · exact hCC y a w q.symm
    refine ⟨m', hm2, fun h3 hs3 => ⟨h3, tk2, rfl, ?_⟩⟩
    obtain ⟨j, hj⟩ := hl
    have hj3 : h3.get? dl = some _ := hs3.extBut _ _ hne (p.kp t1 [] dl _ (fun q => nomatch q) ⟨.inl rfl, _, j, rfl⟩ hj)
    have kp3 := (p.kp t1 X).trans (ns_off hm2 hs3 X)
    exact hQ dl vs h3 f1 ((p.pre c.en c.act.tab k1 t1).post f2 (none_base c.act.tab f2) hm2 hs3 hLC hCC) ⟨j, hj3⟩ (hr.keep kp3) (zk.mv _ _ _ _ _ _ hr kp3 hz)
theorem a_comp {elt target iter : PySem.Expr} {ifs : List PySem.Expr} {gs : List Comprehension} {scope : Scope} {cpos : Pos} {t : Tgt} {ids : List Nat} {fs f : PEnv → List PV} {c : PEnv → Bool} {ka kb kc : PEnv → Prop} (O : CompOk Γ sc scope elt target iter ifs gs t ids fs f c ka kb kc) :
    GoodA Γ sc (.ListComp elt (⟨target, iter, ifs, 0⟩ :: gs) scope cpos) true (fun ρ => .lst (compV Γ.nm scope t ids c fs f ρ)) (compK Γ.nm scope t ids c fs f ka kb kc) := fun x p pos i ρ A e h₀ X₀ X h Q hk S ht hQ =>
  a_compZ zT_ok O hk S ht fun dl vs h2 f1 pr l r _ => hQ (.ref dl) h2 pr ⟨dl, vs, rfl, fun q => (by obtain ⟨o, e⟩ := S.xc.alloc dl q; rw [f1] at e; cases e), l.isList, r⟩ fun _ _ _ a e => by cases e; exact ⟨f1, let ⟨n, e⟩ := l; ⟨_, e, rfl, rfl⟩⟩
end

end
end Mine
namespace Mine
section
open PySem.Calls
set_option backward.match.sparseCases false
noncomputable def onNext (K : PEnv → Prop) (Q : Fl → PEnv → Prop) : Fl → PEnv → Prop
  | .next, ρ => K ρ
  | .ret x, ρ => Q (.ret x) ρ
noncomputable def sNil : SS := fun ρ Q => Q .next ρ
noncomputable def sSeq (S U : SS) : SS := fun ρ Q => S ρ (onNext (fun ρ => U ρ Q) Q)
noncomputable def sSet (i : Nat) (v : PEnv → PV) (k : PEnv → Prop) : SS := fun ρ Q => k ρ ∧ Q .next (put ρ i (.val (v ρ)))
noncomputable def sOwn (i : Nat) (v : PEnv → PV) (k : PEnv → Prop) : SS := fun ρ Q => k ρ ∧ isL (v ρ) ∧ plainL (asL (v ρ)) = true ∧ Q .next (put ρ i (.own (asL (v ρ))))
noncomputable def sAug (i : Nat) (op : Operator) (v : PEnv → PV) (k : PEnv → Prop) : SS := fun ρ Q => isV (get ρ i) ∧ isI (valB (get ρ i)) ∧ k ρ ∧ isI (v ρ) ∧ intOp op (asI (valB (get ρ i))) (asI (v ρ)) = some (iop op (asI (valB (get ρ i))) (asI (v ρ))) ∧ Q .next (put ρ i (.val (.int (iop op (asI (valB (get ρ i))) (asI (v ρ))))))
noncomputable def sRet (v : PEnv → PV) (k : PEnv → Prop) : SS := fun ρ Q => k ρ ∧ Q (.ret (v ρ)) ρ
noncomputable def sIf (t : PEnv → Bool) (k : PEnv → Prop) (S U : SS) : SS := fun ρ Q => k ρ ∧ (if t ρ then S ρ Q else U ρ Q)
noncomputable def wh (t : PEnv → Bool) (k : PEnv → Prop) (S : SS) : Nat → SS
  | 0, _, _ => False
  | n + 1, ρ, Q => k ρ ∧ (if t ρ then S ρ (onNext (fun ρ => wh t k S n ρ Q) Q) else Q .next ρ)
noncomputable def sWhile (t : PEnv → Bool) (k : PEnv → Prop) (S : SS) : SS := fun ρ Q => ∃ n, wh t k S n ρ Q
noncomputable def ownL : Bind → List PV
  | .own xs => xs
  | _ => []
noncomputable def isO : Bind → Prop
  | .own _ => True
  | _ => False
theorem isO.eq {b : Bind} (h : isO b) : b = .own (ownL b) := by cases b <;> first | rfl | cases h
noncomputable def sApp (i : Nat) (v : PEnv → PV) (k : PEnv → Prop) : SS := fun ρ Q => isO (get ρ i) ∧ k ρ ∧ (ownL (get ρ i)).length < 16777216 ∧ Q .next (put ρ i (.own (ownL (get ρ i) ++ [v ρ])))
noncomputable def sRev (i : Nat) : SS := fun ρ Q => isO (get ρ i) ∧ (ownL (get ρ i)).length ≤ 16777216 ∧ Q .next (put ρ i (.val (.lst (ownL (get ρ i)).reverse)))
noncomputable def okF (post : Flow → Shared → Prop) (err : Value → Shared → Prop) : Result → Shared → Prop
  | .ok f, s' => post f s'
  | .error x, s' => err x s'
section
variable {Γ : Fx} {h₀ : Heap} {A : Around} {sc : Scope} {e : Env} {ρ : PEnv} {X₀ X X' : List Addr} {h h' h'' : Heap} {st st' : Bool} {v : PEnv → PV} {k : PEnv → Prop} {S U : SS} {l : PySem.Expr} {nw : Bool} {i : Nat} {x : Str} {p pos : Pos}
/-- an outcome, and what holds of it -/
noncomputable def Out (Γ : Fx) (A : Around) (sc : Scope) (e : Env) (h₀ : Heap) (X₀ X : List Addr) (st : Bool) (h : Heap) (Q : Fl → PEnv → Prop) (f : Flow) (h' : Heap) : Prop := ∃ fl ρ', Q fl ρ' ∧ SPost Γ A sc e h₀ X₀ X st h fl ρ' f h'
theorem m_nil : GoodStms Γ sc st [] sNil := fun ρ Q A e h₀ X₀ X h hq S s tk => wpAny_execs_nil ⟨h, tk, rfl, .next, ρ, hq, .of_ext (.refl _ _), fun _ q => q, X, fun _ => rfl, fun _ => .inl, rfl, S⟩
theorem m_cons {a : Stmt} {as : List Stmt} (ha : GoodStm Γ sc st a S) (hb : GoodStms Γ sc st' as U) : GoodStms Γ sc (st && st') (a :: as) (sSeq S U) := fun ρ Q A e h₀ X₀ X h hq T s tk =>
  wpAny_execs_cons ((ha ρ _ A e h₀ X₀ X h hq T).go fun f h1 tk1 ⟨fl, ρ1, q, P⟩ => by
    obtain ⟨X', x1, x2, en⟩ := P.ends
    have hs : (st && st') = true → st = true ∧ st' = true := fun z => (Bool.and_eq_true _ _) ▸ z
    cases fl with
    | next =>
      obtain ⟨rfl, T1⟩ := en
      exact (hb ρ1 Q A e h₀ X₀ X' h1 q T1).go fun f2 h2 tk2 ⟨fl2, ρ2, q2, P2⟩ => ⟨h2, tk2, rfl, fl2, ρ2, q2, P2.later P.ch x2 P.al fun z => ⟨(hs z).2, x1 (hs z).1⟩⟩
    | ret pv =>
      obtain ⟨u, rfl, r, act⟩ := en
      exact ⟨h1, tk1, rfl, .ret pv, ρ1, q, P.ch, P.al, X', fun z => x1 (hs z).1, x2, u, rfl, r, act⟩)
theorem m_set (ht : IsTgt Γ sc x i) (ha : GoodA Γ sc l nw v k) : GoodStm Γ sc true (.Assign [.Name x p] l pos) (sSet i v k) := fun ρ Q A e h₀ X₀ X h hq T =>
  ha x p pos i ρ A e h₀ X₀ X h _ hq.1 T ht fun u h2 pr r _ => ⟨.next, _, hq.2, post_putV T r ht.i pr⟩
theorem m_own (ht : IsTgt Γ sc x i) (ha : GoodA Γ sc l true v k) : GoodStm Γ sc false (.Assign [.Name x p] l pos) (sOwn i v k) := fun ρ Q A e h₀ X₀ X h hq T =>
  ha x p pos i ρ A e h₀ X₀ X h _ hq.1 T ht fun u h2 pr r n => ⟨.next, _, hq.2.2.2, post_putO T (by rw [hq.2.1.eq] at r; exact r) (n _ hq.2.1.eq rfl) hq.2.2.1 ht.i pr⟩
theorem m_ret (ha : Good Γ sc l nw v k) : GoodStm Γ sc true (.Return (some l) pos) (sRet v k) := fun ρ Q A e h₀ X₀ X h hq T s tk =>
  wpAny_Return_some ((ha ρ A e h₀ e X h hq.1 T.xc).go fun u h1 tk1 k1 t1 r => ⟨h1, tk1, rfl, _, ρ, hq.2, .of_ext k1, al_ext k1 t1, X, fun _ => rfl, fun _ => .inl, u, rfl, r.1.sub T.sub, T.xc.act.step k1 t1⟩)
theorem m_ret0 : GoodStm Γ sc true (.Return none pos) (fun ρ Q => Q (.ret .none) ρ) := fun ρ Q A e h₀ X₀ X h hq T s tk => by
  rw [arm_exec_Return]
  exact wpAny_bind (wpAny_standAt (wpAny_pure ⟨h, tk, rfl, _, ρ, hq, .of_ext (.refl _ _), fun _ q => q, X, fun _ => rfl, fun _ => .inl, _, rfl, rfl, T.xc.act⟩))
theorem m_stuck {a : Stmt} : GoodStm Γ sc true a (fun _ _ => False) := fun _ _ _ _ _ _ _ _ hq => hq.elim
theorem m_if {t : PEnv → Bool} {a b : List Stmt} (ht : GoodT Γ sc l t k) (ha : GoodStms Γ sc st a S) (hb : GoodStms Γ sc st' b U) : GoodStm Γ sc (st && st') (.If l a b pos) (sIf t k S U) := fun ρ Q A e h₀ X₀ X h hq T s tk =>
  wpAny_If ((ht ρ A e h₀ e X h hq.1 T.xc).go fun c h1 tk1 k1 t1 r => by
    have q := hq.2
    rw [← (show c = t ρ from r)] at q
    cases c with
    | true => exact (ha ρ Q A e h₀ X₀ X h1 q (T.step k1 t1)).go fun f h2 tk2 ⟨fl, ρ2, q2, P⟩ => ⟨h2, tk2, rfl, fl, ρ2, q2, (P.weak fun z => ((Bool.and_eq_true _ _) ▸ z : _ ∧ _).1).ext k1 t1⟩
    | false => exact (hb ρ Q A e h₀ X₀ X h1 q (T.step k1 t1)).go fun f h2 tk2 ⟨fl, ρ2, q2, P⟩ => ⟨h2, tk2, rfl, fl, ρ2, q2, (P.weak fun z => ((Bool.and_eq_true _ _) ▸ z : _ ∧ _).2).ext k1 t1⟩)
theorem m_while {t : PEnv → Bool} {a : List Stmt} (ht : GoodT Γ sc l t k) (ha : GoodStms Γ sc st a S) : GoodStm Γ sc st (.While l a [] pos) (sWhile t k S) := by
  have key : ∀ n ρ Q A e h₀ X₀ X h s tk (err : Value → Shared → Prop), wh t k S n ρ Q → ST Γ A e h₀ sc X₀ X ρ h → codeAny Γ.C.M A (.whileLoop l a [] e) (okF (fun f s' => ∃ h' tk', s' = Sh s h' tk' ∧ Out Γ A sc e h₀ X₀ X st h Q f h') err) (Sh s h tk) := fun n => by
    induction n with
    | zero => intro ρ Q A e h₀ X₀ X h s tk err hq; exact hq.elim
    | succ n ih =>
      intro ρ Q A e h₀ X₀ X h s tk err hq T
      refine codeAny_of_tree ?_
      show wpAny _ A ((whileTurn l a [] e).onRaise (fun x => do noteFrame x e; theTreesLotGoes x)) _ _ _
      refine wpAny_noted ?_
      unfold whileTurn
      refine wpAny_bind ((ht ρ A e h₀ e X h hq.1 T.xc).go fun c h1 tk1 k1 t1 r => ?_)
      have q := hq.2
      rw [← (show c = t ρ from r)] at q
      have T1 := T.step k1 t1
      cases c with
      | false => exact wpAny_bind (wpAny_execs_nil (wpAny_pure ⟨h1, tk1, rfl, .next, ρ, q, .of_ext k1, al_ext k1 t1, X, fun _ => rfl, fun _ => .inl, rfl, T1⟩))
      | true =>
        refine wpAny_bind ((ha ρ _ A e h₀ X₀ X h1 q T1).go fun f h2 tk2 ⟨fl, ρ2, q2, P⟩ => ?_)
        have P := P.ext k1 t1
        obtain ⟨X', x1, x2, en⟩ := P.ends
        cases fl with
        | next =>
          obtain ⟨rfl, T2⟩ := en
          refine wpAny_pure ⟨rfl, codeAny_mono (ih ρ2 Q A e h₀ X₀ X' h2 s tk2 err q2 T2) fun rr s' y => ?_⟩
          cases rr with
          | ok f =>
            obtain ⟨h3, tk3, rfl, fl3, ρ3, q3, P3⟩ := y
            exact ⟨h3, tk3, rfl, fl3, ρ3, q3, P3.later P.ch x2 P.al fun z => ⟨z, x1 z⟩⟩
          | error x => exact y
        | ret pv =>
          obtain ⟨u, rfl, rv, act⟩ := en
          exact wpAny_pure ⟨h2, tk2, rfl, .ret pv, ρ2, q2, P.ch, P.al, X', x1, x2, u, rfl, rv, act⟩
  intro ρ Q A e h₀ X₀ X h ⟨n, hq⟩ T s tk
  refine wpAny_While (codeAny_mono (key n ρ Q A e h₀ X₀ X h s tk (cameBackBy Γ.C.M A e never) hq T) fun rr s' y => ?_)
  cases rr with
  | ok f => exact y
  | error x => exact y
theorem IsTgt.var (ht : IsTgt Γ sc x i) : IsVar Γ sc x i := ⟨ht.ok, let ⟨k, h1, h2⟩ := ht.k; ⟨k, h1, by rcases h2 with rfl | rfl <;> rfl⟩, ht.i⟩
theorem load_ok {e₀ : Env} (c : XC Γ A e₀ h₀ sc e ρ X h) (ht : IsTgt Γ sc x i) (hb : get ρ i ≠ .undef) {s : Shared} {tk : Nat} {Q : Value → Shared → Prop} (q : ∀ v, Slot e x h v → HoldsB X h (get ρ i) v → Q v (Sh s h tk)) : wpAny Γ.C.M A (loadName e x) Q never (Sh s h tk) := by
  obtain ⟨kd, hk, hv⟩ := ht.var.k
  obtain ⟨v, sl, r⟩ := c.vars i x kd ht.i hk hv hb
  have hq := q v sl r
  rcases sl with ⟨a, m, n, em⟩ | ⟨a | a, cc, l, n⟩
  · exact wpAny_loadName_local c.en.kind a n em hq
  · exact wpAny_loadName_cell c.en.kind a l n hq
  · exact wpAny_loadName_free c.en.kind a l n hq (okName_ok ht.ok).2
theorem m_aug {op : Operator} (ht : IsTgt Γ sc x i) (ha : Good Γ sc l nw v k) : GoodStm Γ sc true (.AugAssign (.Name x p) op l pos) (sAug i op v k) := fun ρ Q A e h₀ X₀ X h hq T s tk => by
  refine wpAny_AugAssign_Name (load_ok T.xc ht hq.1.def fun u sl r => ?_)
  rw [hq.1.eq, hq.2.1.eq] at r
  obtain ⟨t, rfl⟩ := r
  refine (ha ρ A e h₀ e X h hq.2.2.1 T.xc).go fun u h1 tk1 k1 t1 r => ?_
  have r := r.1
  rw [hq.2.2.2.1.eq] at r
  obtain ⟨t', rfl⟩ := r
  refine wpAny_mono (intOp_ip (X := X) (s := Sh s h1 tk1) hq.2.2.2.2.1) (fun u s2 y => ?_) fun _ _ f => f.elim
  obtain ⟨h2, tk2, rfl, k2, r2, _⟩ := y
  have k12 : Ext Γ.C.Ps h h2 := k1.trans (.of_keep k2)
  have t2 := t1.keeps k2
  exact (put_ok (T.xc.step k12 t2) ht).go fun _ h3 tk3 pr => ⟨h3, tk3, rfl, .next, _, hq.2.2.2.2.2, post_putV T (r2.keep (pr.kp t2 X)) ht.i (pr.pre T.xc.en T.xc.act.tab k12 t2)⟩
/-- an own list changed -/
theorem post_mut (T : ST Γ A e h₀ sc X₀ X ρ h) {a : Addr} {xs ys : List PV} {vs vs' : List Value} {h1 h2 : Heap} (k : Ext Γ.C.Ps h h1) (t : TabsOk Γ.C h1) (hv : varOf Γ.nm x = some i) (hi : get ρ i = .own xs) (sl : Slot e x h (.ref a)) (hl : h1.IsList a vs.toArray)
    (hs : Ext (a :: Γ.C.Ps) h1 h2 ∧ TabsOk Γ.C h2) (hl' : h2.PlainList a vs'.toArray) (hr : RepL h1 X ys vs') : SPost Γ A sc e h₀ X₀ X true h .next (put ρ i (.own ys)) .next h2 := by
  refine ⟨fun b o p q r z eb => (let ⟨_, e1, e2⟩ := k b o p eb; let ⟨sl2, e3, e4⟩ := hs.1 b _ (fun w => (List.mem_cons.mp w).elim (fun w => ?_) p) e1; ⟨sl2, e3, fun hc => (e4 hc).trans (e2 hc)⟩), fun b q => ?_, X, fun _ => rfl, fun _ => .inl, rfl, (T.step k t).mut hv hi (sl.ext T.xc.act.tab k) hl hs.1 hs.2 hl' hr⟩
  · obtain ⟨a', e', ha, hna, _⟩ := T.own1 x i xs _ hv hi sl
    cases e'
    rcases z with z | z
    · exact z (w ▸ ha)
    · exact hna (w ▸ z)
  · by_cases z : b ∈ a :: Γ.C.Ps
    · rcases List.mem_cons.mp z with z | z
      · obtain ⟨j, ho⟩ := hl'; exact ⟨_, z ▸ ho⟩
      · obtain ⟨ps, e⟩ := hs.2.obj z; exact ⟨_, e⟩
    · exact hs.1.some b z (al_ext k t b q)
theorem notInter {e₀ : Env} (c : XC Γ A e₀ h₀ sc e ρ X h) : interactive e = false := by
  unfold interactive
  rw [c.en.kind]; rfl
theorem isO.def {b : Bind} (h : isO b) : b ≠ .undef := fun q => by rw [q] at h; cases h
theorem m_app {xp ap p : Pos} (hl : (ap.endLine == p.line) = true) (ht : IsTgt Γ sc x i) (hns : noStar l) (ha : Good Γ sc l nw v k) : GoodStm Γ sc true (.Expr (.Call (.Attribute (.Name x xp) (Str.ofString "append") ap) [l] [] p) pos) (sApp i v k) := fun ρ Q A e h₀ X₀ X h hq T s tk => by
  have c := T.xc
  refine wpAny_Expr_any (wpAny_Call_method (T := "list") (id := "list.append") rfl (by rw [starEach_cons hns]; rfl) hl PySem.F.plainAttrs_list slot_list_append type_list_append ?_) (notInter c)
  obtain ⟨kd, hk, hv⟩ := ht.var.k
  obtain ⟨u, sl, r⟩ := c.vars i x kd ht.i hk hv hq.1.def
  rw [hq.1.eq] at r
  obtain ⟨a, vs, rfl, pl, hr⟩ := r
  obtain ⟨d1, d2⟩ := okName_ok ht.ok
  refine sl.name c.en.kind ⟨pl.isList.typeIs, fun b eb => (by cases eb; obtain ⟨j, ho⟩ := pl; exact ⟨_, ho, rfl⟩), ?_⟩ d1 d2
  rw [starEach_cons hns]
  refine Calls.callWith_builtin rfl (Calls.evalArgs_plain (Calls.spliced_cons ((ha ρ A e h₀ e X h hq.2.1 c).go fun w h1 tk1 k1 t1 r1 => Calls.spliced_nil ?_)))
  have pl1 : h1.PlainList a vs.toArray := by exact list_keptE pl k1 (c.act.tab.notP pl.choose_spec (by nofun))
  have hr1 := hr.ext c.act.tab k1
  refine wpAny_list_append_plain (s := Sh s h1 tk1) pl1 (fun h2 pl2 hs2 => ?_) (by rw [List.size_toArray, hr.length]; exact Nat.le_of_lt hq.2.2.1)
  exact ⟨h2, tk1, rfl, .next, _, hq.2.2.2, post_mut T k1 t1 ht.i hq.1.eq sl pl1.isList (same_ext t1 pl1.isList hs2 (c.act.h0 ▸ T.own0 ht.i hq.1.eq sl)) (by simpa using pl2) (hr1.snoc r1.1)⟩
theorem mapSeq_rev (its : Array Value) (n : Nat) : ∃ n', Obj.mapSeq (fun x => x.reverse) { cls := .type "list", data := .seq its n } = { cls := .type "list", data := .seq its.reverse n' } := ⟨_, rfl⟩
theorem m_rev {xp ap p : Pos} (hl : (ap.endLine == p.line) = true) (ht : IsTgt Γ sc x i) : GoodStm Γ sc false (.Expr (.Call (.Attribute (.Name x xp) (Str.ofString "reverse") ap) [] [] p) pos) (sRev i) := fun ρ Q A e h₀ X₀ X h hq T s tk => by
  have c := T.xc
  refine wpAny_Expr_any (wpAny_Call_method (T := "list") (id := "list.reverse") rfl rfl hl PySem.F.plainAttrs_list PySem.F.slot_list_reverse PySem.F.type_list_reverse ?_) (notInter c)
  obtain ⟨kd, hk, hv⟩ := ht.var.k
  obtain ⟨u, sl, r⟩ := c.vars i x kd ht.i hk hv hq.1.def
  rw [hq.1.eq] at r
  obtain ⟨a, vs, rfl, pl, hr⟩ := r
  obtain ⟨d1, d2⟩ := okName_ok ht.ok
  obtain ⟨j, ho⟩ := id pl
  refine sl.name c.en.kind ⟨pl.isList.typeIs, fun b eb => (by cases eb; exact ⟨_, ho, rfl⟩), ?_⟩ d1 d2
  refine Calls.callWith_builtin rfl (evalArgs_nil3 ?_)
  have hs2 : Heap.SameBut a h (h.update a (Obj.mapSeq fun x => x.reverse)) := Heap.SameBut.update ..
  have pl2 : (h.update a (Obj.mapSeq fun x => x.reverse)).PlainList a vs.reverse.toArray := by
    obtain ⟨j', e'⟩ := mapSeq_rev vs.toArray j
    refine ⟨j', (Heap.get?_update_self _ ho rfl).trans ?_⟩
    rw [e']; simp
  refine call_meets PySem.F.slot_list_reverse ⟨_, ho, rfl⟩ PySem.F.entry_list_reverse (PySem.F.args_list_reverse_1 _) (PySem.AutoListH.list_reverse_list_0 a vs.toArray j (by rw [List.size_toArray, hr.length]; exact hq.2.1)) ⟨ho, ?_⟩
  generalize h.update a (Obj.mapSeq fun x => x.reverse) = h2 at hs2 pl2
  have P := post_mut T (.refl _ _) c.act.tab ht.i hq.1.eq sl pl.isList (same_ext c.act.tab pl.isList hs2 (c.act.h0 ▸ T.own0 ht.i hq.1.eq sl)) pl2 hr.reverse
  obtain ⟨X2, e2, _, _, T2⟩ := P.ends
  have := e2 rfl
  subst this
  have hi2 : get (put ρ i (.own (ownL (get ρ i)).reverse)) i = .own (ownL (get ρ i)).reverse := get_same ..
  obtain ⟨u', sl', r'⟩ := T2.xc.vars i x kd ht.i hk hv (by rw [hi2]; nofun)
  rw [hi2] at r'
  obtain ⟨a', vs', rfl, _, _⟩ := r'
  have T3 := T2.freeze ht.i hi2 sl'
  refine ⟨_, tk, rfl, .next, _, hq.2.2, P.ch, P.al, _, nofun, fun b q => .inl (List.mem_filter.mp q).1, rfl, T3.congr fun j => ?_⟩
  rw [get_put, get_put, get_put]
  split <;> rfl
/-- an item of an own list set -/
noncomputable def sPut (i : Nat) (vi : PEnv → PV) (ki : PEnv → Prop) (v : PEnv → PV) (k : PEnv → Prop) : SS := fun ρ Q => isO (get ρ i) ∧ k ρ ∧ ki ρ ∧ isI (vi ρ) ∧ 0 ≤ asI (vi ρ) ∧ asI (vi ρ) < (ownL (get ρ i)).length ∧ (ownL (get ρ i)).length ≤ 16777216 ∧ Q .next (put ρ i (.own ((ownL (get ρ i)).set (asI (vi ρ)).toNat (v ρ))))
theorem set_plain {prog : Program} {w : World} {E : Value → Shared → Prop} {s : Shared} {l : Addr} {items : Array Value} {k : Int} {t : Tok} {v : Value} {Q : Unit → Shared → Prop} (hl : s.heap.PlainList l items) (h0 : 0 ≤ k) (hfit : k < 2 ^ 63) (hn : k < items.size)
    (hQ : ∀ h', h'.PlainList l (items.setIfInBounds k.toNat v) → Heap.SameBut l s.heap h' → Q () { s with heap := h' }) : wpAny (model prog w) A (setItem (.ref l) (.int k t) v) Q E s := by
  have ho := hl
  obtain ⟨n, ho⟩ := ho
  unfold setItem
  try with_reducible refine wpAny_holding ?_
  first | refine wpAny_bind (wpAny_pure ?_) | skip
  refine wpAny_bind (wpAny_sequenceKey hl.isList.typeIs (by decide) ?_)
  refine wpAny_bind (wpAny_callSpecial?_slot (name := Str.ofString "__setitem__") hl.isList.typeIs slot_list_setitem (wpAny_call_entry slot_list_setitem hl.isList.typeIs entry_list_setitem ?_ (args_list_setitem _ _ _)))
  show wpAny _ _ (Builtin.List.listSubscript? (.int k t) >>= _) _ _ s
  refine wpAny_bind (wpAny_listSubscript_int (fitsIndex_of h0 hfit) ?_)
  obtain ⟨j, rfl⟩ := Int.eq_ofNat_of_zero_le h0
  have hx' : items[j]? = some items[j] := Array.getElem?_eq_getElem (Int.ofNat_lt.mp hn)
  show wpAny _ _ ((seqItemAt l j >>= fun r => pure (r.map (j, ·))) >>= _) _ _ s
  refine wpAny_bind (wpAny_bind (wpAny_seqItemAt ho rfl (wpAny_pure ?_)))
  rw [hx']
  show wpAny _ _ (setSeqItemAt l j v >>= _) _ _ s
  have hfin : (s.heap.update l (Obj.mapSeq (·.setIfInBounds j v))).PlainList l (items.setIfInBounds j v) := ⟨_, Heap.get?_update_self _ ho rfl⟩
  refine wpAny_bind (wpAny_setSeqItemAt ho rfl ?_)
  first
    | exact wpAny_bind (wpAny_pure (wpAny_pure ⟨.none, rfl, wpAny_pure (hQ _ hfin (Heap.SameBut.update ..))⟩))
    | exact wpAny_pure ⟨.none, rfl, wpAny_pure (hQ _ hfin (Heap.SameBut.update ..))⟩
theorem m_put {ix : PySem.Expr} {vi : PEnv → PV} {ki : PEnv → Prop} {ni : Bool} {xp sp : Pos} (hsw : ∀ e, swapsWith l (some (.Subscript (.Name x xp) ix sp)) pos.line e = pure false) (ht : IsVar Γ sc x i) (hi : Good Γ sc ix ni vi ki) (ha : Good Γ sc l nw v k) : GoodStm Γ sc true (.Assign [.Subscript (.Name x xp) ix sp] l pos) (sPut i vi ki v k) := fun ρ Q A e h₀ X₀ X h hq T s tk => by
  have c := T.xc
  obtain ⟨kd, hk, hv⟩ := ht.k
  obtain ⟨u, sl, r⟩ := c.vars i x kd ht.i hk hv hq.1.def
  rw [hq.1.eq] at r
  obtain ⟨a, vs, rfl, pl, hr⟩ := r
  obtain ⟨d1, d2⟩ := okName_ok ht.ok
  refine wpAny_Assign_Subscript ((ha ρ A e h₀ e X h hq.2.1 c).go fun w h1 tk1 k1 t1 r1 => (sl.ext c.act.tab k1).name c.en.kind (((hi ρ A e h₀ e X h1 hq.2.2.1 (c.step k1 t1)).go fun j h2 tk2 k2 t2 r2 => ?_)) d1 d2) (hsw e)
  have r2 := r2.1
  rw [hq.2.2.2.1.eq] at r2
  obtain ⟨tj, rfl⟩ := r2
  have kk := k1.trans k2
  have pl2 : h2.PlainList a vs.toArray := by exact list_keptE pl kk (c.act.tab.notP pl.choose_spec (by nofun))
  have hlen := hr.length
  refine set_plain (s := Sh s h2 tk2) pl2 hq.2.2.2.2.1 (by have := hq.2.2.2.2.2; (first | lia | omega)) (by rw [List.size_toArray, hlen]; exact hq.2.2.2.2.2.1) fun h3 pl3 hs3 => ?_
  exact ⟨h3, tk2, rfl, .next, _, hq.2.2.2.2.2.2.2, post_mut T kk t2 ht.i hq.1.eq sl pl2.isList (same_ext t2 pl2.isList hs3 (c.act.h0 ▸ T.own0 ht.i hq.1.eq sl)) (by simpa using pl3) ((hr.ext c.act.tab kk).set _ (r1.1.ext t1 k2))⟩
end

end
end Mine
namespace Mine
section
open PySem.Calls
structure Put1 where
  x : Str
  i : Nat
  v : PV
  t : Value → Sem Unit
noncomputable def foldB (ρ : PEnv) (L : List Put1) : PEnv := L.foldl (fun ρ p => put ρ p.i (.val p.v)) ρ
theorem foldB_not {j : Nat} : ∀ {L : List Put1} {ρ : PEnv}, j ∉ L.map (·.i) → get (foldB ρ L) j = get ρ j
  | [], _, _ => rfl
  | p :: L, ρ, h => (foldB_not (L := L) fun q => h (.tail _ q)).trans (get_other fun q => h (q ▸ .head _))
theorem foldB_mem {p : Put1} : ∀ {L : List Put1} {ρ : PEnv}, (L.map (·.i)).Nodup → p ∈ L → get (foldB ρ L) p.i = .val p.v
  | q :: L, ρ, hn, h => by
    rw [List.map_cons, List.nodup_cons] at hn
    rcases List.mem_cons.mp h with rfl | h
    · exact (foldB_not hn.1).trans (get_same ..)
    · exact foldB_mem (L := L) hn.2 h
theorem foldB_rev {L : List Put1} {ρ : PEnv} (hn : (L.map (·.i)).Nodup) (j : Nat) : get (foldB ρ L) j = get (foldB ρ L.reverse) j := by
  by_cases h : j ∈ L.map (·.i)
  · obtain ⟨p, hp, rfl⟩ := List.mem_map.mp h
    rw [foldB_mem hn hp, foldB_mem (by rw [List.map_reverse]; exact List.pairwise_reverse.mpr (hn.imp fun z => z.symm)) (List.mem_reverse.mpr hp)]
  · rw [foldB_not h, foldB_not (by rw [List.map_reverse]; exact fun q => h (List.mem_reverse.mp q))]
/-- of a pair of tuples: the stores' order is known -/
noncomputable def okTup : PySem.Expr → Bool
  | .Tuple vs _ _ => vs.all (foldedForSure 8) || !vs.all (constantsAlone 8)
  | _ => true
noncomputable def sMany (is : List Nat) (v : PEnv → PV) (k : PEnv → Prop) : SS := fun ρ Q => k ρ ∧ isT (v ρ) ∧ is.length = (asT (v ρ)).length ∧ Q .next (puts ρ is (asT (v ρ)))
section
variable {Γ : Fx} {h₀ : Heap} {A : Around} {sc : Scope} {e : Env} {ρ : PEnv} {X₀ X X' : List Addr} {h h' h'' : Heap} {v : PEnv → PV} {k : PEnv → Prop} {l : PySem.Expr} {nw : Bool}
/-- what several stores leave -/
noncomputable def Sto (Γ : Fx) (A : Around) (sc : Scope) (e : Env) (h₀ : Heap) (X₀ X : List Addr) (h : Heap) (ρ' : PEnv) (h' : Heap) : Prop := Chg Γ.C e X₀ X h h' ∧ (∀ a, (∃ o, h.get? a = some o) → ∃ o, h'.get? a = some o) ∧ ST Γ A e h₀ sc X₀ X ρ' h'
theorem assigns_ok : ∀ {L : List Put1} {vs : List Value} {ρ : PEnv} {h : Heap}, (∀ p ∈ L, ∀ v Q s, wpAny Γ.C.M A (storeName e p.x v) Q never s → wpAny Γ.C.M A (p.t v) Q never s) → (∀ p ∈ L, IsTgt Γ sc p.x p.i) → RepL h X (L.map (·.v)) vs → ST Γ A e h₀ sc X₀ X ρ h →
    WU Γ.C A (assignInOrder (L.map (·.t)) vs) h fun _ h' => Sto Γ A sc e h₀ X₀ X h (foldB ρ L) h'
  | [], vs, ρ, h, _, _, r, S => fun s tk => by
    cases r
    exact wpAny_assignInOrder_none ⟨h, tk, rfl, Chg.of_ext (.refl _ _), fun _ q => q, S⟩
  | p :: L, vs, ρ, h, h1, h2, r, S => fun s tk => by
    obtain ⟨v, vs, rfl, r1, r2⟩ := r
    have ht := h2 p (.head _)
    refine wpAny_assignInOrder_more (h1 p (.head _) v _ _ ((put_ok S.xc ht).go fun _ H1 tk1 pr => ?_))
    have kp := pr.kp S.xc.act.tab X
    exact (assigns_ok (fun q hq => h1 q (.tail _ hq)) (fun q hq => h2 q (.tail _ hq)) (r2.keep kp) (S.putV (pv := p.v) pr ht.i (r1.keep kp))).go fun _ H2 tk2 y => ⟨H2, tk2, rfl, (pr.chg).trans (fun _ => .inl) y.1, fun a q => y.2.1 a (pr.al a q), y.2.2⟩
noncomputable def putsOf (env : Env) : List PySem.Expr → List Nat → List PV → List Put1
  | .Name x p :: es, i :: is, v :: vs => ⟨x, i, v, assign (.Name x p) env⟩ :: putsOf env es is vs
  | _, _, _ => []
structure PutsOk (Γ : Fx) (A : Around) (sc : Scope) (e : Env) (es : List PySem.Expr) (is : List Nat) (vs : List PV) (ρ : PEnv) : Prop where
  ae : puts ρ is vs = foldB ρ (putsOf e es is vs)
  ai : (putsOf e es is vs).map (·.i) = is
  av : (putsOf e es is vs).map (·.v) = vs
  at' : (putsOf e es is vs).map (·.t) = (assignEach es e).map (·.2)
  aw : ∀ p ∈ putsOf e es is vs, ∀ v Q s, wpAny Γ.C.M A (storeName e p.x v) Q never s → wpAny Γ.C.M A (p.t v) Q never s
  an' : ∀ p ∈ putsOf e es is vs, IsTgt Γ sc p.x p.i
theorem puts_ok {es : List PySem.Expr} {is : List Nat} (a : AreTgt Γ sc es is) : ∀ {vs : List PV} {ρ : PEnv}, is.length = vs.length → PutsOk Γ A sc e es is vs ρ := by
  induction a with
  | nil =>
    intro vs ρ hl
    cases vs with
    | nil => exact ⟨rfl, rfl, rfl, rfl, fun _ q => (nomatch q), fun _ q => (nomatch q)⟩
    | cons => cases hl
  | @cons x p i es is hx _ ih =>
    intro vs ρ hl
    cases vs with
    | nil => cases hl
    | cons v vs =>
      obtain ⟨a1, a2, a3, a4, a5, a6⟩ := ih (vs := vs) (ρ := put ρ i (.val v)) (Nat.succ.inj hl)
      exact ⟨a1, congrArg _ a2, congrArg _ a3, congrArg _ a4, fun q hq => (List.mem_cons.mp hq).elim (fun z => z ▸ fun v Q s h => wpAny_assign_Name h) (a5 q), fun q hq => (List.mem_cons.mp hq).elim (fun z => z ▸ hx) (a6 q)⟩
noncomputable def namesOk (env : Env) (line : Nat) (ts : List PySem.Expr) : List Str := ts.filterMap fun
    | .Name id pos => if env.kindOf id == some .local && pos.line == line then some id else none
    | _ => none
theorem swapped_cases {es : List PySem.Expr} {k : Nat} {tp : Pos} {v : PySem.Expr} (hv : okTup v = true) : swappedStores [.Tuple es k tp] v e = pure none ∨ ∃ line, swappedStores [.Tuple es k tp] v e = pure (some (namesOk e line es)) ∧ (namesOk e line es).length = es.length := by
  cases v with
  | Tuple vs k' p' =>
    unfold swappedStores
    dsimp only
    split
    · exact .inl rfl
    · split
      · exact .inl rfl
      · split
        · exact .inl rfl
        · rename_i hl
          split
          · exact .inl rfl
          · rename_i hf
            have hc : vs.all (constantsAlone 8) = false := by
              unfold okTup at hv
              rw [Bool.or_eq_true, Bool.not_eq_true'] at hv
              exact hv.elim (fun q => absurd q hf) id
            rw [hc]
            rw [Bool.or_eq_true, not_or] at hl
            exact .inr ⟨_, rfl, Decidable.byContradiction fun q => hl.1 (bne_iff_ne.mpr q)⟩
  | _ => exact .inl rfl
theorem namesOk_puts {line : Nat} {es : List PySem.Expr} {is : List Nat} (a : AreTgt Γ sc es is) : ∀ {vs : List PV}, is.length = vs.length → (namesOk e line es).length = es.length → namesOk e line es = (putsOf e es is vs).map (·.x) := by
  induction a with
  | nil =>
    intro vs hl _
    cases vs with
    | nil => rfl
    | cons => cases hl
  | @cons x p i es is hx _ ih =>
    intro vs hl hq
    cases vs with
    | nil => cases hl
    | cons v vs =>
      have hle : (namesOk e line es).length ≤ es.length := List.length_filterMap_le _ _
      unfold namesOk at hq hle ⊢
      rw [List.filterMap_cons] at hq ⊢
      by_cases hc : (e.kindOf x == some .local && p.line == line) = true
      · simp only [hc, if_true] at hq ⊢
        exact congrArg _ (ih (Nat.succ.inj hl) (Nat.succ.inj hq))
      · simp only [if_neg hc] at hq
        rw [List.length_cons] at hq
        omega
theorem swapsSole {v : PySem.Expr} {es : List PySem.Expr} {j : Nat} {tp : Pos} {l : Nat} {e : Env} : swapsWithSole [.Tuple es j tp] v l e = pure false := by
  cases v <;> rfl
theorem m_many {es : List PySem.Expr} {j : Nat} {tp pos : Pos} {is : List Nat} (hn : AreTgt Γ sc es is) (hd : is.Nodup) (hb : okTup l = true) (ha : Good Γ sc l nw v k) : GoodStm Γ sc true (.Assign [.Tuple es j tp] l pos) (sMany is v k) := fun ρ Q A e h₀ X₀ X h hq S s tk => by
  have O := puts_ok (A := A) (e := e) hn (ρ := ρ) hq.2.2.1
  obtain ⟨l1, l2, l3⟩ := hn.each (cenv := e)
  have c := S.xc
  have hsw : swapsWithSole [.Tuple es j tp] l pos.line e = pure false := swapsSole
  have fin : ∀ {h1 h2 h3 : Heap} {tk : Nat} {ρ' : PEnv}, (∀ i, get ρ' i = get (puts ρ is (asT (v ρ))) i) → Ext Γ.C.Ps h h1 → TabsOk Γ.C h1 → Ext Γ.C.Ps h1 h2 → TabsOk Γ.C h2 → Sto Γ A sc e h₀ X₀ X h2 ρ' h3 → ∃ h' tk', Sh s h3 tk = Sh s h' tk' ∧ Out Γ A sc e h₀ X₀ X true h Q .next h' :=
    fun hl k t k2 t2 y => ⟨_, _, rfl, .next, _, hq.2.2.2, (Chg.of_ext (k.trans k2)).trans (fun _ => .inl) y.1, fun a q => y.2.1 a (al_ext (k.trans k2) t2 a q), X, fun _ => rfl, fun _ => .inl, rfl, y.2.2.congr fun i => (hl i).symm⟩
  rcases swapped_cases (e := e) (es := es) (k := j) (tp := tp) hb with hw | ⟨line, hw, hlen⟩
  · refine Assign_Tuple ((ha ρ A e h₀ e X h hq.1 c).go fun u h1 tk1 k1 t1 r => ?_) hsw hw
    have r := r.1
    rw [hq.2.1.eq] at r
    obtain ⟨a, vs, rfl, hx, hT, hr⟩ := r
    refine wpAny_assign_Tuple c.act.hh hT (by rw [l1, l2, hq.2.2.1, ← hr.length]; simp) l3 fun h2 k2 => ?_
    have k2' : ∀ b o, h1.get? b = some o → h2.get? b = some o := fun b o e => k2 b o (Nat.ne_of_lt (Heap.lt_size e)) e
    rw [← O.at']
    exact (assigns_ok O.aw O.an' (by rw [O.av]; exact hr.keep fun _ _ _ _ e => k2' _ _ e) ((S.step k1 t1).step (.of_keep k2') (t1.keeps k2'))).go fun _ h3 tk3 y => fin (fun i => by rw [O.ae]) k1 t1 (.of_keep k2') (t1.keeps k2') y
  · refine Assign_Tuple_swapped (names := namesOk e line es) ((ha ρ A e h₀ e X h hq.1 c).go fun u h1 tk1 k1 t1 r => ?_) hsw hw
    have r := r.1
    rw [hq.2.1.eq] at r
    obtain ⟨a, vs, rfl, hx, hT, hr⟩ := r
    have hsz : (namesOk e line es).length = vs.toArray.size := by rw [hlen, l2, hq.2.2.1, ← hr.length]; simp
    rw [hsz]
    refine wpAny_unpackItems_tuple c.act.hh hT fun h2 k2 => ?_
    have k2' : ∀ b o, h1.get? b = some o → h2.get? b = some o := fun b o e => k2 b o (Nat.ne_of_lt (Heap.lt_size e)) e
    rw [namesOk_puts (e := e) hn hq.2.2.1 hlen]
    have et : ((putsOf e es is (asT (v ρ))).map (·.x)).reverse.map (fun n => bindName e n) = (((putsOf e es is (asT (v ρ))).reverse.map fun p => ({ p with t := bindName e p.x } : Put1))).map (·.t) := by
      rw [← List.map_reverse, List.map_map, List.map_map]; rfl
    rw [et]
    have hr2 := hr.keep fun _ _ _ _ e => k2' _ _ e
    refine WU.go (Z := fun _ s' => ∃ h' tk', s' = Sh s h' tk' ∧ Out Γ A sc e h₀ X₀ X true h Q .next h') (assigns_ok (h := h2) (ρ := ρ) (L := (putsOf e es is (asT (v ρ))).reverse.map fun p => ({ p with t := bindName e p.x } : Put1)) (vs := vs.reverse) (fun p hp v Q s h => ?_) (fun p hp => ?_) ?_ ((S.step k1 t1).step (.of_keep k2') (t1.keeps k2'))) fun _ h3 tk3 y => fin (fun i => ?_) k1 t1 (.of_keep k2') (t1.keeps k2') y
    · obtain ⟨q, _, rfl⟩ := List.mem_map.mp hp
      exact wpAny_bindName h
    · obtain ⟨q, hq, rfl⟩ := List.mem_map.mp hp
      exact O.an' q (List.mem_reverse.mp hq)
    · rw [List.map_map]
      show RepL h2 X ((putsOf e es is (asT (v ρ))).reverse.map (·.v)) vs.reverse
      rw [List.map_reverse, O.av]
      exact hr2.reverse
    · have : foldB ρ ((putsOf e es is (asT (v ρ))).reverse.map fun p => ({ p with t := bindName e p.x } : Put1)) = foldB ρ (putsOf e es is (asT (v ρ))).reverse := by
        unfold foldB
        rw [List.foldl_map]
      rw [this, O.ae]
      exact (foldB_rev (by rw [O.ai]; exact hd) i).symm
end

end
end Mine
namespace Mine
section
open PySem.Calls
set_option backward.match.sparseCases false
noncomputable def own2L : Bind → List (List Int)
  | .own2 xss => xss
  | _ => []
noncomputable def isO2 : Bind → Prop
  | .own2 _ => True
  | _ => False
theorem isO2.eq {b : Bind} (h : isO2 b) : b = .own2 (own2L b) := by cases b <;> first | rfl | cases h
theorem isO2.def {b : Bind} (h : isO2 b) : b ≠ .undef := fun q => by rw [q] at h; cases h
noncomputable def rowAt (b : Bind) (j : Int) : List Int := (own2L b).getD j.toNat []
theorem Rows.get {h : Heap} : ∀ {xss : List (List Int)} {as : List Addr} {j : Nat} {xs : List Int}, Rows h xss as → xss[j]? = some xs → ∃ (b : Addr) (vs : List Value), as[j]? = some b ∧ h.PlainList b vs.toArray ∧ IntsAre vs xs
  | [], _, _, _, _, e => by cases e
  | xs :: xss, _, 0, _, r, e => by
    obtain ⟨b, bs, vs, rfl, p, q, _⟩ := r
    cases e
    exact ⟨b, vs, rfl, p, q⟩
  | xs :: xss, _, j + 1, _, r, e => by
    obtain ⟨b, bs, vs, rfl, p, q, r⟩ := r
    obtain ⟨c, us, e1, e2⟩ := r.get (j := j) (by simpa using e)
    exact ⟨c, us, by simpa using e1, e2⟩
section
variable {Γ : Fx} {C : Cx} {h₀ : Heap} {A : Around} {sc : Scope} {e : Env} {ρ : PEnv} {X₀ X X' : List Addr} {h h' h'' : Heap} {v vi vj : PEnv → PV} {k ki kj : PEnv → Prop} {nw ni nj : Bool} {l ix jx : PySem.Expr} {x y : Str} {i : Nat} {p xp sp tp pos : Pos}
/-- xss[i], of a list of own lists -/
theorem b_row (hv : IsVar Γ sc x i) (hi : Good Γ sc ix ni vi ki) : GoodB Γ sc (.Subscript (.Name x xp) ix p) (fun ρ => (false, zs (rowAt (get ρ i) (asI (vi ρ))))) (fun ρ => isO2 (get ρ i) ∧ ki ρ ∧ isI (vi ρ) ∧ 0 ≤ asI (vi ρ) ∧ asI (vi ρ) < (own2L (get ρ i)).length ∧ (own2L (get ρ i)).length ≤ 16777216) :=
  fun ρ A e₀ h₀ env X h k c s tk => Subscript_ (name_var hv k.1.def c fun u r => by
    rw [k.1.eq] at r
    refine (hi ρ A e₀ h₀ env X h k.2.1 c).go fun w h1 tk1 k1 t1 r1 => ?_
    have r1 := r1.1
    rw [k.2.2.1.eq] at r1
    obtain ⟨tj, rfl⟩ := r1
    obtain ⟨a, as, rfl, pl, hr⟩ := HoldsB.ext (X := X) c.act.tab k1 r
    obtain ⟨_, _, _, z0, z1, z2⟩ := k
    have hlt : (asI (vi ρ)).toNat < (own2L (get ρ i)).length := by (first | lia | omega)
    obtain ⟨b, vs, e1, e2, e3⟩ := hr.get (List.getElem?_eq_getElem hlt)
    obtain ⟨Ty, id, hT, hlk⟩ := isSeq.tail (T := false) (s := Sh s h1 tk1) pl.isList
    refine tail_ok hT hlk (getItem_ok (T := false) (i := (asI (vi ρ)).toNat) (v := .ref b) pl.isList ?_ ?_ (T.mk k1 t1 ⟨b, vs, rfl, e2.isList, ?_⟩))
    · unfold idx
      rw [List.length_map, hr.length, if_pos ⟨z0, z1, by (first | lia | omega)⟩]
    · rw [List.getElem?_map, e1]; rfl
    · show RepL h1 X (zs (rowAt (get ρ i) (asI (vi ρ)))) vs
      unfold rowAt
      rw [List.getD_eq_getElem?_getD, List.getElem?_eq_getElem hlt]
      exact .of_ints e3)
/-- len(xss) -/
theorem g_len2 (hg : IsGlob Γ sc y (.builtin "len")) (hv : IsVar Γ sc x i) : Good Γ sc (.Call (.Name y p) [.Name x xp] [] pos) false (fun ρ => .int (own2L (get ρ i)).length) (fun ρ => isO2 (get ρ i) ∧ (own2L (get ρ i)).length ≤ 16777216) :=
  fun ρ A e₀ h₀ env X h k c s tk => wpAny_Call_NameR (name_glob hg c (bi_callWith (f := .builtin "len") trivial (by rw [starEach_cons (fun _ _ q => by cases q)]; rfl) (by
    rw [starEach_cons (fun _ _ q => by cases q)]
    refine Calls.evalArgs_plain (Calls.spliced_cons (name_var hv k.1.def c fun u r => Calls.spliced_nil ?_))
    rw [k.1.eq] at r
    obtain ⟨a, as, rfl, pl, hr⟩ := r
    have hlen : (as.map Value.ref).length < 2 ^ 63 := by have := k.2; rw [List.length_map, hr.length]; omega
    show wpAny _ _ _ (T Γ.C s h fun v h' => Rep h' X (.int (own2L (get ρ i)).length) v ∧ (false = true → New h v h')) _ _
    rw [← hr.length, ← List.length_map (f := Value.ref)]
    exact wpAny_mono (b_len pl.isList hlen) (fun _ _ g => int_T (.refl _ _) c.act.tab g) fun _ _ f => f.elim)))
noncomputable def sAugI (i : Nat) (op : Operator) (vi : PEnv → PV) (ki : PEnv → Prop) (v : PEnv → PV) (k : PEnv → Prop) : SS := fun ρ Q => isO (get ρ i) ∧ ki ρ ∧ isI (vi ρ) ∧ 0 ≤ asI (vi ρ) ∧ asI (vi ρ) < (ownL (get ρ i)).length ∧ (ownL (get ρ i)).length ≤ 16777216 ∧ k ρ ∧ isI (v ρ) ∧
  ∃ z, (ownL (get ρ i))[(asI (vi ρ)).toNat]? = some (.int z) ∧ intOp op z (asI (v ρ)) = some (iop op z (asI (v ρ))) ∧ Q .next (put ρ i (.own ((ownL (get ρ i)).set (asI (vi ρ)).toNat (.int (iop op z (asI (v ρ)))))))
/-- an item of an own list += -/
theorem m_augI {op : Operator} (hs : ∀ ov iv new, augStore ix ov iv new = (do holding [new, ov, iv] (setItem ov iv new); release [new, ov, iv] []; pure .next)) (ht : IsVar Γ sc x i) (hi : Good Γ sc ix ni vi ki) (ha : Good Γ sc l nw v k) : GoodStm Γ sc true (.AugAssign (.Subscript (.Name x xp) ix sp) op l pos) (sAugI i op vi ki v k) := fun ρ Q A e h₀ X₀ X h hq T s tk => by
  have c := T.xc
  obtain ⟨q1, q2, q3, q4, q5, q6, q7, q8, z, q9, q10, q11⟩ := hq
  obtain ⟨kd, hk, hv⟩ := ht.k
  obtain ⟨u, sl, r⟩ := c.vars i x kd ht.i hk hv q1.def
  rw [q1.eq] at r
  obtain ⟨a, vs, rfl, pl, hr⟩ := r
  obtain ⟨d1, d2⟩ := okName_ok ht.ok
  have hlen := hr.length
  refine wpAny_AugAssign_SubscriptAny (sl.name c.en.kind ((hi ρ A e h₀ e X h q2 c).go fun j h1 tk1 k1 t1 r1 => ?_) d1 d2) hs
  have r1 := r1.1
  rw [q3.eq] at r1
  obtain ⟨tj, rfl⟩ := r1
  have pl1 := plain_ext c.act.tab k1 pl
  have hr1 := hr.ext c.act.tab k1
  obtain ⟨w, hw, rw'⟩ := hr1.get q9
  obtain ⟨tz, rfl⟩ := rw'
  refine getItem_ok (s := Sh s h1 tk1) (T := false) (i := (asI (vi ρ)).toNat) pl1.isList ?_ hw ((ha ρ A e h₀ e X h1 q7 (c.step k1 t1)).go fun u h2 tk2 k2 t2 r2 => ?_)
  · unfold idx
    rw [hlen, if_pos ⟨q4, q5, by (first | lia | omega)⟩]
  have r2 := r2.1
  rw [q8.eq] at r2
  obtain ⟨tv, rfl⟩ := r2
  refine wpAny_mono (intOp_ip (X := X) (s := Sh s h2 tk2) q10) (fun u s3 y => ?_) fun _ _ f => f.elim
  obtain ⟨h3, tk3, rfl, k3, r3, _⟩ := y
  obtain ⟨tn, rfl⟩ := r3
  have kk := (k1.trans k2).trans (.of_keep k3)
  have t3 := t2.keeps k3
  have pl3 := plain_ext c.act.tab kk pl
  refine set_plain (s := Sh s h3 tk3) pl3 q4 (by (first | lia | omega)) (by rw [List.size_toArray, hlen]; exact q5) fun h4 pl4 hs4 => ?_
  exact ⟨h4, tk3, rfl, .next, _, q11, post_mut T kk t3 ht.i q1.eq sl pl3.isList (same_ext t3 pl3.isList hs4 (c.act.h0 ▸ T.own0 ht.i q1.eq sl)) (by simpa using pl4) ((hr.ext c.act.tab kk).set _ ⟨_, rfl⟩)⟩
/-- an own list returned -/
noncomputable def sRetO (i : Nat) : SS := fun ρ Q => isO (get ρ i) ∧ Q (.ret (.lst (ownL (get ρ i)))) ρ
theorem m_retO (ht : IsVar Γ sc x i) : GoodStm Γ sc true (.Return (some (.Name x p)) pos) (sRetO i) := fun ρ Q A e h₀ X₀ X h hq T s tk =>
  wpAny_Return_some (by
    have c := T.xc
    obtain ⟨kd, hk, hv⟩ := ht.k
    obtain ⟨u, sl, r⟩ := c.vars i x kd ht.i hk hv hq.1.def
    rw [hq.1.eq] at r
    obtain ⟨a, vs, rfl, pl, hr⟩ := r
    obtain ⟨d1, d2⟩ := okName_ok ht.ok
    obtain ⟨a', e', _, hX, _⟩ := T.own1 x i _ _ ht.i hq.1.eq sl
    cases e'
    exact sl.name c.en.kind ⟨h, tk, rfl, _, ρ, hq.2, .of_ext (.refl _ _), fun _ q => q, X, fun _ => rfl, fun _ => .inl, .ref a, rfl, ⟨a, vs, rfl, hX, pl.isList, hr.avoid fun b q => .inl (T.sub b q)⟩, c.act⟩ d1 d2)
/-- a list of own lists returned -/
noncomputable def sRet2 (i : Nat) : SS := fun ρ Q => isO2 (get ρ i) ∧ Q (.ret (.lst ((own2L (get ρ i)).map fun xs => .lst (zs xs)))) ρ
theorem Rows.rep : ∀ {xss : List (List Int)} {as : List Addr}, Rows h xss as → (∀ b ∈ as, b ∉ X) → RepL h X (xss.map fun xs => .lst (zs xs)) (as.map Value.ref)
  | [], _, r, _ => by cases r; rfl
  | xs :: xss, _, r, k => by
    obtain ⟨b, bs, vs, rfl, pl, q, r⟩ := r
    exact ⟨_, _, rfl, ⟨b, vs, rfl, k b (.head _), pl.isList, .of_ints q⟩, r.rep fun c hc => k c (.tail _ hc)⟩
theorem m_ret2 (ht : IsVar Γ sc x i) : GoodStm Γ sc true (.Return (some (.Name x p)) pos) (sRet2 i) := fun ρ Q A e h₀ X₀ X h hq T s tk =>
  wpAny_Return_some (by
    have c := T.xc
    obtain ⟨kd, hk, hv⟩ := ht.k
    obtain ⟨u, sl, r⟩ := c.vars i x kd ht.i hk hv hq.1.def
    rw [hq.1.eq] at r
    obtain ⟨a, as, rfl, pl, hr⟩ := r
    obtain ⟨d1, d2⟩ := okName_ok ht.ok
    obtain ⟨a', as', e', pl', _, hX⟩ := T.own3.at' x i _ _ ht.i hq.1.eq sl
    cases e'
    cases refs_inj pl pl'
    exact sl.name c.en.kind ⟨h, tk, rfl, _, ρ, hq.2, .of_ext (.refl _ _), fun _ q => q, X, fun _ => rfl, fun _ => .inl, .ref a, rfl, ⟨a, as.map Value.ref, rfl, (hX a (.head _)).2.1, pl.isList, hr.rep fun b hb => (hX b (.tail _ hb)).2.1⟩, c.act⟩ d1 d2)
/-- xss[i][j] = v, of a list of own lists -/
noncomputable def sPut2 (i : Nat) (vi : PEnv → PV) (ki : PEnv → Prop) (vj : PEnv → PV) (kj : PEnv → Prop) (v : PEnv → PV) (k : PEnv → Prop) : SS := fun ρ Q => isO2 (get ρ i) ∧ k ρ ∧ isI (v ρ) ∧ ki ρ ∧ isI (vi ρ) ∧ 0 ≤ asI (vi ρ) ∧ asI (vi ρ) < (own2L (get ρ i)).length ∧ (own2L (get ρ i)).length ≤ 16777216 ∧
  kj ρ ∧ isI (vj ρ) ∧ 0 ≤ asI (vj ρ) ∧ asI (vj ρ) < (rowAt (get ρ i) (asI (vi ρ))).length ∧ (rowAt (get ρ i) (asI (vi ρ))).length ≤ 16777216 ∧
  Q .next (put ρ i (.own2 ((own2L (get ρ i)).set (asI (vi ρ)).toNat ((rowAt (get ρ i) (asI (vi ρ))).set (asI (vj ρ)).toNat (asI (v ρ))))))
theorem ints_len {vs : List Value} {xs : List Int} (h : IntsAre vs xs) : vs.length = xs.length := by induction h <;> simp_all
theorem ints_set {vs : List Value} {xs : List Int} (h : IntsAre vs xs) (j : Nat) (z : Int) (t : Tok) : IntsAre (vs.set j (.int z t)) (xs.set j z) := RepL.ints (h := default) (X := []) (by
  have := (RepL.of_ints (h := default) (X := []) h).set j (x := .int z) ⟨t, rfl⟩
  rwa [← List.map_set] at this)
theorem m_put2 (hsw : ∀ e, swapsWith l (some (.Subscript (.Subscript (.Name x xp) ix sp) jx tp)) pos.line e = pure false) (ht : IsVar Γ sc x i) (hi : Good Γ sc ix ni vi ki) (hj : Good Γ sc jx nj vj kj) (ha : Good Γ sc l nw v k) :
    GoodStm Γ sc true (.Assign [.Subscript (.Subscript (.Name x xp) ix sp) jx tp] l pos) (sPut2 i vi ki vj kj v k) := fun ρ Q A e h₀ X₀ X h hq T s tk => by
  have c := T.xc
  obtain ⟨q1, q2, q3, q4, q5, q6, q7, q8, r4, r5, r6, r7, r8, q9⟩ := hq
  obtain ⟨kd, hk, hv⟩ := ht.k
  obtain ⟨u, sl, r⟩ := c.vars i x kd ht.i hk hv q1.def
  rw [q1.eq] at r
  obtain ⟨a, as, rfl, pl, hr⟩ := r
  obtain ⟨d1, d2⟩ := okName_ok ht.ok
  have hlt : (asI (vi ρ)).toNat < (own2L (get ρ i)).length := by (first | lia | omega)
  have erow : (own2L (get ρ i))[(asI (vi ρ)).toNat]? = some (rowAt (get ρ i) (asI (vi ρ))) := by
    unfold rowAt
    rw [List.getD_eq_getElem?_getD, List.getElem?_eq_getElem hlt]; rfl
  refine wpAny_Assign_Subscript ((ha ρ A e h₀ e X h q2 c).go fun w h1 tk1 k1 t1 r1 => ?_) (hsw e)
  have r1 := r1.1
  rw [q3.eq] at r1
  obtain ⟨tw, rfl⟩ := r1
  have c1 := c.step k1 t1
  refine Subscript_ ((sl.ext c.act.tab k1).name c.en.kind ((hi ρ A e h₀ e X h1 q4 c1).go fun u h2 tk2 k2 t2 r2 => ?_) d1 d2)
  have r2 := r2.1
  rw [q5.eq] at r2
  obtain ⟨ti, rfl⟩ := r2
  have c2 := c1.step k2 t2
  have k02 := k1.trans k2
  have pl2 := plain_ext c.act.tab k02 pl
  have hr2 := hr.imp fun _ _ _ => plain_ext c.act.tab k02
  obtain ⟨b, vs, e1, e2, e3⟩ := hr2.get erow
  obtain ⟨Ty, id, hT, hlk⟩ := isSeq.tail (T := false) (s := Sh s h2 tk2) pl2.isList
  refine tail_ok hT hlk (getItem_ok (T := false) (i := (asI (vi ρ)).toNat) (v := .ref b) pl2.isList ?_ ?_ ((hj ρ A e h₀ e X h2 r4 c2).go fun u h3 tk3 k3 t3 r3 => ?_))
  · unfold idx
    rw [List.length_map, hr.length, if_pos ⟨q6, q7, by (first | lia | omega)⟩]
  · rw [List.getElem?_map, e1]; rfl
  have r3 := r3.1
  rw [r5.eq] at r3
  obtain ⟨tj, rfl⟩ := r3
  have k03 := k02.trans k3
  have T3 := T.step k03 t3
  have pl3 := plain_ext c.act.tab k03 pl
  have hr3 := hr.imp fun _ _ _ => plain_ext c.act.tab k03
  have e2' := plain_ext t2 k3 e2
  have sl3 := sl.ext c.act.tab k03
  have hlen := ints_len e3
  obtain ⟨a', as', ea, l2, nd, o4⟩ := T3.own3.at' x i _ _ ht.i q1.eq sl3
  cases ea
  cases refs_inj pl3 l2
  obtain ⟨b1, b2, b3, _, _⟩ := o4 b (.tail _ (List.mem_of_getElem? e1))
  refine set_plain (s := Sh s h3 tk3) e2' r6 (by (first | lia | omega)) (by rw [List.size_toArray, hlen]; exact r7) fun h4 pl4 hs4 => ?_
  obtain ⟨x4, t4⟩ := same_ext t3 e2'.isList hs4 (c.act.h0 ▸ b3)
  have S4 := T3.mut2 (j := (asI (vi ρ)).toNat) ht.i q1.eq sl3 pl3 hr3 e1 e2'.isList x4 t4 (by simpa using pl4) (ints_set e3 (asI (vj ρ)).toNat (asI (v ρ)) tw)
  refine ⟨h4, tk3, rfl, .next, _, q9, fun d o p q r z eb => (let ⟨_, g1, g2⟩ := k03 d o p eb; let ⟨sl2, g3, g4⟩ := x4 d _ (fun w => (List.mem_cons.mp w).elim (fun w => z.elim (fun z => z (w ▸ b1)) fun z => b2 (w ▸ z)) p) g1; ⟨sl2, g3, fun hc => (g4 hc).trans (g2 hc)⟩), fun d q => ?_, X, fun _ => rfl, fun _ => .inl, rfl, S4⟩
  by_cases z : d ∈ b :: Γ.C.Ps
  · rcases List.mem_cons.mp z with z | z
    · obtain ⟨j, ho⟩ := pl4; exact ⟨_, z ▸ ho⟩
    · obtain ⟨ps, e⟩ := t4.obj z; exact ⟨_, e⟩
  · exact x4.some d z (al_ext k03 t3 d q)
/-- new lists, pairwise apart -/
noncomputable def NewZ (h : Heap) (accs : List PV) (vs : List Value) (H : Heap) : Prop := (∀ x ∈ accs, isL x) ∧ (∀ v ∈ vs, ∃ (a : Addr) (xs : Array Value), v = .ref a ∧ h.get? a = none ∧ H.PlainList a xs) ∧ vs.Nodup
theorem newZ_ok : ZOk NewZ := ⟨fun _ _ => ⟨fun _ q => (nomatch q), fun _ q => (nomatch q), .nil⟩, fun h Y accs vs H H' r kp ⟨z1, z2, z3⟩ => ⟨z1, fun v hv => by
  obtain ⟨a, xs, rfl, f, l⟩ := z2 v hv
  obtain ⟨j, hj⟩ := List.mem_iff_getElem?.mp hv
  obtain ⟨x, hx, rx⟩ := r.get' hj
  rw [(z1 x (List.mem_of_getElem? hx)).eq] at rx
  obtain ⟨a', _, e, ha, _⟩ := rx
  cases e
  obtain ⟨n, ho⟩ := l
  exact ⟨a, xs, rfl, f, n, kp a _ ha ⟨.inl rfl, _, n, rfl⟩ ho⟩, z3⟩⟩
theorem i_lastZ {elt : PySem.Expr} {gens : List Comprehension} {d : Nat} {scope : Scope} {va : PEnv → PV} {ka : PEnv → Prop} (hg : gens[d]? = none) (ha : Good Γ scope elt true va ka) : GInZ NewZ Γ scope elt gens d [] (fun ρ => [va ρ]) (fun ρ => ka ρ ∧ isL (va ρ)) := by
  intro pos A e₀ h₀ sc env ρ X h cenv ρ' Y hh accs vs dl I k S hD hl hr hz hn s tk
  unfold emitC
  rw [hg]
  refine wpAny_bind ((ha ρ' A e₀ h₀ cenv Y hh k.1 (S.xc I)).go fun u h1 tk1 k1 t1 r => ?_)
  have S1 := S.step I k1 t1
  have hl1 := list_keptE hl k1 hD.notP
  have hsz : vs.toArray.size ≤ sizeLine := by
    have := hr.length
    rw [List.size_toArray, this]
    exact Nat.le_trans (Nat.le_add_right _ _) hn
  refine wpAny_bind (wpAny_list_append_plain (s := Sh s h1 tk1) hl1 (fun h2 hl2 hs2 => ?_) hsz)
  have k2 : Exa [dl] h1 h2 := fun b o hb e => hs2.extBut b o (fun q => hb (by rw [q]; exact .head _)) e
  have S2 := S1.touch (Y₂ := Y) (fun b e => none_base I.out.act.tab e) [dl] k2 (fun b hb => by
    rw [List.mem_singleton.mp hb]
    refine ⟨hD.mem, hD.new, hD.off, fun o e ws q t hf => ?_⟩
    obtain ⟨n', e'⟩ := hl1
    rw [e] at e'; cases e'
    cases hf) (fun _ q => q) (fun b hb _ => by rw [List.mem_singleton.mp hb]; obtain ⟨o, e⟩ := hl2; exact ⟨_, e⟩) fun b hb => by rw [List.mem_singleton.mp hb]; exact hD.notP
  have kp2 : Kp Y h1 h2 := fun b o hb _ e => k2 b o (fun q => hb (by rw [List.mem_singleton.mp q]; exact hD.mem)) e
  have hr1 := hr.ext S.tab k1
  have hz1 := newZ_ok.mv _ _ _ _ _ _ hr (kp_of_ext S.tab k1) hz
  have hz2 := newZ_ok.mv _ _ _ _ _ _ hr1 kp2 hz1
  refine wpAny_pure ⟨h2, tk1, rfl, vs ++ [u], S2, by simpa using hl2, (hr1.snoc r.1).keep kp2, (Stay.of_ext k1).trans fun b o _ hb _ _ e => hs2.extBut b o hb e, fun x hx => ?_, fun v hv => ?_, ?_⟩
  · rcases List.mem_append.mp hx with q | q
    · exact hz.1 x q
    · rw [List.mem_singleton.mp q]; exact k.2
  · rcases List.mem_append.mp hv with q | q
    · exact hz2.2.1 v q
    · rw [List.mem_singleton.mp q]
      obtain ⟨ru, nu⟩ := r
      rw [k.2.eq] at ru
      obtain ⟨a, us, rfl, hx, l, _⟩ := ru
      obtain ⟨n, ho⟩ := (nu rfl).plain l
      exact ⟨a, _, rfl, fresh_back S.tab S.ext (nu rfl a rfl).1, n, kp2 a _ hx ⟨.inl rfl, _, n, rfl⟩ ho⟩
  · refine List.nodup_append.mpr ⟨hz.2.2, List.pairwise_singleton _ _, fun v hv w hw q => ?_⟩
    rw [List.mem_singleton.mp hw] at q
    subst q
    obtain ⟨a, xs, rfl, _, n, ho⟩ := hz.2.1 v hv
    rw [(r.2 rfl a rfl).1] at ho; cases ho
noncomputable def noO2 (ρ : PEnv) : Prop := ∀ j, ¬ isO2 (get ρ j)
noncomputable def sMk2 (i : Nat) (v : PEnv → List PV) (k : PEnv → Prop) : SS := fun ρ Q => ∃ xss : List (List Int), k ρ ∧ v ρ = xss.map (fun xs => .lst (zs xs)) ∧ noO2 ρ ∧ Q .next (put ρ i (.own2 xss))
theorem rows_of : ∀ {xss : List (List Int)} {vs : List Value}, RepL h X (xss.map fun xs => .lst (zs xs)) vs → (∀ v ∈ vs, ∃ (a : Addr) (xs : Array Value), v = .ref a ∧ h''.get? a = none ∧ h.PlainList a xs) → ∃ as : List Addr, vs = as.map Value.ref ∧ Rows h xss as
  | [], vs, r, _ => by cases r; exact ⟨[], rfl, rfl⟩
  | xs :: xss, vs, r, k => by
    obtain ⟨v, ws, rfl, r1, r2⟩ := r
    obtain ⟨as, rfl, q⟩ := rows_of r2 fun v hv => k v (.tail _ hv)
    obtain ⟨a, us, rfl, ha, l, q1⟩ := r1
    obtain ⟨a', ys, e, _, n, ho⟩ := k _ (.head _)
    cases e
    obtain ⟨o, eo, _, m, hd⟩ := l
    rw [ho] at eo; cases eo
    have e : ys = us.toArray := by injection hd
    subst e
    exact ⟨a :: as, rfl, a, as, us, rfl, ⟨n, ho⟩, q1.ints, q⟩
/-- rows = [list(row) for row in ...] -/
theorem m_mk2 {elt target iter : PySem.Expr} {ifs : List PySem.Expr} {gs : List Comprehension} {scope : Scope} {cpos : Pos} {t : Tgt} {ids : List Nat} {fs f : PEnv → List PV} {c : PEnv → Bool} {ka kb kc : PEnv → Prop} (O : CompOkZ NewZ Γ sc scope elt target iter ifs gs t ids fs f c ka kb kc) (ht : IsTgt Γ sc x i) :
    GoodStm Γ sc false (.Assign [.Name x p] (.ListComp elt (⟨target, iter, ifs, 0⟩ :: gs) scope cpos) pos) (sMk2 i (compV Γ.nm scope t ids c fs f) (compK Γ.nm scope t ids c fs f ka kb kc)) := fun ρ Q A e h₀ X₀ X h ⟨xss, hk, hx, hno, hq⟩ S => by
  refine a_compZ newZ_ok O hk S ht fun dl vs h2 f1 pr pl r hz => ⟨.next, _, hq, ?_⟩
  rw [hx] at r
  obtain ⟨as, rfl, rows⟩ := rows_of r hz.2.1
  have hfr : ∀ b ∈ dl :: as, h.get? b = none ∧ ∃ xs, h2.PlainList b xs := fun b hb => by
    rcases List.mem_cons.mp hb with rfl | hb
    · exact ⟨f1, _, pl⟩
    · obtain ⟨a, xs, e, f, l⟩ := hz.2.1 (.ref b) (List.mem_map.mpr ⟨b, hb, rfl⟩)
      cases e; exact ⟨f, xs, l⟩
  have al : ∀ b ∈ dl :: as, ∃ o, h2.get? b = some o := fun b hb => let ⟨_, xs, n, ho⟩ := hfr b hb; ⟨_, ho⟩
  have z0 : ∀ b ∈ dl :: as, h₀.get? b = none := fun b hb => by
    cases w : h₀.get? b with
    | none => rfl
    | some o => have := S.xc.act.keep0 _ _ w; rw [(hfr b hb).1] at this; cases this
  have zX : ∀ b ∈ dl :: as, b ∉ X := fun b hb w => by obtain ⟨o, eo⟩ := S.xc.alloc b w; rw [(hfr b hb).1] at eo; cases eo
  have nd : (dl :: as).Nodup := by
    refine List.nodup_cons.mpr ⟨fun q => ?_, (List.pairwise_map.mp hz.2.2).imp fun q e => q (congrArg _ e)⟩
    obtain ⟨j, hj⟩ := List.mem_iff_getElem?.mp q
    have hlt : j < xss.length := by rw [← rows.length]; exact (List.getElem?_eq_some_iff.mp hj).1
    obtain ⟨b, us, e1, ⟨n, ho⟩, hin⟩ := rows.get (List.getElem?_eq_getElem hlt)
    rw [hj] at e1; cases e1
    obtain ⟨m, ho'⟩ := pl
    rw [ho] at ho'
    have e : us = as.map Value.ref := by
      have := congrArg (fun o => match o with | some (o : Obj) => (match o.data with | .seq xs _ => xs.toList | _ => []) | none => []) ho'
      simpa using this
    cases as with
    | nil => cases q
    | cons a as => rw [e] at hin; cases hin
  have hb : HoldsB ((dl :: as) ++ X) h2 (.own2 xss) (.ref dl) := ⟨dl, as, rfl, pl, rows⟩
  have xc := S.xc.put (X' := (dl :: as) ++ X) pr ht.i (b := .own2 xss) hb fun a q => (List.mem_append.mp q).elim (fun q => .inr ⟨(hfr a q).1, al a q⟩) .inl
  have hne : ∀ {y : Str} {j : Nat} {u : Value}, varOf Γ.nm y = some j → j ≠ i → Slot e y h2 u → Slot e y h u := fun h1 q h3 => pr.back _ _ (fun z => by subst z; rw [ht.i] at h1; cases h1; exact q rfl) h3
  have ownOld : ∀ {j : Nat} {ys : List PV}, get (put ρ i (.own2 xss)) j = .own ys → j ≠ i ∧ get ρ j = .own ys := fun {j ys} q => by
    rw [get_put] at q
    split at q
    · cases q
    · rename_i w; exact ⟨w, q⟩
  have own2i : ∀ {j : Nat} {ys : List (List Int)}, get (put ρ i (.own2 xss)) j = .own2 ys → j = i := fun {j ys} q => by
    rw [get_put] at q
    split at q
    · assumption
    · exact absurd (show isO2 (get ρ j) by rw [q]; trivial) (hno j)
  have S2 : ST Γ A e h₀ sc X₀ ((dl :: as) ++ X) (put ρ i (.own2 xss)) h2 := by
    refine { xc := xc, own1 := fun y j ys u h1 h2' h3 => ?_, own2 := fun y z j k ys zs a h1 h2' h3 h4 h5 h6 => ?_, sub := fun a q => List.mem_append_right _ (S.sub a q), own3 := ⟨fun y z j k _ _ _ _ h3 h4 => (own2i h3).trans (own2i h4).symm, fun y j ys u h1 h2' h3 => ?_⟩ }
    · obtain ⟨w, g⟩ := ownOld h2'
      obtain ⟨a, e1, e2, e3⟩ := S.own1 y j ys u h1 g (hne h1 w h3)
      exact ⟨a, e1, List.mem_append_right _ e2, e3⟩
    · obtain ⟨w, g⟩ := ownOld h3
      obtain ⟨w', g'⟩ := ownOld h4
      exact S.own2 y z j k ys zs a h1 h2' g g' (hne h1 w h5) (hne h2' w' h6)
    · have := own2i h2'
      subst this
      have := varOf_inj h1 ht.i
      subst this
      cases Slot.fun h3 pr.slot
      refine ⟨dl, as, rfl, pl, nd, fun b hb => ⟨List.mem_append_left _ hb, fun q => zX b hb (S.sub b q), z0 b hb, (hfr b hb).2, fun y' j' ys' q1 q2 q3 => ?_⟩⟩
      obtain ⟨w, g⟩ := ownOld q2
      obtain ⟨a, e1, e2, _⟩ := S.own1 y' j' ys' _ q1 g (hne q1 w q3)
      cases e1
      exact zX b hb e2
  exact ⟨pr.chg, pr.al, (dl :: as) ++ X, nofun, fun a q => (List.mem_append.mp q).elim (fun q => .inr (hfr a q).1) .inl, rfl, S2⟩
end

end
end Mine
namespace Mine
section
open PySem.Calls
section
variable {W : List Addr} {Γ : Fx} {h₀ : Heap} {A : Around} {sc : Scope} {e : Env} {ρ : PEnv} {X₀ X X' : List Addr} {h h' h'' : Heap} {st : Bool} {S : SS}
/-- iterators' places touched -/
theorem funFrames_touch {rb hs h h' : Heap} {W : List Addr} (k : Exa W h h') (hW : ∀ b ∈ W, hs.get? b = none) {l : List Env} (x : FF rb hs l) (y : FF rb h l) : FF rb h' l := fun env he => by
  obtain ⟨_, L', m', hf', _, o', es', ep', ho', _⟩ := x env he
  obtain ⟨hk, L, m, hf, hn, o, es, ep, ho, r⟩ := y env he
  rw [hf] at hf'; cases hf'
  exact ⟨hk, L', m, hf, hn, o, es, ep, k L' o (fun q => by rw [hW L' q] at ho'; cases ho') ho, r⟩
/-- the frames were there -/
noncomputable def Bel (C : Cx) (A : Around) (e : Env) (h : Heap) : Prop := ∃ outer, A.frames = some (e :: outer) ∧ FF C.rb h (e :: outer)
theorem ST.touch {Z₀ Z : List Addr} {hs : Heap} (bel : Bel Γ.C A e hs) (hWs : ∀ b ∈ W, hs.get? b = none) (S : ST Γ A e h₀ sc X₀ X ρ h) (k : Exa W h h') (hN : ∀ b ∈ W, NotL h b) (hW : ∀ b ∈ W, b ∈ X) (hL : e.locals ∉ W) (hc : ∀ y c, e.cells.lookup y = some c → c ∉ W) (hP : ∀ b ∈ W, b ∉ Γ.C.Ps) (h0 : ∀ b ∈ W, h₀.get? b = none)
    (hX : ∀ a ∈ Z, a ∈ X) (al : ∀ a ∈ Z, a ∈ W → ∃ o, h'.get? a = some o) (ow : ∀ a ∈ X, a ∉ X₀ → a ∈ Z) (hZ : ∀ a ∈ Z₀, a ∈ X₀) (hZ' : ∀ a ∈ Z₀, a ∈ Z) : ST Γ A e h₀ sc Z₀ Z ρ h' := by
  have kp : Kp X h h' := fun a o ha _ eb => k a o (fun q => ha (hW a q)) eb
  have lst : ∀ {a : Addr} {xs : Array Value}, h.PlainList a xs → a ∉ W := fun l q => by
    obtain ⟨j, ho⟩ := l
    obtain ⟨o, e1, e2, _⟩ := hN _ q
    rw [ho] at e1; cases e1
    exact e2 rfl
  have nsK : ∀ {mm : Str → Option Value}, h.Ns e.locals mm → h'.Ns e.locals mm := fun ⟨o, es, ep, e1, r⟩ => ⟨o, es, ep, k _ _ hL e1, r⟩
  have clK : ∀ {y : Str} {c : Addr} {w : Option Value}, e.cells.lookup y = some c → h.IsCell c w → h'.IsCell c w := fun l ⟨o, e1, r⟩ => ⟨o, k _ _ (hc _ _ l) e1, r⟩
  have slot : ∀ {y : Str} {u : Value}, Slot e y h u → Slot e y h' u := fun q => by
    rcases q with ⟨kk, mm, nn, em⟩ | ⟨kk, cc, l, ic⟩
    · exact .inl ⟨kk, mm, nsK nn, em⟩
    · exact .inr ⟨kk, cc, l, clK l ic⟩
  have back : ∀ {y : Str} {u : Value}, Slot e y h' u → Slot e y h u := fun q => by
    rcases q with ⟨kk, mm, nn, em⟩ | ⟨kk, cc, l, ic⟩
    · obtain ⟨m', n'⟩ := S.xc.en.loc
      cases Ns.fun nn (nsK n')
      exact .inl ⟨kk, mm, n', em⟩
    · obtain ⟨w, ic'⟩ := S.xc.en.cell _ cc l
      cases Cell.fun ic (clK l ic')
      exact .inr ⟨kk, cc, l, ic'⟩
  have tab : TabsOk Γ.C h' := ⟨fun t ht => by
    obtain ⟨ps, h1, h2⟩ := S.xc.act.tab.tabs t ht
    refine ⟨ps, k _ _ (fun q => hP _ q (List.mem_map.mpr ⟨t, ht, rfl⟩)) h1, h2.imp id ?_⟩
    rintro ⟨c', e', nc, c, o, vs, tk, ec, ho, hd, hv⟩
    cases ec
    refine ⟨c', e', nc, c', o, vs, tk, rfl, k _ _ (fun q => ?_) ho, hd, hv⟩
    obtain ⟨o', e1, _, e2⟩ := hN _ q
    rw [ho] at e1; cases e1
    exact e2 vs _ _ hd hv, fun b o eb => k b o (fun q => by rw [← S.xc.act.h0, h0 b q] at eb; cases eb) (S.xc.act.tab.base b o eb)⟩
  have fr : ∃ m, Fr h₀ e.locals h' m := let ⟨m₀, Fm⟩ := S.xc.act.fr; ⟨m₀, nsK Fm.ns, fun b o eb => k b o (fun q => by rw [h0 b q] at eb; cases eb) (Fm.keep b o eb), Fm.above⟩
  refine { xc := { act := { S.xc.act with fr := fr, tab := tab, bel := let ⟨out, e1, e2⟩ := S.xc.act.bel; let ⟨out', e1', e2'⟩ := bel; ⟨out, e1, funFrames_touch k hWs (by rw [e1] at e1'; cases e1'; exact e2') e2⟩ }, dep := S.xc.dep, unt := S.xc.unt, en := { S.xc.en with loc := let ⟨mm, nn⟩ := S.xc.en.loc; ⟨mm, nsK nn⟩, cell := fun y cc l => let ⟨w, ic⟩ := S.xc.en.cell y cc l; ⟨w, clK l ic⟩ }, vars := fun j y kd h2 h3 h4 h1 => ?_, alloc := fun a q => ?_, own0 := S.xc.own0 }, own1 := fun x i xs v h1 h2 h3 => ?_, own2 := fun x y i j xs ys a h1 h2 h3 h4 h5 h6 => S.own2 x y i j xs ys a h1 h2 h3 h4 (back h5) (back h6), sub := hZ', own3 := S.own3.move (fun _ _ q => q) (fun _ _ _ _ _ _ q => back q) (fun _ _ ys _ _ q q' => .inl ⟨ys, q, back q'⟩) fun _ _ q1 q2 _ q4 _ => ⟨ow _ q1 q2, fun z => q2 (hZ _ z), let ⟨j, ho⟩ := q4; ⟨j, k _ _ (lst ⟨j, ho⟩) ho⟩⟩ }
  · obtain ⟨u, sl, r⟩ := S.xc.vars j y kd h2 h3 h4 h1
    refine ⟨u, slot sl, HoldsB.avoid (fun a q => .inl (hX a q)) ?_⟩
    generalize get ρ j = b at r
    cases b with
    | undef => trivial
    | val _ => exact Rep.keep kp r
    | own2 _ =>
      obtain ⟨a', as, rfl, l, r⟩ := r
      exact ⟨a', as, rfl, (let ⟨jj, ho⟩ := l; ⟨jj, k _ _ (lst l) ho⟩), r.imp fun _ _ _ l => let ⟨jj, ho⟩ := l; ⟨jj, k _ _ (lst l) ho⟩⟩
    | own zs =>
      obtain ⟨a', ws, rfl, l, r⟩ := r
      exact ⟨a', ws, rfl, (let ⟨jj, ho⟩ := l; ⟨jj, k _ _ (lst l) ho⟩), r.keep kp⟩
  · by_cases z : a ∈ W
    · exact al a q z
    · exact k.some a z (S.xc.alloc a (hX a q))
  · obtain ⟨a, rfl, e2, e3, e4⟩ := S.own1 x i xs v h1 h2 (back h3)
    exact ⟨a, rfl, ow a e2 e3, fun q => e3 (hZ a q), e4⟩
theorem ST.grow (S : ST Γ A e h₀ sc X₀ X ρ h) {W : List Addr} (k : Ext Γ.C.Ps h h') (t : TabsOk Γ.C h') (hW : ∀ a ∈ W, h.get? a = none) (al : ∀ a ∈ W, ∃ o, h'.get? a = some o) : ST Γ A e h₀ sc (W ++ X₀) (W ++ X) ρ h' := by
  have S' := S.step k t
  refine { xc := { S'.xc with vars := fun i x kd h2 h3 h4 h1 => let ⟨u, sl, r⟩ := S.xc.vars i x kd h2 h3 h4 h1; ⟨u, sl.ext S.xc.act.tab k, (r.avoid fun a q => (List.mem_append.mp q).elim (fun z => .inr (hW a z)) .inl).ext S.xc.act.tab k⟩, alloc := fun a q => (List.mem_append.mp q).elim (al a) (S'.xc.alloc a) }, own1 := fun x i xs v h1 h2 h3 => ?_, own2 := S'.own2, sub := fun a q => ?_, own3 := S'.own3.move (fun _ _ q => q) (fun _ _ _ _ _ _ q => q) (fun _ _ ys _ _ q q' => .inl ⟨ys, q, q'⟩) fun b _ q1 q2 _ q4 _ => ⟨List.mem_append_right _ q1, fun z => (List.mem_append.mp z).elim (fun z => (by obtain ⟨o, eo⟩ := S.xc.alloc b q1; rw [hW b z] at eo; cases eo)) q2, q4⟩ }
  · obtain ⟨a, rfl, e2, e3, e4⟩ := S'.own1 x i xs v h1 h2 h3
    refine ⟨a, rfl, List.mem_append_right _ e2, fun q => ?_, e4⟩
    rcases List.mem_append.mp q with q | q
    · obtain ⟨o, eo⟩ := S.xc.alloc a e2
      rw [hW a q] at eo; cases eo
    · exact e3 q
  · rcases List.mem_append.mp q with q | q
    · exact List.mem_append_left _ q
    · exact List.mem_append_right _ (S.sub a q)
theorem Chg.kp {e₀ : Env} (c : XC Γ A e₀ h₀ sc e ρ X h) (ch : Chg Γ.C e X₀ X h h') : Kp X h h' := by
  intro b o hb sq eb
  obtain ⟨hc, xs, n, hd⟩ := sq
  refine ch.at (c.act.tab.notP eb (by rcases hc with q | q <;> rw [q] <;> nofun)) (fun q => ?_) (fun y cc l q => ?_) (.inl hb) eb fun _ _ q => by rw [hd] at q; cases q
  · obtain ⟨m, o2, es2, ep2, z1, z2, _⟩ := c.en.loc
    rw [← q, eb] at z1; cases z1
    rw [z2] at hd; cases hd
  · obtain ⟨w, oc, e1, e2⟩ := c.en.cell y cc l
    rw [← q, eb] at e1; cases e1
    rw [e2] at hd; cases hd
/-- a target set -/
theorem target_ok (S : ST Γ A e h₀ sc X₀ X ρ h) {ex : PySem.Expr} {t : Tgt} {pv : PV} {v : Value} (ht : TgtOk Γ sc ex t) (hb : kbind t pv) (r : Rep h X pv v) : WU Γ.C A (assign ex e v) h fun _ h' => Sto Γ A sc e h₀ X₀ X h (bindT t pv ρ) h' := fun s tk => by
  cases ht with
  | one hx => exact wpAny_assign_Name ((put_ok S.xc hx).go fun _ h1 tk1 pr => ⟨h1, tk1, rfl, pr.chg, pr.al, S.putV pr hx.i (r.keep (pr.kp S.xc.act.tab X))⟩)
  | many hx =>
    rw [hb.1.eq] at r
    obtain ⟨a, vs, rfl, ha, hT, hr⟩ := r
    obtain ⟨l1, l2, l3⟩ := hx.each (cenv := e)
    have O := puts_ok (A := A) (e := e) hx (ρ := ρ) hb.2
    refine wpAny_assign_Tuple S.xc.act.hh hT (by rw [l1, l2, hb.2, ← hr.length]; simp) l3 fun h1 k1 => ?_
    have k1' : ∀ b o, h.get? b = some o → h1.get? b = some o := fun b o e => k1 b o (Nat.ne_of_lt (Heap.lt_size e)) e
    rw [← O.at']
    exact (assigns_ok O.aw O.an' (by rw [O.av]; exact hr.keep fun _ _ _ _ e => k1' _ _ e) (S.step (.of_keep k1') (S.xc.act.tab.keeps k1'))).go fun _ h2 tk2 y => ⟨h2, tk2, rfl, (Chg.of_ext (.of_keep k1')).trans (fun _ => .inl) y.1, fun b q => y.2.1 b (let ⟨o, eo⟩ := q; ⟨o, k1' _ _ eo⟩), (show ST Γ A e h₀ sc X₀ X (puts ρ _ (asT pv)) h2 by rw [O.ae]; exact y.2.2)⟩

noncomputable def fe (t : Tgt) (S : SS) : List PV → SS
  | [], ρ, Q => Q .next ρ
  | x :: xs, ρ, Q => kbind t x ∧ S (bindT t x ρ) (onNext (fun ρ => fe t S xs ρ Q) Q)
noncomputable def sFor (t : Tgt) (fs : PEnv → List PV) (k : PEnv → Prop) (S : SS) : SS := fun ρ Q => k ρ ∧ fe t S (fs ρ) ρ Q
/-- an iterator's places beside the frame's -/
structure AptF (Γ : Fx) (A : Around) (e : Env) (h₀ : Heap) (X₀ X : List Addr) (hs : Heap) (fp wr : List Addr) : Prop where
  qf : ∀ b ∈ fp, b ∉ Γ.C.Ps ∧ b ≠ e.locals ∧ (∀ y c, e.cells.lookup y = some c → b ≠ c) ∧ (b ∉ wr ++ X ∨ b ∈ wr ++ X₀)
  qw : ∀ b ∈ wr, hs.get? b = none ∧ h₀.get? b = none
  al : ∀ a ∈ X, ∃ o, hs.get? a = some o
  sub : ∀ a ∈ X₀, a ∈ X
  bel : Bel Γ.C A e hs
/-- what holds between two turns -/
structure FSt (Γ : Fx) (A : Around) (sc : Scope) (e : Env) (h₀ : Heap) (X₀ X wr : List Addr) (hs : Heap) (ρ : PEnv) (H : Heap) : Prop where
  st : ST Γ A e h₀ sc (wr ++ X₀) (wr ++ X) ρ H
  ch : Chg Γ.C e X₀ X hs H
  al : ∀ a, (∃ o, hs.get? a = some o) → ∃ o, H.get? a = some o
section
variable {target : PySem.Expr} {t : Tgt} {it : Value} {fp wr : List Addr} {St : Nat → Heap → Prop} {all : List PV} {hs H H1 : Heap}
theorem chg_more (Q : AptF Γ A e h₀ X₀ X hs fp wr) (a : Chg Γ.C e X₀ X hs H) (c : Chg Γ.C e (wr ++ X₀) (wr ++ X) H H1) : Chg Γ.C e X₀ X hs H1 := fun b o p q r w eb => (let ⟨_, e1, e2⟩ := a b o p q r w eb; let ⟨sl2, e3, e4⟩ := c b _ p q r (w.elim (fun w => .inl fun z => (List.mem_append.mp z).elim (fun z => by rw [(Q.qw b z).1] at eb; cases eb) w) fun w => .inr (List.mem_append_right _ w)) e1; ⟨sl2, e3, fun hc => (e4 hc).trans (e2 hc)⟩)
theorem FSt.more (Q : AptF Γ A e h₀ X₀ X hs fp wr) (L : FSt Γ A sc e h₀ X₀ X wr hs ρ H) {ρ₂ : PEnv} (c : Chg Γ.C e (wr ++ X₀) (wr ++ X) H H1) (al : ∀ a, (∃ o, H.get? a = some o) → ∃ o, H1.get? a = some o) (S : ST Γ A e h₀ sc (wr ++ X₀) (wr ++ X) ρ₂ H1) : FSt Γ A sc e h₀ X₀ X wr hs ρ₂ H1 :=
  ⟨S, chg_more Q L.ch c, fun a q => al a (L.al a q)⟩
theorem pull_chg (P : Pull Γ.C A (wr ++ X) target it all fp wr St) (Q : AptF Γ A e h₀ X₀ X hs fp wr) (c : Chg Γ.C e X₀ X hs H) (k : Exa wr H H1) : Chg Γ.C e X₀ X hs H1 := fun b o p q r w eb => let ⟨sl, e1, e2⟩ := c b o p q r w eb; ⟨sl, k b _ (fun z => by rw [(Q.qw b z).1] at eb; cases eb) e1, e2⟩
/-- a for's turns -/
theorem each_ok {Z : Flow → Heap → Prop} (hZ : ∀ f h, Z f h → ∃ v, f = .ret v) {body : List Stmt} (ht : TgtOk Γ sc target t) (hb : GoodZ Γ sc Z true (execs body) S) (P : Pull Γ.C A (wr ++ X) target it all fp wr St) (Q : AptF Γ A e h₀ X₀ X hs fp wr) {s : Shared} {err : Value → Shared → Prop} {R : Fl → PEnv → Prop} :
    ∀ (xs : List PV) (i : Nat) (ρ : PEnv) (H : Heap) (tk : Nat), all.drop i = xs → i ≤ all.length → fe t S xs ρ R → St i H → FSt Γ A sc e h₀ X₀ X wr hs ρ H →
      codeAny Γ.C.M A (.forLoop target it body [] e) (okF (fun f s' => ∃ h' tk', s' = Sh s h' tk' ∧ (Out Γ A sc e h₀ X₀ X true hs R f h' ∨ Z f h')) err) (Sh s H tk) := fun xs => by
  have wf : (e.locals ∉ wr) ∧ (∀ y c, e.cells.lookup y = some c → c ∉ wr) ∧ (∀ b ∈ wr, b ∉ Γ.C.Ps) := ⟨fun q => (Q.qf _ (P.sub _ q)).2.1 rfl, fun y c l q => (Q.qf _ (P.sub _ q)).2.2.1 y c l rfl, fun b q => (Q.qf b (P.sub b q)).1⟩
  have alK : ∀ {H H1}, (∀ a, (∃ o, hs.get? a = some o) → ∃ o, H.get? a = some o) → Exa wr H H1 → ∀ a, (∃ o, hs.get? a = some o) → ∃ o, H1.get? a = some o := fun al k a q => by
    obtain ⟨o, eo⟩ := al a q
    exact ⟨o, k a o (fun z => by obtain ⟨o', e'⟩ := q; rw [(Q.qw a z).1] at e'; cases e') eo⟩
  induction xs with
  | nil =>
    intro i ρ H tk hd hi hr st L
    have hie : i = all.length := Nat.le_antisymm hi (List.drop_eq_nil_iff.mp hd)
    subst hie
    refine codeAny_of_tree ?_
    show wpAny _ A ((forTurn target it body [] e).onRaise (fun x => do noteFrame x e; theTreesLotGoes x)) _ _ _
    refine wpAny_noted ?_
    unfold forTurn
    refine wpAny_bind (wpAny_standAt (wpAny_bind (wpAny_onRaise ?_)))
    refine wpAny_mono (P.done (Sh s H tk) st) (fun rr s1 y => ?_) fun _ _ f => f.elim
    obtain ⟨rfl, H1, tk1, rfl, k1⟩ := y
    have notwr : ∀ a ∈ X, a ∉ wr := fun a q z => by obtain ⟨o, eo⟩ := Q.al a q; rw [(Q.qw a z).1] at eo; cases eo
    have S1 : ST Γ A e h₀ sc X₀ X ρ H1 := ST.touch Q.bel (fun b q => (Q.qw b q).1) L.st k1 (P.apart _ H st) (fun b q => List.mem_append_left _ q) wf.1 wf.2.1 wf.2.2 (fun b q => (Q.qw b q).2) (fun a q => List.mem_append_right _ q) (fun a q z => absurd z (notwr a q))
      (fun a q q' => (List.mem_append.mp q).elim (fun z => absurd (List.mem_append_left _ z) q') id) (fun a q => List.mem_append_right _ q) Q.sub
    exact wpAny_pure ⟨rfl, codeAny_block (wpAny_execs_nil ⟨H1, tk1, rfl, .inl ⟨.next, ρ, hr, pull_chg P Q L.ch k1, alK L.al k1, X, fun _ => rfl, fun _ => .inl, rfl, S1⟩⟩)⟩
  | cons x xs ih =>
    intro i ρ H tk hd hi hr st L
    have hlt : i < all.length := Nat.lt_of_not_le fun q => by rw [List.drop_eq_nil_of_le q] at hd; cases hd
    rw [List.drop_eq_getElem_cons hlt] at hd
    have hx : all[i]? = some x := by rw [List.getElem?_eq_getElem hlt, (List.cons.inj hd).1]
    refine codeAny_of_tree ?_
    show wpAny _ A ((forTurn target it body [] e).onRaise (fun x => do noteFrame x e; theTreesLotGoes x)) _ _ _
    refine wpAny_noted ?_
    unfold forTurn
    refine wpAny_bind (wpAny_standAt (wpAny_bind (wpAny_onRaise ?_)))
    refine wpAny_mono (P.item i x (Sh s H tk) hx st L.st.xc.alloc) (fun rr s1 y => ?_) fun _ _ f => f.elim
    obtain ⟨v, rfl, y⟩ := y
    refine wpAny_bind (wpAny_mono y (fun _ s2 y => ?_) fun _ _ f => f.elim)
    obtain ⟨H1, tk1, rfl, k1, st1, r1⟩ := y
    have L1 : FSt Γ A sc e h₀ X₀ X wr hs ρ H1 := ⟨ST.touch Q.bel (fun b q => (Q.qw b q).1) L.st k1 (P.apart i H st) (fun b q => List.mem_append_left _ q) wf.1 wf.2.1 wf.2.2 (fun b q => (Q.qw b q).2) (fun _ q => q) (fun a _ q => let ⟨o, e, _⟩ := P.apart _ _ st1 a q; ⟨o, e⟩) (fun a q _ => q) (fun _ q => q) L.st.sub, pull_chg P Q L.ch k1, alK L.al k1⟩
    refine wpAny_bind ((target_ok L1.st ht hr.1 r1).go fun _ H2 tk2 y2 => ?_)
    have L2 := L1.more Q y2.1 y2.2.1 y2.2.2
    have st2 := P.frame _ _ _ st1 (fun b hb o eb f => y2.1.at (Q.qf b hb).1 (Q.qf b hb).2.1 (Q.qf b hb).2.2.1 (Q.qf b hb).2.2.2 eb f) (y2.1.kp L1.st.xc)
    refine wpAny_bind ((hb _ _ A e h₀ (wr ++ X₀) (wr ++ X) H2 hr.2 L2.st).go fun f H3 tk3 y3 => ?_)
    rcases y3 with ⟨fl, ρ3, q3, P3⟩ | z3
    case inr =>
      obtain ⟨u, rfl⟩ := hZ _ _ z3
      exact wpAny_pure ⟨H3, tk3, rfl, .inr z3⟩
    obtain ⟨X3, x1, _, en⟩ := P3.ends
    have := x1 rfl
    subst this
    cases fl with
    | next =>
      obtain ⟨rfl, S3⟩ := en
      have st3 := P.frame _ _ _ st2 (fun b hb o eb f => P3.ch.at (Q.qf b hb).1 (Q.qf b hb).2.1 (Q.qf b hb).2.2.1 (Q.qf b hb).2.2.2 eb f) (P3.ch.kp L2.st.xc)
      exact wpAny_pure ⟨rfl, ih (i + 1) ρ3 H3 tk3 (List.cons.inj hd).2 hlt q3 st3 (L2.more Q P3.ch P3.al S3)⟩
    | ret pv =>
      obtain ⟨u, rfl, rv, act⟩ := en
      have L3 : Chg Γ.C e X₀ X hs H3 := chg_more Q L2.ch P3.ch
      exact wpAny_pure ⟨H3, tk3, rfl, .inl ⟨.ret pv, ρ3, q3, L3, fun a q => P3.al a (L2.al a q), X, fun _ => rfl, fun _ => .inl, u, rfl, rv.sub fun a q => List.mem_append_right _ q, act⟩⟩
end
theorem z_for {Z : Flow → Heap → Prop} (hZ : ∀ f h, Z f h → ∃ v, f = .ret v) {target iter : PySem.Expr} {t : Tgt} {pos : Pos} {body : List Stmt} {fs : PEnv → List PV} {k : PEnv → Prop} (hns : noSet iter = true) (ht : TgtOk Γ sc target t) (hs : GoodS Γ sc t.isOne iter fs k) (hb : GoodZ Γ sc Z true (execs body) S) : GoodZ Γ sc Z true (exec (.For target iter body [] pos)) (sFor t fs k S) := by
  intro ρ R A e h₀ X₀ X h hq T s tk
  have c := T.xc
  refine wpAny_For (wpAny_mono (hs ρ A e h₀ e X h target ht.kind hq.1 c s tk) (fun x s1 y => wpAny_mono y (fun itv s2 y => ?_) fun _ _ f => f.elim) fun _ _ f => f.elim) (fun x => noSet_ok hns x)
  obtain ⟨h1, tk1, rfl, k1, t1, fp, wr, L, P⟩ := y
  obtain ⟨St, P, st0⟩ := P [] fun _ q => nomatch q
  rw [List.nil_append] at P
  obtain ⟨l1, l2, l3⟩ := id L
  have fr0 : ∀ b, h.get? b = none → b ∉ Γ.C.Ps ∧ b ≠ e.locals ∧ (∀ y cc, e.cells.lookup y = some cc → b ≠ cc) ∧ b ∉ X := fun b eb => by
    refine ⟨fun q => ?_, fun q => ?_, fun y cc l q => ?_, fun q => ?_⟩
    · obtain ⟨ps, e'⟩ := c.act.tab.obj q; rw [eb] at e'; cases e'
    · obtain ⟨m, o2, es2, ep2, z1, _⟩ := c.en.loc; rw [← q, eb] at z1; cases z1
    · obtain ⟨w, oc, z, _⟩ := c.en.cell y cc l; rw [← q, eb] at z; cases z
    · obtain ⟨o, eo⟩ := c.alloc b q; rw [eb] at eo; cases eo
  have Q : AptF Γ A e h₀ X₀ X h fp wr :=
    { qf := fun b hb => by
        have tail : b ∉ X → (b ∉ wr ++ X ∨ b ∈ wr ++ X₀) := fun z => by
          by_cases q : b ∈ wr
          · exact .inr (List.mem_append_left _ q)
          · exact .inl fun w => (List.mem_append.mp w).elim q z
        rcases l3 b hb with q | ⟨q1, o, q2, q3⟩ | q
        · have := fr0 b (l1 b q); exact ⟨this.1, this.2.1, this.2.2.1, tail this.2.2.2⟩
        · obtain ⟨hcl, xs', nn, hd⟩ := q3
          refine ⟨t1.notP q2 (by rcases hcl with q | q <;> rw [q] <;> nofun), fun q => ?_, fun y cc l q => ?_, tail q1⟩
          · obtain ⟨m, nsm⟩ := c.en.loc
            obtain ⟨o2, es2, ep2, z1, z2, _⟩ := Ns.ext c.act.tab k1 nsm
            rw [← q, q2] at z1; cases z1
            rw [z2] at hd; cases hd
          · obtain ⟨w, cl⟩ := c.en.cell y cc l
            obtain ⟨oc, e1, e2⟩ := Cell.ext c.act.tab k1 cl
            rw [← q, q2] at e1; cases e1
            rw [e2] at hd; cases hd
        · have := fr0 b q; exact ⟨this.1, this.2.1, this.2.2.1, tail this.2.2.2⟩
      qw := fun b q => ⟨l1 b q, by
        cases w : h₀.get? b with
        | none => rfl
        | some o => have := c.act.keep0 _ _ w; rw [l1 b q] at this; cases this⟩
      al := c.alloc
      sub := T.sub
      bel := c.act.bel }
  refine codeAny_mono (each_ok (err := cameBackBy Γ.C.M A e never) hZ ht hb P Q _ 0 ρ h1 tk1 rfl (Nat.zero_le _) hq.2 st0 ⟨T.grow k1 t1 l1 fun a q => l2 a (P.sub a q), .of_ext k1, al_ext k1 t1⟩) fun rr s' y => ?_
  cases rr with
  | ok f => exact y
  | error x => exact y
theorem m_for {target iter : PySem.Expr} {t : Tgt} {pos : Pos} {body : List Stmt} {fs : PEnv → List PV} {k : PEnv → Prop} (hns : noSet iter = true) (ht : TgtOk Γ sc target t) (hs : GoodS Γ sc t.isOne iter fs k) (hb : GoodStms Γ sc true body S) : GoodStm Γ sc true (.For target iter body [] pos) (sFor t fs k S) := fun ρ Q A e h₀ X₀ X h hq T =>
  (z_for (Z := fun _ _ => False) (fun _ _ => False.elim) hns ht hs hb.z ρ Q A e h₀ X₀ X h hq T).imp fun _ _ y => y.elim id False.elim
end

end
end Mine
namespace Mine
section
open PySem.Calls
set_option backward.match.sparseCases false
/-- the built-ins that are known -/
inductive Bi where
  | no | abs | max | sum | divmod | len | range | reversed | str | zde | list | enumerate
noncomputable def biVal : Bi → Option Value
  | .no => none
  | .abs => some (.builtin "abs")
  | .max => some (.builtin "max")
  | .sum => some (.builtin "sum")
  | .divmod => some (.builtin "divmod")
  | .len => some (.builtin "len")
  | .range => some (.type "range")
  | .reversed => some (.type "reversed")
  | .str => some (.type "str")
  | .zde => some (.type "ZeroDivisionError")
  | .list => some (.type "list")
  | .enumerate => some (.type "enumerate")
/-- what a global name is -/
inductive GKind where
  | no | bi (b : Bi) | fn (a : Addr) | int (n : Int) (t : Tok) | rows
noncomputable def gVal : GKind → Option Value
  | .bi b => biVal b
  | .fn a => some (.ref a)
  | .int n t => some (.int n t)
  | _ => none
noncomputable section
variable (Γ : Fx) (g : Str → GKind)
structure Den (sc : Scope) (e : PySem.Expr) where
  nw : Bool
  v : PEnv → PV
  k : PEnv → Prop
  hv : Good Γ sc e nw v k
  ha : GoodA Γ sc e nw v k
  t : PEnv → Bool
  kt : PEnv → Prop
  ht : GoodT Γ sc e t kt
  b : PEnv → Bool × List PV
  kb : PEnv → Prop
  hb : GoodB Γ sc e b kb
  ns : noStar e
structure LDen (sc : Scope) (es : List PySem.Expr) where
  vs : PEnv → List PV
  k : PEnv → Prop
  h : GoodL Γ sc es vs k
structure ODen (sc : Scope) (es : List PySem.Expr) where
  t : PEnv → Bool
  k : PEnv → Prop
  h : GoodO es t k Γ sc
structure CDen (sc : Scope) (es : List PySem.Expr) where
  c : PEnv → Bool
  k : PEnv → Prop
  h : GoodC Γ sc es c k
structure PDen (sc : Scope) (e : Option PySem.Expr) where
  f : PEnv → Option Int
  k : PEnv → Prop
  h : GoodP e f k Γ sc
structure RDen (sc : Scope) (one : Bool) (e : PySem.Expr) where
  f : PEnv → List PV
  k : PEnv → Prop
  h : GoodS Γ sc one e f k
structure IDen (scope : Scope) (elt : PySem.Expr) (gens : List Comprehension) (d : Nat) where
  ids : List Nat
  f : PEnv → List PV
  k : PEnv → Prop
  h : GIn Γ scope elt gens d ids f k
structure TDen (sc : Scope) (e : PySem.Expr) where
  t : Tgt
  h : TgtOk Γ sc e t
structure NDen (sc : Scope) (es : List PySem.Expr) where
  t : PEnv → Bool
  k : PEnv → Prop
  h : GoodAnd es t k Γ sc
variable {Γ}
noncomputable def Den.ofVal {sc : Scope} {e : PySem.Expr} {nw : Bool} {v : PEnv → PV} {k : PEnv → Prop} (hv : Good Γ sc e nw v k) (tp : isTruePlain e) (sw : ∀ x p l env, swapsWith e (some (.Name x p)) l env = pure false) (ns : noStar e) : Den Γ sc e :=
  { nw := nw, v := v, k := k, hv := hv, ha := a_val sw hv, t := fun ρ => tv (v ρ), kt := fun ρ => k ρ ∧ tk (v ρ), ht := t_val tp hv, b := fun ρ => seqV (v ρ), kb := fun ρ => k ρ ∧ isS (v ρ), hb := b_val hv, ns := ns }
theorem t_or {sc : Scope} {es : List PySem.Expr} {p : Pos} {t : PEnv → Bool} {k : PEnv → Prop} (h : GoodO es t k Γ sc) : GoodT Γ sc (.BoolOp .Or es p) t k := fun ρ A e₀ h₀ env X h' q x s tk => wpAny_isTrue_BoolOp (h ρ A e₀ h₀ env X h' q x s tk)
variable (Γ)
noncomputable def isVar? (sc : Scope) (x : Str) : Option {i : Nat // IsVar Γ sc x i} :=
  if hx : okName x = true then (match hk : sc.names.lookup x with
    | some k => if hv : vis k = true then (match hi : varOf Γ.nm x with
      | some i => some ⟨i, hx, ⟨k, hk, hv⟩, hi⟩
      | none => none) else none
    | none => none) else none
noncomputable def isTgt? (sc : Scope) (x : Str) : Option {i : Nat // IsTgt Γ sc x i} :=
  if hx : okName x = true then (match hi : varOf Γ.nm x with
    | some i => if h1 : sc.names.lookup x = some .local then some ⟨i, ⟨_, h1, .inl rfl⟩, hi, hx⟩ else if h2 : sc.names.lookup x = some .cell then some ⟨i, ⟨_, h2, .inr rfl⟩, hi, hx⟩ else none
    | none => none) else none
noncomputable def areTgt? (sc : Scope) : (es : List PySem.Expr) → Option {is : List Nat // AreTgt Γ sc es is}
  | [] => some ⟨[], .nil⟩
  | .Name x _ :: es => (isTgt? Γ sc x).bind fun i => (areTgt? sc es).map fun is => ⟨i.1 :: is.1, .cons i.2 is.2⟩
  | _ :: _ => none
noncomputable def tgt? (sc : Scope) : (e : PySem.Expr) → Option (TDen Γ sc e)
  | .Name x _ => (isTgt? Γ sc x).map fun i => ⟨.one i.1, .one i.2⟩
  | .Tuple es _ _ => (areTgt? Γ sc es).map fun is => ⟨.many is.1, .many is.2⟩
  | _ => none
variable (hg : ∀ x v, gVal (g x) = some v → Γ.G x = some v)
include hg
noncomputable def isBi? (sc : Scope) (x : Str) : Option {b : Bi // ∀ v, biVal b = some v → IsGlob Γ sc x v} :=
  if hx : okName x = true then (if hk : sc.names.lookup x = some .globalImplicit then (match hb : g x with
    | .bi b => some ⟨b, fun v e => ⟨hx, hk, hg x v (by rw [hb]; exact e)⟩⟩
    | _ => none) else none) else none
omit hg
variable (c : (sc : Scope) → (e : PySem.Expr) → Option (Den Γ sc e))
noncomputable def compL (sc : Scope) : (es : List PySem.Expr) → Option (LDen Γ sc es)
  | [] => some ⟨_, _, l_nil⟩
  | e :: es => (c sc e).bind fun a => (compL sc es).map fun b => ⟨_, _, l_cons a.ns a.hv b.h⟩
noncomputable def compO (sc : Scope) : (es : List PySem.Expr) → Option (ODen Γ sc es)
  | [] => some ⟨_, _, o_nil⟩
  | e :: es => (c sc e).bind fun a => (compO sc es).map fun b => ⟨_, _, o_cons a.ht b.h⟩
noncomputable def compN (sc : Scope) : (es : List PySem.Expr) → Option (NDen Γ sc es)
  | [] => some ⟨_, _, nd_nil⟩
  | e :: es => (c sc e).bind fun a => (compN sc es).map fun b => ⟨_, _, nd_cons a.ht b.h⟩
noncomputable def compC (sc : Scope) : (es : List PySem.Expr) → Option (CDen Γ sc es)
  | [] => some ⟨_, _, c_nil⟩
  | e :: es => (c sc e).bind fun a => (compC sc es).map fun b => ⟨_, _, c_cons a.ht b.h⟩
noncomputable def compP (sc : Scope) : (e : Option PySem.Expr) → Option (PDen Γ sc e)
  | none => some ⟨_, _, p_none⟩
  | some e => (c sc e).map fun a => ⟨_, _, p_some a.hv⟩
include hg
noncomputable def compR (sc : Scope) (one : Bool) : (e : PySem.Expr) → Option (RDen Γ sc one e)
  | .Call (.Name x p) [a] [] pos => match one, isBi? Γ g hg sc x with
    | true, some ⟨.range, h⟩ => (c sc a).map fun a => ⟨_, _, s_range (h _ rfl) a.ns a.hv⟩
    | true, some ⟨.reversed, h⟩ => (c sc a).map fun a => ⟨_, _, s_reversed (h _ rfl) a.ns a.hv⟩
    | false, some ⟨.enumerate, h⟩ => (c sc a).map fun a => ⟨_, _, s_enum (h _ rfl) a.ns a.hv⟩
    | one, _ => (c sc (.Call (.Name x p) [a] [] pos)).map fun a => ⟨_, _, s_val (one := one) a.hv⟩
  | .Call (.Name x p) [a, b] [] pos => match one, isBi? Γ g hg sc x with
    | true, some ⟨.range, h⟩ => (c sc a).bind fun a => (c sc b).map fun b => ⟨_, _, s_range2 (h _ rfl) a.ns b.ns a.hv b.hv⟩
    | one, _ => (c sc (.Call (.Name x p) [a, b] [] pos)).map fun a => ⟨_, _, s_val (one := one) a.hv⟩
  | e => (c sc e).map fun a => ⟨_, _, s_val a.hv⟩
noncomputable def compI (scope : Scope) (elt : PySem.Expr) (gens : List Comprehension) : (n d : Nat) → Option (IDen Γ scope elt gens d)
  | 0, _ => none
  | n + 1, d => match hd : gens[d]? with
    | none => (c scope elt).map fun a => ⟨_, _, _, i_last hd a.hv⟩
    | some ⟨target, iter, ifs, 0⟩ => if hn : noSet iter = true then (tgt? Γ scope target).bind fun t => (compR Γ g hg c scope t.t.isOne iter).bind fun r => (compC Γ c scope ifs).bind fun q => (compI scope elt gens n (d + 1)).map fun i => ⟨_, _, _, i_more hd hn t.h r.h q.h i.h⟩ else none
    | some _ => none
omit hg in
noncomputable def mkLC {sc scope : Scope} {elt target iter : PySem.Expr} {ifs : List PySem.Expr} {gs : List Comprehension} {pos : Pos} (t : TDen Γ scope target) (r : RDen Γ sc t.t.isOne iter) (q : CDen Γ scope ifs) (i : IDen Γ scope elt (⟨target, iter, ifs, 0⟩ :: gs) 1) (O : CompOk Γ sc scope elt target iter ifs gs t.t i.ids r.f i.f q.c r.k i.k q.k) : Den Γ sc (.ListComp elt (⟨target, iter, ifs, 0⟩ :: gs) scope pos) :=
  { nw := true, v := _, k := _, hv := g_comp O, ha := a_comp O, t := _, kt := _, ht := t_val (fun _ => rfl) (g_comp O), b := _, kb := _, hb := b_val (g_comp O), ns := nofun }
noncomputable def compLC (sc scope : Scope) (elt target iter : PySem.Expr) (ifs : List PySem.Expr) (gs : List Comprehension) (pos : Pos) : Option (Den Γ sc (.ListComp elt (⟨target, iter, ifs, 0⟩ :: gs) scope pos)) :=
  if ho : okScope sc scope = true then (if hn : noSet iter = true then
      (tgt? Γ scope target).bind fun t => (compR Γ g hg c sc t.t.isOne iter).bind fun r => (compC Γ c scope ifs).bind fun q => (compI Γ g hg c scope elt (⟨target, iter, ifs, 0⟩ :: gs) 30 1).map fun i => mkLC Γ t r q i ⟨ho, hn, t.h, r.h, q.h, i.h⟩ else none) else none
noncomputable def compBit (sc : Scope) (e : PySem.Expr) (hb : ∀ env, attributeBase e (Str.ofString "bit_length") env (eval e env) = eval e env) (n : Str) (ap p : Pos) : Option (Den Γ sc (.Call (.Attribute e n ap) [] [] p)) :=
  if hn : n = Str.ofString "bit_length" then (if hl : (ap.endLine == p.line) = true then ((c sc e).map fun a => .ofVal (hn ▸ g_bits hl hb a.hv) (fun _ => rfl) (fun _ _ _ _ => rfl) nofun) else none) else none
omit hg in
noncomputable def compLen (sc : Scope) (x : Str) (p pos : Pos) (h : ∀ v, biVal .len = some v → IsGlob Γ sc x v) : (a : PySem.Expr) → Option (Den Γ sc (.Call (.Name x p) [a] [] pos))
  | .Name y q => match g y, isVar? Γ sc y with
    | .rows, some i => some (.ofVal (g_len2 (h _ rfl) i.2) (fun _ => rfl) (fun _ _ _ _ => rfl) nofun)
    | _, _ => (c sc (.Name y q)).map fun a => .ofVal (g_len (h _ rfl) a.ns a.hb) (fun _ => rfl) (fun _ _ _ _ => rfl) nofun
  | a => (c sc a).map fun a => .ofVal (g_len (h _ rfl) a.ns a.hb) (fun _ => rfl) (fun _ _ _ _ => rfl) nofun
omit hg in
noncomputable def compItem (sc : Scope) (i : PySem.Expr) (p : Pos) : (v : PySem.Expr) → Option (Den Γ sc (.Subscript v i p))
  | .Name y q => match g y, isVar? Γ sc y with
    | .rows, some j => (c sc i).map fun b =>
      { nw := false, v := fun _ => .none, k := fun _ => False, hv := fun _ _ _ _ _ _ _ q => q.elim, ha := fun _ _ _ _ _ _ _ _ _ _ _ _ q => q.elim, t := fun _ => false, kt := fun _ => False, ht := fun _ _ _ _ _ _ _ q => q.elim, b := _, kb := _, hb := b_row j.2 b.hv, ns := nofun }
    | _, _ => (c sc (.Name y q)).bind fun a => (c sc i).map fun b => .ofVal (g_item a.hb b.hv) (fun _ => rfl) (fun _ _ _ _ => rfl) nofun
  | v => (c sc v).bind fun a => (c sc i).map fun b => .ofVal (g_item a.hb b.hv) (fun _ => rfl) (fun _ _ _ _ => rfl) nofun
noncomputable def compCall (sc : Scope) (x : Str) (p pos : Pos) : (es : List PySem.Expr) → Option (Den Γ sc (.Call (.Name x p) es [] pos))
  | [a] => match isBi? Γ g hg sc x with
    | some ⟨.abs, h⟩ => (c sc a).map fun a => .ofVal (g_abs (h _ rfl) a.ns a.hv) (fun _ => rfl) (fun _ _ _ _ => rfl) nofun
    | some ⟨.sum, h⟩ => (c sc a).map fun a => .ofVal (g_sum (h _ rfl) a.ns a.hv) (fun _ => rfl) (fun _ _ _ _ => rfl) nofun
    | some ⟨.max, h⟩ => (c sc a).map fun a => .ofVal (g_max1 (h _ rfl) a.ns a.hv) (fun _ => rfl) (fun _ _ _ _ => rfl) nofun
    | some ⟨.list, h⟩ => (c sc a).map fun a => .ofVal (g_listS (h _ rfl) a.ns a.hb) (fun _ => rfl) (fun _ _ _ _ => rfl) nofun
    | some ⟨.len, h⟩ => compLen Γ g c sc x p pos h a
    | _ => (c sc (.Name x p)).bind fun f => (compL Γ c sc [a]).map fun l => .ofVal (g_call f.hv l.h) (fun _ => rfl) (fun _ _ _ _ => rfl) nofun
  | [a, b] => match isBi? Γ g hg sc x with
    | some ⟨.max, h⟩ => (c sc a).bind fun a => (c sc b).map fun b => .ofVal (g_max2 (h _ rfl) a.ns b.ns a.hv b.hv) (fun _ => rfl) (fun _ _ _ _ => rfl) nofun
    | some ⟨.divmod, h⟩ => (c sc a).bind fun a => (c sc b).map fun b => .ofVal (g_divmod (h _ rfl) a.ns b.ns a.hv b.hv) (fun _ => rfl) (fun _ _ _ _ => rfl) nofun
    | _ => (c sc (.Name x p)).bind fun f => (compL Γ c sc [a, b]).map fun l => .ofVal (g_call f.hv l.h) (fun _ => rfl) (fun _ _ _ _ => rfl) nofun
  | es => (c sc (.Name x p)).bind fun f => (compL Γ c sc es).map fun l => .ofVal (g_call f.hv l.h) (fun _ => rfl) (fun _ _ _ _ => rfl) nofun
noncomputable def compList (sc : Scope) (x y : Str) (p p2 pos pos' : Pos) : (es : List PySem.Expr) → Option (Den Γ sc (.Call (.Name x p) [.Call (.Name y p2) es [] pos'] [] pos))
  | [a] => match isBi? Γ g hg sc x, isBi? Γ g hg sc y with
    | some ⟨.list, h⟩, some ⟨.range, h2⟩ => (c sc a).map fun a => .ofVal (g_listR1 (h _ rfl) (h2 _ rfl) a.ns a.hv) (fun _ => rfl) (fun _ _ _ _ => rfl) nofun
    | some ⟨.list, h⟩, some ⟨.reversed, h2⟩ => (c sc a).map fun a => .ofVal (g_listRev (h _ rfl) (h2 _ rfl) a.ns a.hv) (fun _ => rfl) (fun _ _ _ _ => rfl) nofun
    | _, _ => compCall Γ g hg c sc x p pos [.Call (.Name y p2) [a] [] pos']
  | [a, b, d] => match isBi? Γ g hg sc x, isBi? Γ g hg sc y with
    | some ⟨.list, h⟩, some ⟨.range, h2⟩ => (c sc a).bind fun a => (c sc b).bind fun b => (c sc d).map fun d => .ofVal (g_listR3 (h _ rfl) (h2 _ rfl) a.ns b.ns d.ns a.hv b.hv d.hv) (fun _ => rfl) (fun _ _ _ _ => rfl) nofun
    | _, _ => compCall Γ g hg c sc x p pos [.Call (.Name y p2) [a, b, d] [] pos']
  | es => compCall Γ g hg c sc x p pos [.Call (.Name y p2) es [] pos']
noncomputable def mkT {sc : Scope} {e : PySem.Expr} {t : PEnv → Bool} {k : PEnv → Prop} (h : GoodT Γ sc e t k) (hs : noStar e) : Den Γ sc e :=
  { nw := false, v := fun _ => .none, k := fun _ => False, hv := fun _ _ _ _ _ _ _ q => q.elim, ha := fun _ _ _ _ _ _ _ _ _ _ _ _ q => q.elim, t := t, kt := k, ht := h, b := fun _ => (false, []), kb := fun _ => False, hb := fun _ _ _ _ _ _ _ q => q.elim, ns := hs }
omit c in
noncomputable def compGlob (sc : Scope) (x : Str) (p : Pos) (hx : okName x = true) (hk : sc.names.lookup x = some .globalImplicit) : (k : GKind) → g x = k → Option (Den Γ sc (.Name x p))
  | .fn a, hb => some (.ofVal (g_fn ⟨hx, hk, hg x _ (by rw [hb]; rfl)⟩) (fun _ => rfl) (fun _ _ _ _ => rfl) nofun)
  | .int n t, hb => some (.ofVal (g_gint (n := n) (t := t) ⟨hx, hk, hg x _ (by rw [hb]; rfl)⟩) (fun _ => rfl) (fun _ _ _ _ => rfl) nofun)
  | _, _ => none
omit c in
noncomputable def compName (sc : Scope) (x : Str) (p : Pos) : Option (Den Γ sc (.Name x p)) := match isVar? Γ sc x with
    | some ⟨i, hx⟩ => some { nw := _, v := _, k := _, hv := g_var hx, ha := a_val (fun _ _ _ _ => rfl) (g_var hx), t := _, kt := _, ht := t_val (fun _ => rfl) (g_var hx), b := fun ρ => seqB (get ρ i), kb := fun ρ => isSB (get ρ i), hb := b_var hx, ns := nofun }
    | none => if hx : okName x = true then (if hk : sc.names.lookup x = some .globalImplicit then compGlob Γ g hg sc x p hx hk (g x) rfl else none) else none
/-- from Python's text to its meaning, and that it has it -/
noncomputable def compF (sc : Scope) : (e : PySem.Expr) → Option (Den Γ sc e)
  | .Constant (.int i) kd p => some (.ofVal (v := fun _ => .int i) (k := fun _ => True) (nw := false) (fun ρ A e₀ h₀ env X h _ x s tk => wpAny_Constant_int (T.mk (tk := tk + 1) (.refl _ _) x.act.tab ⟨⟨_, rfl⟩, nofun⟩)) (fun _ => rfl) (fun _ _ _ _ => rfl) nofun)
  | .Constant (.bool i) kd p => some (.ofVal (v := fun _ => .bool i) (k := fun _ => True) (nw := false) (fun ρ A e₀ h₀ env X h _ x s tk => wpAny_Constant_bool (T.mk (.refl _ _) x.act.tab ⟨rfl, nofun⟩)) (fun _ => rfl) (fun _ _ _ _ => rfl) nofun)
  | .Name x p => compName Γ g hg sc x p
  | .BinOp l op r p => (c sc l).bind fun a => (c sc r).map fun b => .ofVal (g_bin a.hv b.hv) (fun _ => rfl) (fun _ _ _ _ => rfl) nofun
  | .UnaryOp .USub l p => (c sc l).map fun a => .ofVal (g_un a.hv) (fun _ => rfl) (fun _ _ _ _ => rfl) nofun
  | .UnaryOp .Invert l p => (c sc l).map fun a => .ofVal (g_un a.hv) (fun _ => rfl) (fun _ _ _ _ => rfl) nofun
  | .Compare l [op] [r] p => if hs : noSet r = true then (c sc l).bind fun a => (c sc r).map fun b =>
      { nw := _, v := _, k := _, hv := g_cmp hs a.hv b.hv, ha := a_val (fun _ _ _ _ => rfl) (g_cmp hs a.hv b.hv), t := _, kt := _, ht := t_cmp hs a.hv b.hv, b := _, kb := _, hb := b_val (g_cmp hs a.hv b.hv), ns := nofun } else none
  | .IfExp t l r p => (c sc t).bind fun t => (c sc l).bind fun a => (c sc r).map fun b =>
      { nw := false, v := _, k := _, hv := g_if t.ht a.hv b.hv, ha := a_val (fun _ _ _ _ => rfl) (g_if t.ht a.hv b.hv), t := fun _ => false, kt := fun _ => False, ht := fun _ _ _ _ _ _ _ q => q.elim, b := _, kb := _, hb := b_val (g_if t.ht a.hv b.hv), ns := nofun }
  | .BoolOp .Or [l, r] p => (c sc l).bind fun a => (c sc r).map fun b =>
      { nw := false, v := _, k := _, hv := g_or2 a.hv b.hv, ha := a_val (fun _ _ _ _ => rfl) (g_or2 a.hv b.hv), t := _, kt := _, ht := t_or (o_cons a.ht (o_cons b.ht o_nil)), b := _, kb := _, hb := b_val (g_or2 a.hv b.hv), ns := nofun }
  | .BoolOp .Or es p => (compO Γ c sc es).map fun a => mkT Γ (t_or a.h) nofun
  | .BoolOp .And [l, r] p => (c sc l).bind fun a => (c sc r).map fun b =>
      { nw := false, v := _, k := _, hv := g_and2 a.hv b.hv, ha := a_val (fun _ _ _ _ => rfl) (g_and2 a.hv b.hv), t := _, kt := _, ht := t_and (nd_cons a.ht (nd_cons b.ht nd_nil)), b := _, kb := _, hb := b_val (g_and2 a.hv b.hv), ns := nofun }
  | .BoolOp .And es p => (compN Γ c sc es).map fun a => mkT Γ (t_and a.h) nofun
  | .UnaryOp .Not l p => (c sc l).map fun a => mkT Γ (t_not a.ht) nofun
  | .Compare l [o1, o2] [r, q] p => if hs : noSet q = true then (c sc l).bind fun a => (c sc r).bind fun b => (c sc q).map fun d => mkT Γ (t_chain hs a.hv b.hv d.hv) nofun else none
  | .Constant (.str i) kd p => some (.ofVal g_str (fun _ => rfl) (fun _ _ _ _ => rfl) nofun)
  | .Subscript v (.UnaryOp .USub (.Constant (.int 1) kd p2) p3) p => (c sc v).map fun a => .ofVal (g_last a.hb) (fun _ => rfl) (fun _ _ _ _ => rfl) nofun
  | .List es p => if hn : es.length ≤ 1000 then (compL Γ c sc es).map fun a => .ofVal (g_list hn a.h) (fun _ => rfl) (fun _ _ _ _ => rfl) nofun else none
  | .Tuple es j p => if hn : es.length ≤ 1000 then (compL Γ c sc es).map fun a => .ofVal (g_tup hn a.h) (fun _ => rfl) (fun _ _ _ _ => rfl) nofun else none
  | .Subscript v (.Slice lo hi st p') p => (c sc v).bind fun a => (compP Γ c sc lo).bind fun lo => (compP Γ c sc hi).bind fun hi => (compP Γ c sc st).map fun st => .ofVal (g_slice a.hb lo.h hi.h st.h) (fun _ => rfl) (fun _ _ _ _ => rfl) nofun
  | .Subscript v i p => compItem Γ g c sc i p v
  | .ListComp elt (⟨target, iter, ifs, 0⟩ :: gs) scope pos => compLC Γ g hg c sc scope elt target iter ifs gs pos
  | .Call (.Attribute (.Name y q) n ap) [] [] p => compBit Γ c sc (.Name y q) (fun _ => rfl) n ap p
  | .Call (.Attribute (.Call (.Name y q) [a] [] q2) n ap) [] [] p => compBit Γ c sc (.Call (.Name y q) [a] [] q2) (fun _ => rfl) n ap p
  | .Call (.Name x p) [.Call (.Name y p2) es [] pos'] [] pos => compList Γ g hg c sc x y p p2 pos pos' es
  | .Call (.Name x p) es [] pos => compCall Γ g hg c sc x p pos es
  | _ => none
noncomputable def comp : (m : Nat) → (sc : Scope) → (e : PySem.Expr) → Option (Den Γ sc e)
  | 0, _, _ => none
  | m + 1, sc, e => compF Γ g hg (comp m) sc e
end

end
end Mine
namespace Mine
section
open PySem.Calls
set_option backward.match.sparseCases false

noncomputable section
structure SDen (Γ : Fx) (sc : Scope) (s : Stmt) where
  st : Bool
  S : SS
  h : GoodStm Γ sc st s S
structure SsDen (Γ : Fx) (sc : Scope) (ss : List Stmt) where
  st : Bool
  S : SS
  h : GoodStms Γ sc st ss S
section
variable (Γ : Fx) (g : Str → GKind) (own : List Nat) (sc : Scope)
noncomputable def compSs (c : (s : Stmt) → Option (SDen Γ sc s)) : (ss : List Stmt) → Option (SsDen Γ sc ss)
  | [] => some ⟨true, _, m_nil⟩
  | s :: ss => (c s).bind fun a => (compSs c ss).map fun b => ⟨_, _, m_cons a.h b.h⟩
variable (hg : ∀ x v, gVal (g x) = some v → Γ.G x = some v) (c : (s : Stmt) → Option (SDen Γ sc s))
noncomputable def compFor (t it : PySem.Expr) (a : List Stmt) (pos : Pos) : Option (SDen Γ sc (.For t it a [] pos)) :=
  if hn : noSet it = true then (tgt? Γ sc t).bind fun t => (compR Γ g hg (comp Γ g hg 60) sc t.t.isOne it).bind fun r => (compSs Γ sc c a).bind fun b => if hb : b.st = true then some ⟨true, _, m_for hn t.h r.h (hb ▸ b.h)⟩ else none else none
noncomputable def compEx (x n : Str) (xp ap p pos : Pos) : (vs : List PySem.Expr) → Option (SDen Γ sc (.Expr (.Call (.Attribute (.Name x xp) n ap) vs [] p) pos))
  | [v] => if hn : n = Str.ofString "append" then (if hl : (ap.endLine == p.line) = true then (isTgt? Γ sc x).bind fun i => (comp Γ g hg 60 sc v).map fun v => ⟨true, sApp i.1 v.v v.k, by subst hn; exact m_app hl i.2 v.ns v.hv⟩ else none) else none
  | [] => if hn : n = Str.ofString "reverse" then (if hl : (ap.endLine == p.line) = true then (isTgt? Γ sc x).map fun i => ⟨false, sRev i.1, by subst hn; exact m_rev hl i.2⟩ else none) else none
  | _ => none
noncomputable def compTup (es : List PySem.Expr) (j : Nat) (tp pos : Pos) (v : PySem.Expr) : Option (SDen Γ sc (.Assign [.Tuple es j tp] v pos)) :=
  (areTgt? Γ sc es).bind fun is => if hd : is.1.Nodup then (if ho : okTup v = true then (comp Γ g hg 60 sc v).map fun v => ⟨true, _, m_many is.2 hd ho v.hv⟩ else none) else none
noncomputable def compMk2 (x : Str) (p pos : Pos) : (v : PySem.Expr) → Option (SDen Γ sc (.Assign [.Name x p] v pos))
  | .ListComp elt [⟨target, iter, ifs, 0⟩] scope cpos => if ho : okScope sc scope = true then (if hn : noSet iter = true then (isTgt? Γ sc x).bind fun i =>
      (tgt? Γ scope target).bind fun t => (compR Γ g hg (comp Γ g hg 60) sc t.t.isOne iter).bind fun r => (compC Γ (comp Γ g hg 60) scope ifs).bind fun q => (comp Γ g hg 60 scope elt).bind fun a => if ha : a.nw = true then
        some ⟨false, _, m_mk2 ⟨ho, hn, t.h, r.h, q.h, i_lastZ (gens := [⟨target, iter, ifs, 0⟩]) (d := 1) rfl (ha ▸ a.hv)⟩ i.2⟩ else none else none) else none
  | _ => none
noncomputable def compSet (x : Str) (p pos : Pos) (v : PySem.Expr) : Option (SDen Γ sc (.Assign [.Name x p] v pos)) :=
  if (g x) matches .rows then compMk2 Γ g sc hg x p pos v else (isTgt? Γ sc x).bind fun i => (comp Γ g hg 60 sc v).bind fun v => if own.contains i.1 then (if hv : v.nw = true then some ⟨false, _, m_own i.2 (hv ▸ v.ha)⟩ else none) else some ⟨true, _, m_set i.2 v.ha⟩
noncomputable def compPut (x : Str) (xp : Pos) (ix : PySem.Expr) (sp pos : Pos) : (v : PySem.Expr) → Option (SDen Γ sc (.Assign [.Subscript (.Name x xp) ix sp] v pos))
  | .Name y yp => (isVar? Γ sc x).bind fun i => (comp Γ g hg 60 sc ix).bind fun k => (comp Γ g hg 60 sc (.Name y yp)).map fun v => ⟨true, _, m_put (fun _ => rfl) i.2 k.hv v.hv⟩
  | _ => none
noncomputable def compPuts (jx : PySem.Expr) (tp pos : Pos) (v : PySem.Expr) : (o : PySem.Expr) → Option (SDen Γ sc (.Assign [.Subscript o jx tp] v pos))
  | .Name x xp => compPut Γ g sc hg x xp jx tp pos v
  | .Subscript (.Name x xp) ix sp => match v with
    | .Call f es [] cp => (isVar? Γ sc x).bind fun i => (comp Γ g hg 60 sc ix).bind fun a => (comp Γ g hg 60 sc jx).bind fun b => (comp Γ g hg 60 sc (.Call f es [] cp)).map fun d => ⟨true, _, m_put2 (fun _ => rfl) i.2 a.hv b.hv d.hv⟩
    | _ => none
  | _ => none
noncomputable def compRet (pos : Pos) : (v : PySem.Expr) → Option (SDen Γ sc (.Return (some v) pos))
  | .Name x p => match isVar? Γ sc x with
    | some i => if (g x) matches .rows then some ⟨true, _, m_ret2 i.2⟩ else if own.contains i.1 then some ⟨true, _, m_retO i.2⟩ else (comp Γ g hg 60 sc (.Name x p)).map fun v => ⟨true, _, m_ret v.hv⟩
    | none => none
  | v => (comp Γ g hg 60 sc v).map fun v => ⟨true, _, m_ret v.hv⟩
noncomputable def compSF : (s : Stmt) → Option (SDen Γ sc s)
  | .Assign [.Name x p] v pos => compSet Γ g own sc hg x p pos v
  | .Assign [.Tuple es j tp] v pos => compTup Γ g sc hg es j tp pos v
  | .Assign [.Subscript o ix sp] v pos => compPuts Γ g sc hg ix sp pos v o
  | .AugAssign (.Name x _) op v _ => (isTgt? Γ sc x).bind fun i => (comp Γ g hg 60 sc v).map fun v => ⟨true, _, m_aug i.2 v.hv⟩
  | .AugAssign (.Subscript (.Name x _) (.BinOp a o b bp) _) op v _ => (isVar? Γ sc x).bind fun i => (comp Γ g hg 60 sc (.BinOp a o b bp)).bind fun k => (comp Γ g hg 60 sc v).map fun v => ⟨true, _, m_augI (fun _ _ _ => rfl) i.2 k.hv v.hv⟩
  | .Return (some v) pos => compRet Γ g own sc hg pos v
  | .Return none _ => some ⟨true, _, m_ret0⟩
  | .If t a b _ => (comp Γ g hg 60 sc t).bind fun t => (compSs Γ sc c a).bind fun a => (compSs Γ sc c b).map fun b => ⟨_, _, m_if t.ht a.h b.h⟩
  | .While t a [] _ => (comp Γ g hg 60 sc t).bind fun t => (compSs Γ sc c a).map fun a => ⟨_, _, m_while t.ht a.h⟩
  | .For t it a [] pos => compFor Γ g sc hg c t it a pos
  | .Expr (.Call (.Attribute (.Name x xp) n ap) vs [] p) pos => compEx Γ g sc hg x n xp ap p pos vs
  | .Raise a b d => some ⟨true, _, m_stuck⟩
  | _ => none
noncomputable def compS : (m : Nat) → (s : Stmt) → Option (SDen Γ sc s)
  | 0, _ => none
  | m + 1, s => compSF Γ g own sc hg (compS m) s
end
end
theorem bindL_not {kd : Str → Option NameKind} {x : Str} : ∀ {binds : List (Str × Value)} {m : Str → Option Value}, x ∉ binds.map (·.1) → bindL kd binds m x = m x
  | [], _, _ => rfl
  | (n, v) :: r, m, h => by
    unfold bindL
    rw [bindL_not fun q => h (.tail _ q)]
    split
    · show (if x = n then _ else _) = _
      rw [if_neg fun q => h (by rw [q]; exact .head _)]
    · rfl
theorem bindC_not {kd : Str → Option NameKind} {x : Str} : ∀ {binds : List (Str × Value)} {m : Str → Option Value}, x ∉ binds.map (·.1) → bindC kd binds m x = m x
  | [], _, _ => rfl
  | (n, v) :: r, m, h => by
    unfold bindC
    rw [bindC_not fun q => h (.tail _ q)]
    split
    · rfl
    · show (if x = n then _ else _) = _
      rw [if_neg fun q => h (by rw [q]; exact .head _)]
theorem zip_fst {ps : List Str} {vals : List Value} {x : Str} (h : x ∈ (ps.zip vals).map (·.1)) : x ∈ ps := by
  obtain ⟨p, hp, rfl⟩ := List.mem_map.mp h
  exact (List.of_mem_zip hp).1
theorem bindL_get {kd : Str → Option NameKind} {x : Str} {v : Value} (hk : kd x = some .local) : ∀ {ps : List Str} {vals : List Value} {m : Str → Option Value} {j : Nat}, ps.Nodup → ps[j]? = some x → vals[j]? = some v → bindL kd (ps.zip vals) m x = some v
  | [], _, _, _, _, h, _ => by cases h
  | _ :: _, [], _, _, _, _, h => by cases h
  | p :: ps, u :: vals, m, 0, hn, h1, h2 => by
    cases h1; cases h2
    rw [List.nodup_cons] at hn
    rw [List.zip_cons_cons]
    unfold bindL
    rw [if_pos hk, bindL_not fun q => hn.1 (zip_fst q)]
    simp
  | p :: ps, u :: vals, m, j + 1, hn, h1, h2 => by
    rw [List.nodup_cons] at hn
    rw [List.zip_cons_cons]
    unfold bindL
    exact bindL_get hk hn.2 (by simpa using h1) (by simpa using h2)
theorem bindC_get {kd : Str → Option NameKind} {x : Str} {v : Value} (hk : ¬ kd x = some .local) : ∀ {ps : List Str} {vals : List Value} {m : Str → Option Value} {j : Nat}, ps.Nodup → ps[j]? = some x → vals[j]? = some v → bindC kd (ps.zip vals) m x = some v
  | [], _, _, _, _, h, _ => by cases h
  | _ :: _, [], _, _, _, _, h => by cases h
  | p :: ps, u :: vals, m, 0, hn, h1, h2 => by
    cases h1; cases h2
    rw [List.nodup_cons] at hn
    rw [List.zip_cons_cons]
    unfold bindC
    rw [if_neg hk, bindC_not fun q => hn.1 (zip_fst q)]
    simp
  | p :: ps, u :: vals, m, j + 1, hn, h1, h2 => by
    rw [List.nodup_cons] at hn
    rw [List.zip_cons_cons]
    unfold bindC
    exact bindC_get hk hn.2 (by simpa using h1) (by simpa using h2)
theorem puts_inv : ∀ {is : List Nat} {xs : List PV} {ρ : PEnv} {i : Nat}, get (puts ρ is xs) i = get ρ i ∨ ∃ (j : Nat) (x : PV), is[j]? = some i ∧ xs[j]? = some x ∧ get (puts ρ is xs) i = .val x
  | [], _, ρ, _ => .inl (by unfold puts; rfl)
  | _ :: _, [], _, _ => .inl rfl
  | k :: is, x :: xs, ρ, i => by
    rcases puts_inv (is := is) (xs := xs) (ρ := put ρ k (.val x)) (i := i) with q | ⟨j, y, q1, q2, q3⟩
    · by_cases hi : i = k
      · exact .inr ⟨0, x, by rw [hi]; rfl, rfl, q.trans (by rw [hi]; exact get_same ..)⟩
      · exact .inl (q.trans (get_other hi))
    · exact .inr ⟨j + 1, y, q1, q2, q3⟩

noncomputable def varsOf (nm : List Str) : List Str → Option (List Nat)
  | [] => some []
  | x :: xs => (varOf nm x).bind fun i => (varsOf nm xs).map (i :: ·)
theorem varsOf_get {nm : List Str} : ∀ {ps : List Str} {is : List Nat} {j i : Nat}, varsOf nm ps = some is → is[j]? = some i → ∃ x, ps[j]? = some x ∧ varOf nm x = some i
  | [], _, _, _, h, e => by cases h; cases e
  | x :: xs, is, j, i, h, e => by
    simp only [varsOf, Option.bind_eq_some_iff, Option.map_eq_some_iff] at h
    obtain ⟨k, h1, ks, h2, rfl⟩ := h
    cases j with
    | zero => cases e; exact ⟨x, rfl, h1⟩
    | succ j =>
      obtain ⟨y, e1, e2⟩ := varsOf_get h2 (by simpa using e)
      exact ⟨y, by simpa using e1, e2⟩
/-- a scope that the contracts cover -/
noncomputable def topScope (sc : Scope) (ps : List Str) : Bool :=
  sc.kind == .function && !sc.isCoroutine && !sc.isGenerator && (sc.names.all fun x => !(x.2 == .free)) && (ps.all fun x => sc.names.lookup x == some .local || sc.names.lookup x == some .cell) && decide ps.Nodup

section
variable {Γ : Fx} {sc : Scope} {st : Bool} {S : SS}

theorem W.of {α : Type} {C : Cx} {A : Around} {m : Sem α} {h : Heap} {P : α → Heap → Prop} (f : ∀ s : Shared, s.heap = h → wpAny C.M A m (T C s h P) never s) : W C A m h P := fun s tk => f (Sh s h tk) rfl
theorem not_own {is : List Nat} {pvs : List PV} (i : Nat) (xs : List PV) : get (puts [] is pvs) i ≠ .own xs := fun h => by
  rcases puts_inv (is := is) (xs := pvs) (ρ := []) (i := i) with q | ⟨j, z, q1, q2, q3⟩
  · rw [q, get_nil] at h; cases h
  · rw [q3] at h; cases h
theorem not_own2 {is : List Nat} {pvs : List PV} (i : Nat) (xss : List (List Int)) : get (puts [] is pvs) i ≠ .own2 xss := fun h => by
  rcases puts_inv (is := is) (xs := pvs) (ρ := []) (i := i) with q | ⟨j, z, q1, q2, q3⟩
  · rw [q, get_nil] at h; cases h
  · rw [q3] at h; cases h
/-- the state in which a function's body begins -/
theorem enter0 {A : Around} {frs : List Env} {s s' : Shared} {qual : Str} {f : Addr} {cdv : Value} {ps : List Str} {is : List Nat} {vals : List Value} {pvs : List PV} {X : List Addr}
    (hsc : topScope sc ps = true) (hh : A.handled = none) (hA : A.frames = some frs) (hFF : FF Γ.C.rb s.heap frs) (rbs : Γ.C.rb.objs.size ≤ s.heap.objs.size) (hbs : Γ.C.base.objs.size ≤ s.heap.objs.size) (kin : Γ.C.K.In Γ.C.base) (top : Top Γ.C.p Γ.C.loose Γ.C.mean Γ.C.mg Γ.C.mb Γ.C.base) (tab : TabsOk Γ.C s.heap) (hP0 : ∀ b ∈ Γ.C.Ps, Γ.C.base.get? b = none) (code : ∀ t ∈ Γ.C.tabs, CodeHd Γ.C.base t.c t.P) (hdep : A.depth + (Γ.D + 1) < recursionLimit) (hunt : A.units + (Γ.U + 3) < cLine) (al : ∀ a ∈ X, ∃ o, s.heap.get? a = some o)
    (hv : varsOf Γ.nm ps = some is) (hr : RepL s.heap X pvs vals)
    (x : InCallC s (callEnvC (fnX qual qual default [] sc [] .none .none .none .none none cdv .none) s.heap.objs.size f).locals (bindL (callEnvC (fnX qual qual default [] sc [] .none .none .none .none none cdv .none) s.heap.objs.size f).kindOf (ps.zip vals) fun _ => none)
      (callEnvC (fnX qual qual default [] sc [] .none .none .none .none none cdv .none) s.heap.objs.size f).cells (bindC (callEnvC (fnX qual qual default [] sc [] .none .none .none .none none cdv .none) s.heap.objs.size f).kindOf (ps.zip vals) fun _ => none) s') :
    ST Γ (A.deeper (envOfC qual sc s.heap.objs.size f cdv)) (envOfC qual sc s.heap.objs.size f cdv) Γ.C.base sc X X (puts [] is pvs) s'.heap := by
  unfold topScope at hsc
  simp only [Bool.and_eq_true, Bool.not_eq_true', decide_eq_true_eq, List.all_eq_true, Bool.or_eq_true, beq_iff_eq] at hsc
  obtain ⟨⟨⟨⟨⟨hkind, hco⟩, hgen⟩, hfree⟩, hps⟩, hnd⟩ := hsc
  have hk := x.toInCall.keep
  have hns : s'.heap.Ns s.heap.objs.size (bindL (fun y => sc.names.lookup y) (ps.zip vals) fun _ => none) := x.toInCall.ns
  have gk : ∀ b o, Γ.C.base.get? b = some o → s'.heap.get? b = some o := fun b o eb => hk b o (tab.base b o eb)
  have gnone : ∀ b, s.heap.objs.size ≤ b → Γ.C.base.get? b = none := fun b q => fresh_none (Nat.le_trans hbs q)
  have tab' : TabsOk Γ.C s'.heap := tab.keeps hk
  have cl := cells_laid sc.names (s.heap.push { cls := .type "frame", data := .dict #[] }) [] (fun _ _ q => by cases q) (fun _ _ _ q => by cases q)
  rw [Heap.size_push] at cl
  obtain ⟨c1, c2, c3, c4⟩ := cl
  have hcells : ∀ y c, (cellsFrom (s.heap.objs.size + 1) sc.names []).lookup y = some c → s'.heap.IsCell c (bindC (fun y => sc.names.lookup y) (ps.zip vals) (fun _ => none) y) := fun y c q => x.cell y c q
  have notFree : ∀ y, sc.names.lookup y ≠ some .free := fun y q => by
    have := hfree _ (PySem.mem_of_lookup q)
    simp at this
  have fr : Fr Γ.C.base s.heap.objs.size s'.heap (bindL (fun y => sc.names.lookup y) (ps.zip vals) fun _ => none) := ⟨hns, gk, hbs⟩
  refine { xc := { act := ?_, dep := ?_, unt := ?_, en := ?_, vars := ?_, alloc := fun a q => let ⟨o, e⟩ := al a q; ⟨o, hk a o e⟩, own0 := ?_ }, own1 := fun y i xs v _ h2 => ?_, own2 := fun y z i j xs ys a _ _ h2 => ?_, sub := fun _ q => q, own3 := .no fun i xss => not_own2 i xss }
  · refine { hh := hh, bel := ⟨frs, by show A.frames.map _ = _; rw [hA]; rfl, FF.cons (by show sc.kind ≠ _; rw [hkind]; decide) rfl hns (fresh_none rbs) (hFF.of fun L m n => ⟨m, n.keeps hk⟩)⟩, rbs := rbs, frame := rfl, kind := hkind, fr := ⟨_, fr⟩, kin := kin, top := top, tab := tab', tab0 := fun t ht => ?_, code := code, h0 := rfl }
    have hm : t.P ∈ Γ.C.Ps := List.mem_map.mpr ⟨t, ht, rfl⟩
    refine ⟨hP0 _ hm, fun q => ?_⟩
    obtain ⟨ps', e⟩ := tab.obj hm
    have := Heap.lt_size e
    rw [q] at this
    exact Nat.lt_irrefl _ this
  · show A.depth + 1 + Γ.D < _
    (first | lia | omega)
  · show A.units + 3 + Γ.U < _
    (first | lia | omega)
  · exact { kind := hkind, glob := rfl, bltn := rfl, loc := ⟨_, hns⟩, kloc := fun y e => e, kcell := fun y e => ⟨e, let ⟨c, q, _⟩ := c4 y (PySem.mem_of_lookup e); ⟨c, q⟩⟩, kfree := fun y e => absurd e (notFree y), kglob := fun y e => e, cell := fun y c q => ⟨_, hcells y c q⟩, inj := c2 }
  · intro i y kd h2 h3 h4 h1
    rcases puts_inv (is := is) (xs := pvs) (ρ := []) (i := i) with q | ⟨j, z, q1, q2, q3⟩
    · exact absurd (q.trans (get_nil i)) h1
    · obtain ⟨w, e1, e2⟩ := varsOf_get hv q1
      have := varOf_inj h2 e2
      subst this
      obtain ⟨v, e3, rv⟩ := hr.get q2
      rw [q3]
      refine ⟨v, ?_, rv.keep fun a o _ _ e => hk a o e⟩
      rcases hps y (List.mem_of_getElem? e1) with q | q
      · exact .inl ⟨q, _, hns, bindL_get q hnd e1 e3⟩
      · obtain ⟨c, hc, _⟩ := c4 y (PySem.mem_of_lookup q)
        refine .inr ⟨.inl q, c, hc, ?_⟩
        have := hcells y c hc
        rw [bindC_get (by rw [q]; nofun) hnd e1 e3] at this
        exact this
  · refine ⟨gnone _ (Nat.le_refl _), fun y c _ q => gnone _ (Nat.le_of_lt ?_)⟩
    exact x.above y c (PySem.mem_of_lookup q)
  · exact absurd h2 (not_own i xs)
  · exact absurd h2 (not_own i xs)
theorem enter {A : Around} {s s' : Shared} {e₀ : Env} {h₀ : Heap} {qual : Str} {f : Addr} {cdv : Value} {ps : List Str} {is : List Nat} {vals : List Value} {pvs : List PV} {X : List Addr}
    (hsc : topScope sc ps = true) (act : Act Γ.C A e₀ h₀ s.heap) (hdep : A.depth + (Γ.D + 1) < recursionLimit) (hunt : A.units + (Γ.U + 3) < cLine) (al : ∀ a ∈ X, ∃ o, s.heap.get? a = some o)
    (hv : varsOf Γ.nm ps = some is) (hr : RepL s.heap X pvs vals)
    (x : InCallC s (callEnvC (fnX qual qual default [] sc [] .none .none .none .none none cdv .none) s.heap.objs.size f).locals (bindL (callEnvC (fnX qual qual default [] sc [] .none .none .none .none none cdv .none) s.heap.objs.size f).kindOf (ps.zip vals) fun _ => none)
      (callEnvC (fnX qual qual default [] sc [] .none .none .none .none none cdv .none) s.heap.objs.size f).cells (bindC (callEnvC (fnX qual qual default [] sc [] .none .none .none .none none cdv .none) s.heap.objs.size f).kindOf (ps.zip vals) fun _ => none) s') :
    ST Γ (A.deeper (envOfC qual sc s.heap.objs.size f cdv)) (envOfC qual sc s.heap.objs.size f cdv) Γ.C.base sc X X (puts [] is pvs) s'.heap := by
  obtain ⟨mF, Fm⟩ := act.fr
  obtain ⟨outer, hA, hFF⟩ := act.bel
  have loc : e₀.locals < s.heap.objs.size := let ⟨o, _, _, e, _⟩ := Fm.ns; Heap.lt_size e
  exact enter0 hsc act.hh hA hFF (Nat.le_trans act.rbs (Nat.le_of_lt loc)) (act.h0 ▸ Nat.le_trans Fm.above (Nat.le_of_lt loc)) (act.h0 ▸ act.kin) (act.h0 ▸ act.top) act.tab (fun b q => act.h0 ▸ (act.ground q).1) (act.h0 ▸ act.code) hdep hunt al hv hr x

/-- what a plain function of the text gives, its body walked -/
theorem con_by {name qual : Str} {params : Arguments} {body : List Stmt} {dV kV doc pm cdv ct oc : Value} {an od : Option Addr} {osl : Array (Option Value)} {f : Addr} {ps : List Str} {is : List Nat} {pvs : List PV} {r : PV}
    (hK : Γ.C.K.lookup f = some ⟨oc, od, .func (fnX name qual params body sc [] dV kV doc pm an cdv ct), osl⟩) (hkeep : keepIn Γ.C.K (.ref f) = true) (hcd : codeIn Γ.C.K cdv qual = true) (hsc : topScope sc ps = true)
    (hbind : ∀ vals : List Value, vals.length = ps.length → bindArgs (fnX name qual params body sc [] dV kV doc pm an cdv ct) ⟨vals, []⟩ = pure (ps.zip vals))
    (hv : varsOf Γ.nm ps = some is) (hl : ps.length = pvs.length) 
    (hb : ∀ A L g X h, ST Γ A (envOfC qual sc L f cdv) g sc X X (puts [] is pvs) h → WU Γ.C A (execs body (envOfC qual sc L f cdv)) h fun fl h2 => ∃ v, fl = .ret v ∧ Rep h2 X r v ∧ TabsOk Γ.C h2 ∧ Chg Γ.C (envOfC qual sc L f cdv) X X h h2) : ConAt Γ.C (Γ.D + 1) (Γ.U + 3) f pvs r := by
  refine ⟨hkeep, fun A e₀ h₀ hp args X act hdep hunt al hrep => W.of fun s hs => ?_⟩
  subst hs
  have hlen : args.length = ps.length := by
    rw [hrep.length, hl]
  have hsc' := hsc
  unfold topScope at hsc'
  simp only [Bool.and_eq_true, Bool.not_eq_true', decide_eq_true_eq, List.all_eq_true, Bool.or_eq_true, beq_iff_eq] at hsc'
  obtain ⟨⟨⟨⟨⟨hkind, hco⟩, hgen⟩, _⟩, hps⟩, hnd⟩ := hsc'
  obtain ⟨mm, Fm⟩ := act.fr
  refine wpAny_call ?_
  have ho : s.heap.get? f = some _ := Fm.keep _ _ (act.kin _ _ hK)
  refine codeAny_call_function (by (first | lia | omega)) ho rfl hco hgen rfl (codeRec_of (act.kin.keeps Fm.keep) hcd) (BindsTo.of_eq (s := s) (hbind args hlen) _ _ _ _ ?_)
  refine wpAny_newFunctionEnv_cells hkind (fun x hx => ?_) fun env' he s' x => ?_
  · have hx' : x.1 ∈ ps := zip_fst (List.mem_map.mpr ⟨x, hx, rfl⟩)
    rcases hps x.1 hx' with q | q
    · exact .inl q
    · exact .inr ⟨q, cellsFrom_some _ _ _ (.inl q)⟩
  · subst he
    refine ⟨act.nolimit.keeps x.toInCall.keep, codeAny_func ?_⟩
    have E := enter (A := A) (X := X) (qual := qual) (f := f) (cdv := cdv) hsc act hdep hunt al hv hrep x
    have hk := x.toInCall.keep
    have hab := x.above
    obtain ⟨h1, tk1, rfl, _⟩ := x.done
    refine (hb _ _ _ _ _ E).go fun fl h2 tk2 ⟨v, e, rv, t2, ch⟩ => ?_
    subst e
    refine ⟨h2, tk2, rfl, fun b o hb eb => ch b o hb (Nat.ne_of_lt (Heap.lt_size eb)) (fun y c q z => ?_) (Classical.em (b ∈ X)).symm (hk b o eb), t2, rv⟩
    exact absurd (Nat.lt_trans (z ▸ Heap.lt_size eb) (hab y c (PySem.mem_of_lookup q))) (Nat.lt_irrefl _)
theorem ret_of {A : Around} {e : Env} {h₀ : Heap} {X : List Addr} {h : Heap} {ρ : PEnv} {r : PV} {body : List Stmt} (hS : GoodStms Γ sc st body S) (hr : S ρ fun fl _ => fl = .ret r) (E : ST Γ A e h₀ sc X X ρ h) : WU Γ.C A (execs body e) h fun fl h2 => ∃ v, fl = .ret v ∧ Rep h2 X r v ∧ TabsOk Γ.C h2 ∧ Chg Γ.C e X X h h2 :=
  (hS _ _ _ _ _ _ _ _ hr E).imp fun fl h2 ⟨fl', ρ', e1, P⟩ => by
    subst e1
    obtain ⟨X', _, _, v, e, rv, act2⟩ := P.ends
    exact ⟨v, e, rv, act2.tab, P.ch⟩
end

end
end Mine
namespace Mine
section
open PySem.Calls
set_option backward.match.sparseCases false
/-- an inner def, as its text has it -/
structure FnS where
  name : Str
  qual : Str
  params : Arguments
  body : List Stmt
  scope : Scope
  ps : List Str
  is : List Nat
/-- an inner def's scope -/
noncomputable def inScope (sc : Scope) (ps : List Str) : Bool :=
  sc.kind == .function && !sc.isCoroutine && !sc.isGenerator && (sc.names.all fun x => !(x.2 == .cell)) && (ps.all fun x => sc.names.lookup x == some .local) && decide ps.Nodup
structure FnS.Ok (nm : List Str) (φ : FnS) : Prop where
  sc : inScope φ.scope φ.ps = true
  bind : ∀ clos (vals : List Value) doc pm c' ctv, vals.length = φ.ps.length → bindArgs (fnX φ.name φ.qual φ.params φ.body φ.scope clos .none .none doc pm none (.ref c') ctv) ⟨vals, []⟩ = pure (φ.ps.zip vals)
  is : varsOf nm φ.ps = some φ.is
/-- an inner def's function object -/
noncomputable def IsFn (h : Heap) (f : Addr) (φ : FnS) (clos : List (Str × Addr)) : Prop :=
  ∃ c' doc pm ctv, h.get? f = some (fnMade φ.name φ.qual φ.params φ.body φ.scope clos doc pm c' ctv) ∧ h.CodeRec (.ref c') φ.qual ∧ c' ≠ f
section
variable {Γ : Fx} {C : Cx} {h₀ : Heap} {A : Around} {sc : Scope} {e : Env} {ρ : PEnv} {X₀ X : List Addr} {h h' : Heap} {e₀ env : Env} {φ : FnS} {clos : List (Str × Addr)} {f : Addr}

theorem def_ok (c : XC Γ A e₀ h₀ sc env ρ X h) {t : Tab} (ht : t ∈ Γ.C.tabs) (hu : ∀ t' ∈ Γ.C.tabs, t'.P = t.P → t' = t) (hcode : env.code = .ref t.c) {pos : Pos} (hφ : φ.qual = t.qual) (hl : pos.line = t.line) (hcc : pos.col = t.col) (hcl : closureFor φ.scope env = pure clos) :
    W Γ.C A (makeFunction φ.name φ.qual φ.params (.stmts φ.body) φ.scope env [] [] [] pos pos.line) h fun v h' => ∃ f, v = .ref f ∧ h.get? f = none ∧ IsFn h' f φ clos := fun s tk0 => by
  unfold IsFn
  rw [hφ]
  have act := c.act
  obtain ⟨mm, Fm⟩ := act.fr
  have hgs : h.Ns mainGlobals Γ.C.mg := act.top.g.keeps Fm.keep
  obtain ⟨bm, ob, b1, b2, b3, b4, b5, b6⟩ := act.top.bmain
  obtain ⟨ps, hP, hps⟩ := act.tab.tabs t ht
  have hPP : t.P ∈ Γ.C.Ps := List.mem_map.mpr ⟨t, ht, rfl⟩
  have hgP : mainGlobals ≠ t.P := fun q => by
    obtain ⟨o, es, ep, e1, hd, _⟩ := hgs
    rw [q, hP] at e1; cases e1; cases hd
  have hbP : bm ≠ t.P := fun q => by
    have e1 := Fm.keep _ _ b3
    rw [q, hP] at e1; cases e1; cases b4
  have hbG : bm ≠ mainGlobals := fun q => by
    obtain ⟨o, es, ep, e1, hd, _⟩ := act.top.g
    rw [q, e1] at b3; cases b3; rw [hd] at b6; cases b6
  have CH := (act.code t ht).keeps Fm.keep
  have hB : h.BuiltinsAt Γ.C.mg t.P := ⟨bm, ob, b1, b2, hbG, hbP, Fm.keep _ _ b3, b4, b5, b6⟩
  rcases hps with rfl | ⟨c', rfl, hcP, hrec⟩
  · refine makeFunction_K (s := Sh s h tk0) (mg := Γ.C.mg) hcl c.en.glob hgs hcode CH hP trivial rfl hgP hB fun c' ctv doc h' tk hx hge hlt hrec htb => ?_
    have hPs : ∀ b, h.objs.size ≤ b → b ∉ Γ.C.Ps := fun b hb q => by
      obtain ⟨ps', e1⟩ := act.tab.obj q
      exact absurd (Heap.lt_size e1) (Nat.not_lt.mpr hb)
    have tab' : TabsOk Γ.C h' := ⟨fun t' ht' => by
      by_cases q : t'.P = t.P
      · have := hu t' ht' q
        subst this
        refine ⟨_, htb, .inr ⟨c', ?_, hPs c' hge, hrec⟩⟩
        simp [hl, hcc]
      · obtain ⟨ps', h1, h2⟩ := act.tab.tabs t' ht'
        refine ⟨ps', hx _ _ q h1, h2.imp id ?_⟩
        rintro ⟨c2, e2, n2, r2⟩
        obtain ⟨c3, o3, vs3, t3, e3, ho3, hd3, hv3⟩ := r2
        cases e3
        exact ⟨c2, e2, n2, c2, o3, vs3, t3, rfl, hx _ _ (fun z => n2 (z ▸ hPP)) ho3, hd3, hv3⟩, fun b o eb => hx b o (fun q => by rw [q, ← act.h0, (act.ground hPP).1] at eb; cases eb) (act.tab.base b o eb)⟩
    have hge' : h.objs.size ≤ h'.objs.size := Nat.le_of_lt (Nat.lt_of_le_of_lt hge hlt)
    refine T.mk (.of_but fun b o hb eb => Heap.get?_push_of_some _ (hx b o (fun q => hb (q ▸ hPP)) eb)) (tab'.push _) ⟨h'.objs.size, rfl, fresh_none hge', c', doc, _, ctv, Heap.get?_push_size _ rfl, hrec.push _, Nat.ne_of_lt hlt⟩
  · refine makeFunction_hit (s := Sh s h tk0) (mg := Γ.C.mg) (cv := .ref c') hcl c.en.glob hgs hcode CH hP trivial (by simp [codeAmong, rawInt, hl, hcc]) hB fun ctv doc h' tk hk hsz => ?_
    have hcl' : c' ≠ h'.objs.size := fun q => by
      obtain ⟨c3, o3, vs3, t3, e3, ho3, _⟩ := hrec
      cases e3
      have := Heap.lt_size (hk _ _ ho3)
      rw [q] at this; exact Nat.lt_irrefl _ this
    refine T.mk (.of_but fun b o hb eb => Heap.get?_push_of_some _ (hk b o eb)) ((act.tab.keeps hk).push _) ⟨h'.objs.size, rfl, fresh_none hsz, c', doc, _, ctv, Heap.get?_push_size _ rfl, (hrec.keeps hk).push _, hcl'⟩

theorem lookup_nodup {x : Str} {v : Value} : ∀ {l : List (Str × Value)}, (l.map (·.1)).Nodup → (x, v) ∈ l → l.lookup x = some v
  | (y, u) :: l, hn, h => by
    rw [List.map_cons, List.nodup_cons] at hn
    rcases List.mem_cons.mp h with q | h
    · cases q; simp
    · have : x ≠ y := fun q => hn.1 (by rw [← q]; exact List.mem_map.mpr ⟨_, h, rfl⟩)
      have e' : (x == y) = false := by simpa using this
      rw [List.lookup_cons, e']
      exact lookup_nodup hn.2 h
theorem zip_nodup {ps : List Str} {vals : List Value} (h : ps.Nodup) : ((ps.zip vals).map (·.1)).Nodup := by
  induction ps generalizing vals with
  | nil => simp
  | cons p ps ih =>
    cases vals with
    | nil => simp
    | cons v vals =>
      rw [List.nodup_cons] at h
      rw [List.zip_cons_cons, List.map_cons, List.nodup_cons]
      exact ⟨fun q => h.1 (zip_fst q), ih h.2⟩

theorem WU.of {α : Type} {C : Cx} {A : Around} {m : Sem α} {h : Heap} {P : α → Heap → Prop} (f : ∀ s : Shared, s.heap = h → wpAny C.M A m (fun a s' => ∃ h' tk, s' = Sh s h' tk ∧ P a h') never s) : WU C A m h P := fun s tk => f (Sh s h tk) rfl
theorem puts_own {ρ : PEnv} {is : List Nat} {pvs : List PV} {i : Nat} {xs : List PV} (h : get (puts ρ is pvs) i = .own xs) : get ρ i = .own xs := by
  rcases puts_inv (is := is) (xs := pvs) (ρ := ρ) (i := i) with q | ⟨j, z, q1, q2, q3⟩
  · rw [← q]; exact h
  · rw [q3] at h; cases h
theorem puts_own2 {ρ : PEnv} {is : List Nat} {pvs : List PV} {i : Nat} {xs : List (List Int)} (h : get (puts ρ is pvs) i = .own2 xs) : get ρ i = .own2 xs := by
  rcases puts_inv (is := is) (xs := pvs) (ρ := ρ) (i := i) with q | ⟨j, z, q1, q2, q3⟩
  · rw [← q]; exact h
  · rw [q3] at h; cases h
noncomputable abbrev Cx.withK (C : Cx) (K : Frag) (b : Heap) : Cx := { C with K := K, base := b }
noncomputable def retV : Flow → Value
  | .ret v => v
  | _ => .none
/-- what a call of an inner def's function leans on; H: what may change -/
structure CallIn (Γ : Fx) (K₀ : Frag) (b₀ : Heap) (A : Around) (e₀ : Env) (h₀ h : Heap) (X₀ X H : List Addr) (φ : FnS) (f : Addr) (clos : List (Str × Addr)) (ρf : PEnv) : Prop where
  act : Act (Γ.C.withK K₀ b₀) A e₀ h₀ h
  hB : Γ.C.base = hideAll h H
  hH : ∀ b ∈ H, (∃ o, h.get? b = some o) ∧ b ≠ e₀.locals ∧ h₀.get? b = none
  hP : ∀ b ∈ Γ.C.Ps, b ∈ H
  ok : φ.Ok Γ.nm
  fn : IsFn h f φ clos
  dep : A.depth + (Γ.D + 1) < recursionLimit
  unt : A.units + (Γ.U + 3) < cLine
  al : ∀ a ∈ X, ∃ o, h.get? a = some o
  hX : ∀ a ∈ X₀, a ∈ X
  hK : Γ.C.K.In (hideAll h H)
  cl : ∀ x c, clos.lookup x = some c → c ∉ H ∧ ∃ v, h.IsCell c v
  inj : ∀ x y c, clos.lookup x = some c → clos.lookup y = some c → x = y
  has : ∀ x, φ.scope.names.lookup x = some .free → ∃ c, clos.lookup x = some c
  fv : ∀ i, get ρf i ≠ .undef → ∃ x c v, varOf Γ.nm x = some i ∧ φ.scope.names.lookup x = some .free ∧ clos.lookup x = some c ∧ h.IsCell c (some v) ∧ HoldsB X h (get ρf i) v
  own1 : ∀ i xs x c a, get ρf i = .own xs → varOf Γ.nm x = some i → clos.lookup x = some c → h.IsCell c (some (.ref a)) → a ∈ X ∧ a ∉ X₀ ∧ a ∈ H
  own2 : ∀ i j xs ys, get ρf i = .own xs → get ρf j = .own ys → i = j
  own3 : ∀ i xss, get ρf i ≠ .own2 xss
noncomputable abbrev envI (φ : FnS) (L f c' : Addr) (clos : List (Str × Addr)) : Env := envX φ.qual φ.scope L f (.ref c') clos
theorem HoldsB.kp' {v : Value} (k : ∀ b o, h.get? b = some o → h'.get? b = some o) : ∀ {b : Bind}, HoldsB X h b v → HoldsB X h' b v
  | .undef, _ => trivial
  | .val _, r => Rep.keep (fun a o _ _ eb => k a o eb) r
  | .own _, ⟨a, vs, s, l, r⟩ => ⟨a, vs, s, l.at fun o => k a o, r.keep fun a o _ _ eb => k a o eb⟩
  | .own2 _, ⟨a, as, s, l, r⟩ => ⟨a, as, s, l.at fun o => k a o, r.imp fun b _ _ l => l.at fun o => k b o⟩
theorem CallIn.st {K₀ : Frag} {b₀ : Heap} {H : List Addr} {ρf : PEnv} (I : CallIn Γ K₀ b₀ A e₀ h₀ h X₀ X H φ f clos ρf) : h₀.StaysIn (hideAll h H) := fun b o eb => hideAll_get _ (I.act.keep0 b o eb) fun q => by rw [(I.hH b q).2.2] at eb; cases eb
/-- the state in which an inner function's body begins -/
theorem enterI {K₀ : Frag} {b₀ : Heap} {H : List Addr} {ρf : PEnv} {args : List Value} {pvs : List PV} {c' : Addr} {h1 : Heap} (I : CallIn Γ K₀ b₀ A e₀ h₀ h X₀ X H φ f clos ρf) (hr : RepL h X pvs args)
    (hns : h1.Ns h.objs.size fun x => (φ.ps.zip args).reverse.lookup x) (hk : ∀ b o, h.get? b = some o → h1.get? b = some o) :
    ST Γ (A.deeper (envI φ h.objs.size f c' clos)) (envI φ h.objs.size f c' clos) (hideAll h H) φ.scope X₀ X (puts ρf φ.is pvs) h1 := by
  have hsc' := I.ok.sc
  unfold inScope at hsc'
  simp only [Bool.and_eq_true, Bool.not_eq_true', decide_eq_true_eq, List.all_eq_true, beq_iff_eq] at hsc'
  obtain ⟨⟨⟨⟨⟨hkind, hco⟩, hgen⟩, hnc⟩, hps⟩, hnd⟩ := hsc'
  have notCell : ∀ y, φ.scope.names.lookup y ≠ some .cell := fun y q => by
    have := hnc _ (PySem.mem_of_lookup q)
    simp at this
  have hn' : (((φ.ps.zip args).reverse).map (·.1)).Nodup := by
    rw [List.map_reverse]
    exact List.pairwise_reverse.mpr ((zip_nodup hnd).imp fun z => z.symm)
  have slotF : ∀ {x : Str} {c : Addr} {v : Value}, φ.scope.names.lookup x = some .free → clos.lookup x = some c → h.IsCell c (some v) → Slot (envI φ h.objs.size f c' clos) x h1 v := fun e2 e3 ic => .inr ⟨.inr e2, _, e3, ic.keeps hk⟩
  have st := I.st
  obtain ⟨mF, Fm⟩ := I.act.fr
  obtain ⟨outer, hA, hFF⟩ := I.act.bel
  have loc : e₀.locals < h.objs.size := let ⟨o, _, _, e, _⟩ := Fm.ns; Heap.lt_size e
  refine { xc := { act := { hh := I.act.hh, bel := ⟨e₀ :: outer, by show A.frames.map _ = _; rw [hA]; rfl, FF.cons (by show φ.scope.kind ≠ _; rw [hkind]; decide) rfl hns (fresh_none (Nat.le_trans I.act.rbs (Nat.le_of_lt loc))) (hFF.of fun L m n => ⟨m, n.keeps hk⟩)⟩, rbs := Nat.le_trans I.act.rbs (Nat.le_of_lt loc), h0 := I.hB.symm, frame := rfl, kind := hkind, fr := ⟨_, hns, fun b o eb => hk b o (of_hideAll _ eb), by rw [hideAll_size]; exact Nat.le_refl _⟩, kin := I.hK, top := I.act.top.keeps st, tab := ⟨fun t ht => (I.act.tab.tabs t ht).keeps hk, fun b o eb => hk b o (of_hideAll _ (I.hB ▸ eb))⟩, tab0 := fun t ht => ?_, code := fun t ht => (I.act.code t ht).keeps st }, dep := ?_, unt := ?_, en := { kind := hkind, glob := rfl, bltn := rfl, loc := ⟨_, hns⟩, kloc := fun y e => e, kcell := fun y e => absurd e (notCell y), kfree := fun y e => ⟨.inr e, I.has y e⟩, kglob := fun y e => e, cell := fun y c q => let ⟨v, ic⟩ := (I.cl y c q).2; ⟨v, ic.keeps hk⟩, inj := I.inj }, vars := fun i y kd h2 h3 h4 hu => ?_, alloc := fun a q => let ⟨o, e⟩ := I.al a q; ⟨o, hk a o e⟩, own0 := ⟨fresh_none (by rw [hideAll_size]; exact Nat.le_refl _), fun y c q => absurd q (notCell y)⟩ }, own1 := fun y i xs v h1 h2 h3 => ?_, own2 := fun y z i j xs ys a _ _ h3 h4 _ _ => I.own2 i j xs ys (puts_own h3) (puts_own h4), sub := I.hX, own3 := .no fun i xss q => I.own3 i xss (puts_own2 q) }
  · have hm : t.P ∈ Γ.C.Ps := List.mem_map.mpr ⟨t, ht, rfl⟩
    refine ⟨hideAll_none _ (I.hP _ hm), fun q => ?_⟩
    obtain ⟨ps', e⟩ := I.act.tab.obj hm
    have := Heap.lt_size e
    rw [q] at this
    exact Nat.lt_irrefl _ this
  · have := I.dep
    show A.depth + 1 + Γ.D < _
    (first | lia | omega)
  · have := I.unt
    show A.units + 3 + Γ.U < _
    (first | lia | omega)
  · rcases puts_inv (is := φ.is) (xs := pvs) (ρ := ρf) (i := i) with q | ⟨j, z, q1, q2, q3⟩
    · rw [q] at hu ⊢
      obtain ⟨x, c, v, e1, e2, e3, ic, r⟩ := I.fv i hu
      cases varOf_inj h2 e1
      exact ⟨v, slotF e2 e3 ic, r.kp' hk⟩
    · obtain ⟨w, e1, e2⟩ := varsOf_get I.ok.is q1
      cases varOf_inj h2 e2
      obtain ⟨v, e3, rv⟩ := hr.get q2
      rw [q3]
      exact ⟨v, .inl ⟨hps _ (List.mem_of_getElem? e1), _, hns, lookup_nodup hn' (List.mem_reverse.mpr (List.mem_of_getElem? (i := _) (by rw [List.getElem?_zip_eq_some]; exact ⟨e1, e3⟩)))⟩, rv.keep fun a o _ _ eb => hk a o eb⟩
  · have ho := puts_own h2
    obtain ⟨x, c, u, e1, e2, e3, ic, r⟩ := I.fv i (by rw [ho]; nofun)
    cases varOf_inj h1 e1
    rw [ho] at r
    obtain ⟨a, vs, rfl, _⟩ := r
    obtain ⟨p1, p2, p3⟩ := I.own1 i xs _ c a ho h1 e3 ic
    cases Slot.fun h3 (slotF e2 e3 ic)
    exact ⟨a, rfl, p1, p2, hideAll_none _ p3⟩
/-- a call of an inner def's function -/
theorem call_fn {K₀ : Frag} {b₀ : Heap} {H : List Addr} {ρf : PEnv} {args : List Value} {pvs : List PV} {Q : Value → Heap → Prop} (I : CallIn Γ K₀ b₀ A e₀ h₀ h X₀ X H φ f clos ρf) (hl : φ.ps.length = pvs.length) (hr : RepL h X pvs args)
    (hb : ∀ c' L' h1, (∀ b o, h.get? b = some o → h1.get? b = some o) → h.get? L' = none → ST Γ (A.deeper (envI φ L' f c' clos)) (envI φ L' f c' clos) (hideAll h H) φ.scope X₀ X (puts ρf φ.is pvs) h1 →
      WU Γ.C (A.deeper (envI φ L' f c' clos)) (execs φ.body (envI φ L' f c' clos)) h1 fun fl h2 => Act Γ.C (A.deeper (envI φ L' f c' clos)) (envI φ L' f c' clos) (hideAll h H) h2 ∧ Q (retV fl) h2) :
    WU Γ.C A (call (.ref f) args) h fun v h2 => Ext H h h2 ∧ TabsOk (Γ.C.withK K₀ b₀) h2 ∧ Q v h2 := WU.of fun s hs => by
  subst hs
  have hsc' := I.ok.sc
  unfold inScope at hsc'
  simp only [Bool.and_eq_true, Bool.not_eq_true', decide_eq_true_eq, List.all_eq_true, beq_iff_eq] at hsc'
  obtain ⟨⟨⟨⟨⟨hkind, hco⟩, hgen⟩, hnc⟩, hps⟩, hnd⟩ := hsc'
  obtain ⟨c', doc, pm, ctv, ho, hrec, hcf⟩ := I.fn
  refine wpAny_call ?_
  have hdep := I.dep
  have hunt := I.unt
  refine codeAny_call_function (by (first | lia | omega)) ho rfl hco hgen rfl hrec (BindsTo.of_eq (s := s) (I.ok.bind clos args doc pm c' ctv (by rw [hr.length, hl])) _ _ _ _ ?_)
  refine wpAny_newFunctionEnv (fun x hx q => by have := hnc x hx; rw [q] at this; cases this) (fun x hx => hps _ (zip_fst (List.mem_map.mpr ⟨x, hx, rfl⟩))) (fun h1 hns hsb => ?_) hkind
  have hk : ∀ b o, s.heap.get? b = some o → h1.get? b = some o := fun b o eb => hsb.extBut b o (Nat.ne_of_lt (Heap.lt_size eb)) (Heap.get?_push_of_some _ eb)
  refine ⟨I.act.nolimit.keeps hk, codeAny_func ?_⟩
  refine (hb c' s.heap.objs.size h1 hk (fresh_none (Nat.le_refl _)) (enterI I hr hns hk)).go fun fl h2 tk2 ⟨act2, q⟩ => ?_
  obtain ⟨m2, F2⟩ := act2.fr
  exact ⟨h2, tk2, rfl, .of_but fun b o hb eb => F2.keep b o (hideAll_get _ eb hb), ⟨fun t ht => act2.tab.tabs t ht, fun b o eb => F2.keep b o (I.st b o (I.act.h0 ▸ eb))⟩, by cases fl <;> exact q⟩
end

end
end Mine
namespace Mine
section
open PySem.Calls
/-- a heap's objects, one and all -/
noncomputable def allUpto (g : Heap) : Nat → Frag
  | 0 => []
  | n + 1 => match g.get? n with
    | some o => (n, o) :: allUpto g n
    | none => allUpto g n
noncomputable def allOf (g : Heap) : Frag := allUpto g g.objs.size
theorem allUpto_lookup (g : Heap) (a : Addr) : ∀ n, (allUpto g n).lookup a = if a < n then g.get? a else none
  | 0 => by simp [allUpto]
  | n + 1 => by
    have ih := allUpto_lookup g a n
    unfold allUpto
    by_cases h : a = n
    · subst h
      cases q : g.get? a with
      | some o => simp
      | none => simp [ih]
    · have e' : (a == n) = false := by simpa using h
      have hlt : (a < n + 1) ↔ a < n := ⟨fun q => Nat.lt_of_le_of_ne (Nat.le_of_lt_succ q) h, fun q => Nat.lt_succ_of_lt q⟩
      simp only [hlt]
      cases q : g.get? n with
      | some o => simp only [List.lookup_cons, e']; exact ih
      | none => exact ih
theorem allOf_lookup (g : Heap) (a : Addr) : (allOf g).lookup a = g.get? a := by
  unfold allOf
  rw [allUpto_lookup]
  split
  · rfl
  · rename_i h
    exact (fresh_none (Nat.le_of_not_lt h)).symm
theorem allOf_in (g : Heap) : (allOf g).In g := fun a o e => by rw [allOf_lookup] at e; exact e
theorem allOf_sub {g h : Heap} (x : (allOf g).In h) : ∀ b o, g.get? b = some o → h.get? b = some o := fun b o e => x b o (by rw [allOf_lookup]; exact e)

section
variable {Γ : Fx} {C : Cx} {h₀ : Heap} {A : Around} {sc : Scope} {e : Env} {ρ : PEnv} {X₀ X : List Addr} {h h' : Heap} {e₀ env : Env} {φ : FnS} {clos : List (Str × Addr)} {f : Addr} {ρf : PEnv} {nm : List Str} {K₀ : Frag} {b₀ : Heap}
theorem codeRec_notP {c' : Addr} {q : Str} (t : TabsOk C h) (r : h.CodeRec (.ref c') q) : c' ∉ C.Ps := fun hm => by
  obtain ⟨tb, htb, rfl⟩ := List.mem_map.mp hm
  obtain ⟨ps, h1, h2⟩ := t.tabs tb htb
  obtain ⟨c3, o3, vs3, t3, e3, ho3, hd3, hv3⟩ := r
  cases e3
  rw [h1] at ho3; cases ho3
  cases hd3
  rcases h2 with rfl | ⟨c2, rfl, _⟩
  · cases hv3
  · simp [rawInt] at hv3

theorem IsFn.ext {W : List Addr} (x : IsFn h f φ clos) (k : Ext W h h') (hW : ∀ b o vs, h.get? b = some o → o.data = .fields vs → (∃ (i : Nat) (q : Str) (t : Tok), vs[i]? = some (Value.str q t)) → b ∉ W) (hf : f ∉ W) : IsFn h' f φ clos := by
  obtain ⟨c', doc, pm, ctv, e1, e2, e3⟩ := x
  refine ⟨c', doc, pm, ctv, k.at hf e1 (fun _ _ q => by cases q), ?_, e3⟩
  obtain ⟨c3, o3, vs3, t3, e4, ho3, hd3, hv3⟩ := e2
  cases e4
  obtain ⟨sl, e5, _⟩ := k c' o3 (hW _ _ _ ho3 hd3 ⟨_, _, _, hv3⟩) ho3
  exact ⟨c', _, vs3, t3, rfl, e5, hd3, hv3⟩
theorem code_notP {b : Addr} {o : Obj} {vs : Array Value} {i : Nat} {q : Str} {z : Tok} (t : TabsOk C h) (e : h.get? b = some o) (hd : o.data = .fields vs) (hv : vs[i]? = some (.str q z)) : b ∉ C.Ps := fun hm => by
  obtain ⟨tb, htb, rfl⟩ := List.mem_map.mp hm
  obtain ⟨ps, h1, h2⟩ := t.tabs tb htb
  rw [h1] at e; cases e
  cases hd
  rcases h2 with rfl | ⟨c2, rfl, _⟩
  · cases i with
    | zero => cases hv
    | succ i => simp at hv
  · match i, hv with
    | 0, hv => simp [rawInt] at hv
    | 1, hv => simp [rawInt] at hv
    | 2, hv => simp [rawInt] at hv
    | i + 3, hv => simp at hv
theorem IsFn.notPf (x : IsFn h f φ clos) (t : TabsOk C h) : f ∉ C.Ps := by
  obtain ⟨c', doc, pm, ctv, e1, e2, e3⟩ := x
  exact t.notPd e1 fun vs q => by cases q
theorem IsFn.move (x : IsFn h f φ clos) (t : TabsOk C h) (k : Ext C.Ps h h') : IsFn h' f φ clos := x.ext k (fun _ _ _ e1 e2 ⟨_, _, _, e3⟩ => code_notP t e1 e2 e3) (x.notPf t)
theorem IsFn.put {x : Str} {v : Value} (fn : IsFn h f φ clos) (en : EnvOk C sc e h) (t : TabsOk C h) (p : PutR C h₀ e x v h h') : IsFn h' f φ clos := by
  obtain ⟨a, ha, ha0, _, kk⟩ := p.ex
  have off : ∀ b o, h.get? b = some o → (∀ es ep, o.data ≠ .dict es ep) → (∀ w, o.data ≠ .cell w) → b ≠ a := fun b o eb h1 h2 q => by
    rcases ha with z | ⟨y, z⟩
    · obtain ⟨m, o2, es2, ep2, z1, z2, _⟩ := en.loc
      rw [← z, ← q, eb] at z1; cases z1
      exact h1 _ _ z2
    · obtain ⟨w, o2, z1, z2⟩ := en.cell y a z
      rw [← q, eb] at z1; cases z1
      exact h2 _ z2
  have fn' := fn
  obtain ⟨c', doc, pm, ctv, e1, e2, e3⟩ := fn'
  exact fn.ext kk (fun b o vs ho hd ⟨_, _, _, hv⟩ q => (List.mem_cons.mp q).elim (off b o ho (fun _ _ q => by rw [hd] at q; cases q) fun _ q => by rw [hd] at q; cases q) (code_notP t ho hd hv)) fun q => (List.mem_cons.mp q).elim (off _ _ e1 (fun _ _ q => by cases q) fun _ q => by cases q) (fn.notPf t)
theorem IsFn.keeps (x : IsFn h f φ clos) (k : ∀ b o, h.get? b = some o → h'.get? b = some o) : IsFn h' f φ clos := by
  obtain ⟨c', doc, pm, ctv, e1, e2, e3⟩ := x
  exact ⟨c', doc, pm, ctv, k _ _ e1, e2.keeps k, e3⟩
/-- an inner def's function, its cells and what its free names stand for -/
structure ClF (nm : List Str) (h : Heap) (f : Addr) (φ : FnS) (clos : List (Str × Addr)) (ρf : PEnv) : Prop where
  fn : IsFn h f φ clos
  cl : ∀ x c, clos.lookup x = some c → ∃ v, h.IsCell c v
  inj : ∀ x y c, clos.lookup x = some c → clos.lookup y = some c → x = y
  has : ∀ x, φ.scope.names.lookup x = some .free → ∃ c, clos.lookup x = some c
  fv : ∀ i, get ρf i ≠ .undef → ∃ x c v, varOf nm x = some i ∧ φ.scope.names.lookup x = some .free ∧ clos.lookup x = some c ∧ h.IsCell c (some v) ∧ isV (get ρf i) ∧ Rep h [] (valB (get ρf i)) v
theorem ClF.keeps (x : ClF nm h f φ clos ρf) (k : ∀ b o, h.get? b = some o → h'.get? b = some o) : ClF nm h' f φ clos ρf :=
  { fn := x.fn.keeps k, cl := fun y c q => let ⟨v, i⟩ := x.cl y c q; ⟨v, i.keeps k⟩, inj := x.inj, has := x.has, fv := fun i q => let ⟨y, c, v, a1, a3, a4, a5, a2, a6⟩ := x.fv i q; ⟨y, c, v, a1, a3, a4, a5.keeps k, a2, a6.keep fun a o _ _ eb => k a o eb⟩ }
/-- where an inner def's function was made -/
structure DefAt (sc : Scope) (env : Env) (φ : FnS) (clos : List (Str × Addr)) : Prop where
  free : ∀ x, (x, NameKind.free) ∈ φ.scope.names → sc.names.lookup x = some .cell
  cl : closureFor φ.scope env = pure clos
  cl1 : ∀ n c, clos.lookup n = some c → env.cells.lookup n = some c ∧ (n, NameKind.free) ∈ φ.scope.names
  cl2 : ∀ n, (n, NameKind.free) ∈ φ.scope.names → ∃ c, clos.lookup n = some c
theorem cell_hid {H : List Addr} {cc : Addr} {w : Option Value} (ic : h.IsCell cc w) (n : cc ∉ H) : (hideAll h H).IsCell cc w := let ⟨o, e1, e2⟩ := ic; ⟨o, hideAll_get _ e1 n, e2⟩
/-- an inner def's function as seen from the ground of its calls; H: the tables, and lists -/
theorem clf_of {H : List Addr} (c : XC Γ A e₀ h₀ sc env ρ X h) (hH : ∀ b ∈ H, b ∈ Γ.C.Ps ∨ ∃ xs, h.IsList b xs ∧ b ∈ X) (fn : IsFn h f φ clos) (D : DefAt sc env φ clos)
    (hρ : ∀ i, get ρf i ≠ .undef → get ρ i = get ρf i ∧ isV (get ρf i) ∧ ∃ x, varOf Γ.nm x = some i ∧ φ.scope.names.lookup x = some .free) : ClF Γ.nm (hideAll h H) f φ clos ρf := by
  have off : ∀ {b : Addr} {o : Obj}, h.get? b = some o → b ∉ Γ.C.Ps → (∀ xs k, o.data ≠ .seq xs k) → b ∉ H := fun eb hp hd q => (hH _ q).elim hp fun ⟨xs, l, _⟩ => by
    obtain ⟨o', e1, _, n, e2⟩ := l
    rw [eb] at e1; cases e1
    exact hd _ _ e2
  have cell : ∀ {cc : Addr} {w : Option Value}, h.IsCell cc w → (hideAll h H).IsCell cc w := fun ic => cell_hid ic (let ⟨o, e1, e2⟩ := ic; off e1 (c.act.tab.notPd e1 fun vs q => by rw [e2] at q; cases q) fun xs k q => by rw [e2] at q; cases q)
  refine { fn := ?_, cl := fun x cc q => ?_, inj := fun x y cc q q' => c.en.inj x y cc (D.cl1 x cc q).1 (D.cl1 y cc q').1, has := fun x q => D.cl2 x (PySem.mem_of_lookup q), fv := fun i q => ?_ }
  · obtain ⟨c', doc, pm, ctv, e1, e2, e3⟩ := fn
    refine ⟨c', doc, pm, ctv, hideAll_get _ e1 (off e1 (c.act.tab.notPd e1 fun vs q => by cases q) fun xs k q => by cases q), ?_, e3⟩
    have hn := codeRec_notP c.act.tab e2
    obtain ⟨c3, o3, vs3, t3, e4, ho3, r3, r4⟩ := e2
    cases e4
    exact ⟨c', o3, vs3, t3, rfl, hideAll_get _ ho3 (off ho3 hn fun xs k q => by rw [r3] at q; cases q), r3, r4⟩
  · obtain ⟨w, ic⟩ := c.en.cell x cc (D.cl1 x cc q).1
    exact ⟨w, cell ic⟩
  · obtain ⟨q1, iv, x, q2, q3⟩ := hρ i q
    have hx := D.free x (PySem.mem_of_lookup q3)
    obtain ⟨v, sl, r⟩ := c.vars i x _ q2 hx rfl (by rw [q1]; exact q)
    obtain ⟨cc, hcc⟩ := D.cl2 x (PySem.mem_of_lookup q3)
    refine ⟨x, cc, v, q2, q3, hcc, ?_, iv, ?_⟩
    · rcases sl with ⟨kl, _⟩ | ⟨_, c2, l, ic⟩
      · rw [(c.en.kcell x hx).1] at kl; cases kl
      · rw [(D.cl1 x cc hcc).1] at l; cases l
        exact cell ic
    · rw [q1, iv.eq] at r
      refine Rep.avoid (X := X) (fun _ q => by cases q) (Rep.keep (fun a o ha sq eb => hideAll_get _ eb fun q => ?_) r)
      rcases hH a q with hp | ⟨xs, l, hX⟩
      · exact c.act.tab.notP eb (by rcases sq.1 with q | q <;> rw [q] <;> nofun) hp
      · exact ha hX
/-- the call of an inner def's function whose answer is an int -/
theorem closure_call {args : List Value} {pvs : List PV} {z : Int} {st : Bool} {S : SS} (act : Act (Γ.C.withK K₀ b₀) A e₀ h₀ h) (hB : Γ.C.base = hideAll h Γ.C.Ps) (hdep : A.depth + (Γ.D + 1) < recursionLimit) (hunt : A.units + (Γ.U + 3) < cLine) (ok : φ.Ok Γ.nm) (cf : ClF Γ.nm (hideAll h Γ.C.Ps) f φ clos ρf)
    (hl : φ.ps.length = pvs.length) (hrep : RepL h [] pvs args) (hK : Γ.C.K.In (hideAll h Γ.C.Ps)) (hS : GoodStms Γ φ.scope st φ.body S) (hr : S (puts ρf φ.is pvs) fun fl _ => fl = .ret (.int z)) : W (Γ.C.withK K₀ b₀) A (call (.ref f) args) h fun v _ => ∃ t, v = .int z t := by
  have kp : ∀ b o, (hideAll h Γ.C.Ps).get? b = some o → h.get? b = some o := fun b o eb => of_hideAll Γ.C.Ps eb
  have cf' := cf.keeps kp
  refine fun s tk => (call_fn (K₀ := K₀) (b₀ := b₀) (ρf := ρf) (X₀ := []) (X := []) (H := Γ.C.Ps) (Q := fun v _ => ∃ t, v = .int z t) { act := act, hB := hB, hH := fun b hb => ⟨let ⟨ps', e1⟩ := act.tab.obj hb; ⟨_, e1⟩, (act.ground hb).2, (act.ground hb).1⟩, hP := fun _ q => q, ok := ok, fn := cf'.fn, dep := hdep, unt := hunt, al := fun _ q => (nomatch q), hX := fun _ q => q, hK := hK, cl := fun x c q => ⟨fun w => ?_, cf'.cl x c q⟩, inj := cf.inj, has := cf.has, fv := fun i q => ?_, own1 := fun i xs x c a q => ?_, own2 := fun i j xs ys q => ?_, own3 := fun i xs q => ?_ } hl hrep fun c' L' h1 hk _ E => ?_).go fun v h' tk' ⟨k, t, q⟩ => T.mk k t q
  · obtain ⟨v, o, eo, _⟩ := cf.cl x c q
    rw [hideAll_none _ w] at eo; cases eo
  · obtain ⟨x, c, v, a1, a2, a3, a4, a5, a6⟩ := cf'.fv i q
    exact ⟨x, c, v, a1, a2, a3, a4, a5.eq ▸ a6⟩
  · obtain ⟨x, c, v, _, _, _, _, a5, _⟩ := cf'.fv i (by rw [q]; nofun)
    rw [q] at a5; cases a5
  · obtain ⟨x, c, v, _, _, _, _, a5, _⟩ := cf'.fv i (by rw [q]; nofun)
    rw [q] at a5; cases a5
  · obtain ⟨x, c, v, _, _, _, _, a5, _⟩ := cf'.fv i (by rw [q]; nofun)
    rw [q] at a5; cases a5
  · refine (hS _ _ _ _ _ _ _ _ hr E).imp fun fl h2 ⟨fl', ρ', e1, P⟩ => ?_
    subst e1
    obtain ⟨X', _, _, v, rfl, rv, act2⟩ := P.ends
    exact ⟨act2, rv⟩
theorem allOf_keep {g : Heap} (act : Act (C.withK (allOf g) b₀) A e₀ h₀ h) : ∀ b o, g.get? b = some o → (hideAll h C.Ps).get? b = some o := fun b o eb =>
  have sub := allOf_sub act.kin
  hideAll_get _ (act.keep0 _ _ (sub b o eb)) fun q => by have z := sub b o eb; rw [(act.ground q).1] at z; cases z
/-- an inner def's function that calls itself -/
theorem clo_all {g : Heap} {G : Str → Option Value} {V : List PV → Int} {κ : Nat → List PV → Prop} (ok : φ.Ok nm) (cf : ClF nm g f φ clos ρf) (hG : GOk C G) (h0 : ∀ pvs, ¬ κ 0 pvs)
    (hs : ∀ (Γ : Fx) k b, Γ.C = C.withK (allOf g) b → Γ.nm = nm → Γ.G = G → (∀ pvs, κ k pvs → Γ.K f pvs) → (∀ pvs, Γ.V f pvs = .int (V pvs)) → ∀ pvs, κ (k + 1) pvs → φ.ps.length = pvs.length ∧ ∃ st S, GoodStms Γ φ.scope st φ.body S ∧ S (puts ρf φ.is pvs) fun fl _ => fl = .ret (.int (V pvs))) :
    ∀ k b pvs, κ k pvs → ConAt (C.withK (allOf g) b) k (64 + 3 * k) f pvs (.int (V pvs))
  | 0, b, pvs, q => absurd q (h0 pvs)
  | k + 1, b, pvs, q => by
    have IH := clo_all ok cf hG h0 hs k
    let Γ' : Heap → Fx := fun b' => ⟨C.withK (allOf g) b', nm, G, fun _ pvs => .int (V pvs), fun a pvs => a = f ∧ κ k pvs, k, 64 + 3 * k, hG, fun a pvs q => q.1 ▸ IH b' pvs q.2, by (first | lia | omega)⟩
    have key : ∀ b', φ.ps.length = pvs.length ∧ ∃ st S, GoodStms (Γ' b') φ.scope st φ.body S ∧ S (puts ρf φ.is pvs) fun fl _ => fl = .ret (.int (V pvs)) := fun b' => hs (Γ' b') k b' rfl rfl rfl (fun _ q => ⟨rfl, q⟩) (fun _ => rfl) pvs q
    refine ⟨?_, fun A e₀ h₀ h args X act hdep hunt al hrep => ?_⟩
    · obtain ⟨c', doc, pm, ctv, e1, _⟩ := cf.fn
      unfold keepIn
      show (match (allOf g).lookup f with | some ⟨_, _, .func _, _⟩ => true | some ⟨_, _, .cls _, _⟩ => _ | _ => false) = true
      rw [allOf_lookup, e1]
    · have gs := allOf_keep act
      obtain ⟨hl, st, S, hS, hr⟩ := key (hideAll h C.Ps)
      exact (closure_call (Γ := Γ' (hideAll h C.Ps)) (K₀ := allOf g) (b₀ := b) act rfl hdep hunt ok (cf.keeps gs) hl (RepL.avoid (X' := []) (fun _ q => by cases q) hrep) (fun b o eb => gs b o (by rw [allOf_lookup] at eb; exact eb)) hS hr).imp fun v _ _ _ q => q
theorem clo_call {args : List Value} {pvs : List PV} {k : Nat} {G : Str → Option Value} {V : List PV → Int} {κ : Nat → List PV → Prop} (act : Act C A e₀ h₀ h) (ok : φ.Ok nm) (cf : ClF nm (hideAll h C.Ps) f φ clos ρf) (hG : GOk C G) (h0 : ∀ pvs, ¬ κ 0 pvs)
    (hs : ∀ (Γ : Fx) k b, Γ.C = C.withK (allOf (hideAll h C.Ps)) b → Γ.nm = nm → Γ.G = G → (∀ pvs, κ k pvs → Γ.K f pvs) → (∀ pvs, Γ.V f pvs = .int (V pvs)) → ∀ pvs, κ (k + 1) pvs → φ.ps.length = pvs.length ∧ ∃ st S, GoodStms Γ φ.scope st φ.body S ∧ S (puts ρf φ.is pvs) fun fl _ => fl = .ret (.int (V pvs)))
    (hκ : κ (k + 1) pvs) (hrep : RepL h X pvs args) (hdep : A.depth + (k + 1) < recursionLimit) (hunt : A.units + (64 + 3 * k + 3) < cLine) : W C A (call (.ref f) args) h fun v _ => ∃ t, v = .int (V pvs) t := by
  obtain ⟨hl, st, S, hS, hr⟩ := hs ⟨C.withK (allOf (hideAll h C.Ps)) (hideAll h C.Ps), nm, G, fun _ pvs => .int (V pvs), fun a pvs => a = f ∧ κ k pvs, k, 64 + 3 * k, hG, fun a pvs q => q.1 ▸ clo_all ok cf hG h0 hs k _ pvs q.2, by (first | lia | omega)⟩ k _ rfl rfl rfl (fun _ q => ⟨rfl, q⟩) (fun _ => rfl) pvs hκ
  exact closure_call (K₀ := C.K) (b₀ := C.base) act rfl hdep hunt ok cf hl (RepL.avoid (X' := []) (fun _ q => by cases q) hrep) (allOf_in _) hS hr
end

end
end Mine
namespace Mine
section
open PySem.Calls
section
variable {Γ : Fx} {C : Cx} {h₀ : Heap} {A : Around} {sc : Scope} {e : Env} {ρ : PEnv} {X₀ X : List Addr} {h h' : Heap} {φ : FnS} {clos : List (Str × Addr)} {f : Addr} {ρf : PEnv}
/-- an inner def's place in the text -/
structure DefIn (Γ : Fx) (sc : Scope) (e : Env) (φ : FnS) (t : Tab) (pos : Pos) (i : Nat) : Prop where
  tab : t ∈ Γ.C.tabs
  un : ∀ t' ∈ Γ.C.tabs, t'.P = t.P → t' = t
  code : e.code = .ref t.c
  qual : φ.qual = t.qual
  line : pos.line = t.line
  col : pos.col = t.col
  d0 : φ.params.defaults = []
  k0 : φ.params.kw_defaults = []
  ann : annTrees φ.params none e = []
  qn : qualnameIn e φ.name φ.name = φ.qual
  tgt : IsTgt Γ sc φ.name i
  free : ∀ x, (x, NameKind.free) ∈ φ.scope.names → sc.names.lookup x = some .cell
/-- an inner def, as a statement -/
theorem s_def {t : Tab} {pos : Pos} {i : Nat} (S : ST Γ A e h₀ sc X₀ X ρ h) (D : DefIn Γ sc e φ t pos i) : WU Γ.C A (exec (.FunctionDef φ.name φ.params φ.body [] none [] φ.scope none φ.name pos) e) h fun fl h2 => fl = .next ∧ Chg Γ.C e X₀ X h h2 ∧ ∃ f clos, ST Γ A e h₀ sc X₀ X (put ρ i (.val (.fn f))) h2 ∧ IsFn h2 f φ clos ∧ DefAt sc e φ clos := fun s tk => by
  obtain ⟨clos, hcl, cl1, cl2⟩ := closure_ok (env := e) (scope := φ.scope) fun x hx => (S.xc.en.kcell x (D.free x hx)).2
  refine nestDef_K D.d0 D.k0 D.ann ?_
  rw [D.qn]
  refine (def_ok S.xc D.tab D.un D.code D.qual D.line D.col hcl).go fun v h1 tk1 k1 t1 ⟨f, e1, hf, fn⟩ => ?_
  subst e1
  have S1 := S.step k1 t1
  exact (put_ok S1.xc D.tgt).go fun _ h2 tk2 p => ⟨h2, tk2, rfl, rfl, (Chg.of_ext k1).trans (fun _ => .inl) p.chg, f, clos, S1.putV p D.tgt.i (pv := .fn f) rfl, fn.put S1.xc.en t1 p, D.free, hcl, cl1, cl2⟩
/-- the arguments of a call of an inner def's function -/
theorem s_args {Q : Value → Shared → Prop} {es : List PySem.Expr} {vs : PEnv → List PV} {k : PEnv → Prop} {p1 p2 : Pos} {iN : Nat} (c : XC Γ A e₀ h₀ sc e ρ X h) (fn : IsFn h f φ clos) (hN : IsTgt Γ sc φ.name iN) (hf : get ρ iN = .val (.fn f)) (hes : GoodL Γ sc es vs k) (hk : k ρ) {s : Shared} {tk : Nat}
    (q : ∀ h1 tk1 us, Ext Γ.C.Ps h h1 → TabsOk Γ.C h1 → IsFn h1 f φ clos → RepL h1 X (vs ρ) us → wpAny Γ.C.M A (call (.ref f) us) Q never (Sh s h1 tk1)) : wpAny Γ.C.M A (eval (.Call (.Name φ.name p1) es [] p2) e) Q never (Sh s h tk) := by
  refine wpAny_Call_NameR (name_var hN.var (by rw [hf]; nofun) c fun v rv => ?_)
  rw [hf] at rv
  cases rv
  refine callWith_of (P := FnAt f) (by rw [hes.plain p2]; rfl) keeps_F ((hes.args _ p2 ρ A e₀ h₀ e X h hk c).go fun a h1 tk1 k1 t1 ⟨hkw, ra⟩ => ?_)
  have fn1 := fn.move c.act.tab k1
  refine ⟨let ⟨c', doc, pm, ctv, e1, _⟩ := fn1; ⟨_, _, _, _, e1⟩, ?_⟩
  rw [hkw]
  exact q h1 tk1 a.pos k1 t1 fn1 ra
/-- a function that makes an inner one and answers with a call of it -/
theorem con_inner {fname qual : Str} {fparams : Arguments} {dV kV doc pm ct oc : Value} {an od : Option Addr} {osl : Array (Option Value)} {fa : Addr} {ps : List Str} {is : List Nat} {pvs : List PV} {z : Int} {t : Tab} {pos p1 p2 p3 p4 : Pos} {tst el : PySem.Expr} {es : List PySem.Expr} {iN k : Nat} {nw : Bool}
    {b : PEnv → Bool} {vs : PEnv → List PV} {v : PEnv → PV} {kt kes kel : PEnv → Prop} {V : List PV → Int} {κ : Nat → List PV → Prop} (ρf : Addr → PEnv)
    (hK : Γ.C.K.lookup fa = some ⟨oc, od, .func (fnX fname qual fparams [.FunctionDef φ.name φ.params φ.body [] none [] φ.scope none φ.name pos, .Return (some (.IfExp tst (.Call (.Name φ.name p1) es [] p2) el p3)) p4] sc [] dV kV doc pm an (.ref t.c) ct), osl⟩) (hkeep : keepIn Γ.C.K (.ref fa) = true) (hcd : codeIn Γ.C.K (.ref t.c) qual = true) (hsc : topScope sc ps = true)
    (hbind : ∀ vals : List Value, vals.length = ps.length → bindArgs (fnX fname qual fparams [.FunctionDef φ.name φ.params φ.body [] none [] φ.scope none φ.name pos, .Return (some (.IfExp tst (.Call (.Name φ.name p1) es [] p2) el p3)) p4] sc [] dV kV doc pm an (.ref t.c) ct) ⟨vals, []⟩ = pure (ps.zip vals))
    (hv : varsOf Γ.nm ps = some is) (hl : ps.length = pvs.length) (D : ∀ L, DefIn Γ sc (envOfC qual sc L fa (.ref t.c)) φ t pos iN) (ok : φ.Ok Γ.nm)
    (hρf : ∀ f i, get (ρf f) i ≠ .undef → get (put (puts [] is pvs) iN (.val (.fn f))) i = get (ρf f) i ∧ isV (get (ρf f) i) ∧ ∃ x, varOf Γ.nm x = some i ∧ φ.scope.names.lookup x = some .free)
    (ht : GoodT Γ sc tst b kt) (hes : GoodL Γ sc es vs kes) (hel : Good Γ sc el nw v kel) (hD : k + 1 ≤ Γ.D) (hU : 64 + 3 * k + 3 ≤ Γ.U) (h0 : ∀ pvs, ¬ κ 0 pvs)
    (hs : ∀ (Γ' : Fx) f k, Γ'.nm = Γ.nm → Γ'.G = Γ.G → (∀ pvs, κ k pvs → Γ'.K f pvs) → (∀ pvs, Γ'.V f pvs = .int (V pvs)) → ∀ pvs, κ (k + 1) pvs → φ.ps.length = pvs.length ∧ ∃ st S, GoodStms Γ' φ.scope st φ.body S ∧ S (puts (ρf f) φ.is pvs) fun fl _ => fl = .ret (.int (V pvs)))
    (hev : ∀ f, kt (put (puts [] is pvs) iN (.val (.fn f))) ∧ if b (put (puts [] is pvs) iN (.val (.fn f))) then kes (put (puts [] is pvs) iN (.val (.fn f))) ∧ κ (k + 1) (vs (put (puts [] is pvs) iN (.val (.fn f)))) ∧ V (vs (put (puts [] is pvs) iN (.val (.fn f)))) = z else kel (put (puts [] is pvs) iN (.val (.fn f))) ∧ v (put (puts [] is pvs) iN (.val (.fn f))) = .int z) :
    ConAt Γ.C (Γ.D + 1) (Γ.U + 3) fa pvs (.int z) := by
  refine con_by hK hkeep hcd hsc hbind hv hl fun A L g X h S s tk => ?_
  refine wpAny_execs_cons ((s_def S (D L)).go fun fl h2 tk2 ⟨e1, ch2, f, clos, S2, fn, DA⟩ => ?_)
  subst e1
  dsimp only
  obtain ⟨hq1, hq2⟩ := hev f
  have hf : get (put (puts [] is pvs) iN (.val (.fn f))) iN = .val (.fn f) := get_same ..
  have hρ := hρf f
  generalize put (puts [] is pvs) iN (.val (.fn f)) = ρ at S2 hq1 hq2 hf hρ
  refine wpAny_execs_cons (wpAny_Return_some (wpAny_IfExp ((ht ρ A _ g _ X h2 hq1 S2.xc).go fun c h3 tk3 k3 t3 e3 => ?_)))
  have S3 := S2.step k3 t3
  subst e3
  split
  · rename_i hb
    rw [if_pos hb] at hq2
    refine s_args S3.xc (fn.move S2.xc.act.tab k3) (D L).tgt hf hes hq2.1 fun h4 tk4 us k4 t4 fn4 ra => ?_
    have S4 := S3.step k4 t4
    have cf := clf_of (H := Γ.C.Ps) S4.xc (fun b hb => .inl hb) fn4 DA hρ
    have hcall := clo_call (k := k) S4.xc.act ok cf Γ.hG h0 (fun Γ' k _ _ e2 e3 => hs Γ' f k e2 e3) hq2.2.1 ra (by have := S4.xc.dep; (first | lia | omega)) (by have := S4.xc.unt; (first | lia | omega))
    rw [hq2.2.2] at hcall
    refine hcall.go fun v h5 tk5 k5 t5 r5 => ?_
    exact ⟨h5, tk5, rfl, v, rfl, r5, t5, ch2.trans (fun _ => .inl) (.of_ext ((k3.trans k4).trans k5))⟩
  · rename_i hb
    rw [if_neg hb] at hq2
    refine (hel ρ A _ g _ X h3 hq2.1 S3.xc).go fun u h4 tk4 k4 t4 r4 => ?_
    rw [hq2.2] at r4
    exact ⟨h4, tk4, rfl, u, rfl, r4.1, t4, ch2.trans (fun _ => .inl) (.of_ext (k3.trans k4))⟩
end

end
end Mine
namespace Mine
section
open PySem.Calls
noncomputable section
-- meanings, as terms
structure MV where
  v : PEnv → PV
  k : PEnv → Prop
structure ML where
  v : PEnv → List PV
  k : PEnv → Prop
structure MB where
  v : PEnv → Bool × List PV
  k : PEnv → Prop
structure MT where
  v : PEnv → Bool
  k : PEnv → Prop
structure MP where
  v : PEnv → Option Int
  k : PEnv → Prop
noncomputable def dVar (i : Nat) : MV := ⟨fun ρ => valB (get ρ i), fun ρ => isV (get ρ i)⟩
noncomputable def dInt (n : Int) : MV := ⟨fun _ => .int n, fun _ => True⟩
noncomputable def dBool (n : Bool) : MV := ⟨fun _ => .bool n, fun _ => True⟩
noncomputable def dBin (op : Operator) (a b : MV) : MV := ⟨fun ρ => vop op (a.v ρ) (b.v ρ), fun ρ => a.k ρ ∧ b.k ρ ∧ kop op (a.v ρ) (b.v ρ)⟩
noncomputable def dUn (op : UnaryOp) (a : MV) : MV := ⟨fun ρ => vun op (a.v ρ), fun ρ => a.k ρ ∧ kun op (a.v ρ)⟩
noncomputable def tCmp (op : CmpOp) (a b : MV) : MT := ⟨fun ρ => vcmp op (a.v ρ) (b.v ρ), fun ρ => a.k ρ ∧ b.k ρ ∧ kcmp op (a.v ρ) (b.v ρ)⟩
noncomputable def tVal (a : MV) : MT := ⟨fun ρ => tv (a.v ρ), fun ρ => a.k ρ ∧ tk (a.v ρ)⟩
noncomputable def tNo : MT := ⟨fun _ => false, fun _ => True⟩
noncomputable def tOr (a b : MT) : MT := ⟨fun ρ => a.v ρ || b.v ρ, fun ρ => a.k ρ ∧ (a.v ρ = false → b.k ρ)⟩
noncomputable def tYes : MT := ⟨fun _ => true, fun _ => True⟩
noncomputable def tAnd (a b : MT) : MT := ⟨fun ρ => a.v ρ && b.v ρ, fun ρ => a.k ρ ∧ (a.v ρ = true → b.k ρ)⟩
noncomputable def lNil : ML := ⟨fun _ => [], fun _ => True⟩
noncomputable def lCons (a : MV) (l : ML) : ML := ⟨fun ρ => a.v ρ :: l.v ρ, fun ρ => a.k ρ ∧ l.k ρ⟩
noncomputable def dList (l : ML) : MV := ⟨fun ρ => .lst (l.v ρ), l.k⟩
noncomputable def dTup (l : ML) : MV := ⟨fun ρ => .tup (l.v ρ), l.k⟩
noncomputable def bVar (i : Nat) : MB := ⟨fun ρ => seqB (get ρ i), fun ρ => isSB (get ρ i)⟩
noncomputable def bVal (a : MV) : MB := ⟨fun ρ => seqV (a.v ρ), fun ρ => a.k ρ ∧ isS (a.v ρ)⟩
noncomputable def dItem (b : MB) (i : MV) : MV := ⟨fun ρ => itemV (b.v ρ) (i.v ρ), fun ρ => b.k ρ ∧ i.k ρ ∧ kitem (b.v ρ) (i.v ρ)⟩
noncomputable def pNone : MP := ⟨fun _ => none, fun _ => True⟩
noncomputable def pSome (a : MV) : MP := ⟨fun ρ => some (asI (a.v ρ)), fun ρ => a.k ρ ∧ isI (a.v ρ)⟩
noncomputable def dSlice (b : MB) (lo hi st : MP) : MV := ⟨fun ρ => .lst (slc (b.v ρ).2 (lo.v ρ) (hi.v ρ) (st.v ρ)), fun ρ => b.k ρ ∧ lo.k ρ ∧ hi.k ρ ∧ st.k ρ ∧ (b.v ρ).1 = false ∧ st.v ρ ≠ some 0 ∧ (b.v ρ).2.length ≤ 16777216⟩
noncomputable def dCall (Γ : Fx) (f : Addr) (l : ML) : MV := ⟨fun ρ => Γ.V f (l.v ρ), fun ρ => True ∧ True ∧ l.k ρ ∧ Γ.K f (l.v ρ)⟩
noncomputable def dCallV (Γ : Fx) (i : Nat) (l : ML) : MV := ⟨fun ρ => Γ.V (fnA (valB (get ρ i))) (l.v ρ), fun ρ => isV (get ρ i) ∧ isF (valB (get ρ i)) ∧ l.k ρ ∧ Γ.K (fnA (valB (get ρ i))) (l.v ρ)⟩
noncomputable def dAbs (a : MV) : MV := ⟨fun ρ => .int (ab (asI (a.v ρ))), fun ρ => a.k ρ ∧ isI (a.v ρ)⟩
noncomputable def dMax (a b : MV) : MV := ⟨fun ρ => .int (mx (asI (a.v ρ)) (asI (b.v ρ))), fun ρ => a.k ρ ∧ b.k ρ ∧ isI (a.v ρ) ∧ isI (b.v ρ)⟩
noncomputable def dSum (a : MV) : MV := ⟨fun ρ => .int ((asL (a.v ρ)).map asI).sum, fun ρ => a.k ρ ∧ isL (a.v ρ) ∧ allP isI (asL (a.v ρ))⟩
noncomputable def dDivmod (a b : MV) : MV := ⟨fun ρ => qr (asI (a.v ρ)) (asI (b.v ρ)), fun ρ => a.k ρ ∧ b.k ρ ∧ isI (a.v ρ) ∧ isI (b.v ρ) ∧ asI (b.v ρ) ≠ 0 ∧ Builtin.divisionGoesByPylong (asI (a.v ρ)) (asI (b.v ρ)) = false⟩
noncomputable def dLen (b : MB) : MV := ⟨fun ρ => .int (b.v ρ).2.length, fun ρ => b.k ρ ∧ (b.v ρ).2.length ≤ 16777216⟩
noncomputable def dBits (a : MV) : MV := ⟨fun ρ => .int (bits (asI (a.v ρ))), fun ρ => a.k ρ ∧ isI (a.v ρ)⟩
noncomputable def sVal (one : Bool) (a : MV) : ML := ⟨fun ρ => (seqV (a.v ρ)).2, fun ρ => a.k ρ ∧ drawn one (a.v ρ)⟩
noncomputable def sRevd (a : MV) : ML := ⟨fun ρ => (asL (a.v ρ)).reverse, fun ρ => a.k ρ ∧ isL (a.v ρ)⟩
noncomputable def sRange (a : MV) : ML := ⟨fun ρ => zs (rng 0 1 (Builtin.Range.rangeSize 0 (asI (a.v ρ)) 1).toNat), fun ρ => a.k ρ ∧ isI (a.v ρ) ∧ krange (asI (a.v ρ))⟩
noncomputable abbrev xSet (i : Nat) (a : MV) : SS := sSet i a.v a.k
noncomputable abbrev xOwn (i : Nat) (a : MV) : SS := sOwn i a.v a.k
noncomputable abbrev xMany (is : List Nat) (a : MV) : SS := sMany is a.v a.k
noncomputable abbrev xAug (i : Nat) (op : Operator) (a : MV) : SS := sAug i op a.v a.k
noncomputable abbrev xRet (a : MV) : SS := sRet a.v a.k
noncomputable abbrev xIf (t : MT) (S U : SS) : SS := sIf t.v t.k S U
noncomputable abbrev xWhile (t : MT) (S : SS) : SS := sWhile t.v t.k S
noncomputable abbrev xFor (t : Tgt) (s : ML) (S : SS) : SS := sFor t s.v s.k S
noncomputable abbrev xApp (i : Nat) (a : MV) : SS := sApp i a.v a.k
noncomputable def xStuck : SS := fun _ _ => False
end

-- from the text
theorem good_of {Γ : Fx} {sc : Scope} {ss : List Stmt} {o : Option (SsDen Γ sc ss)} {st : Bool} {S : SS} (h : (o.map fun d => (d.st, d.S)) = some (st, S)) : GoodStms Γ sc st ss S := by
  cases o with
  | none => cases h
  | some d => cases h; exact d.h
theorem good_val {Γ : Fx} {sc : Scope} {e : PySem.Expr} {o : Option (Den Γ sc e)} {a : MV} (h : (o.map fun d => (MV.mk d.v d.k)) = some a) : ∃ nw, Good Γ sc e nw a.v a.k := by
  cases o with
  | none => cases h
  | some d => cases h; exact ⟨d.nw, d.hv⟩
theorem good_tst {Γ : Fx} {sc : Scope} {e : PySem.Expr} {o : Option (Den Γ sc e)} {a : MT} (h : (o.map fun d => (MT.mk d.t d.kt)) = some a) : GoodT Γ sc e a.v a.k := by
  cases o with
  | none => cases h
  | some d => cases h; exact d.ht
theorem good_lst {Γ : Fx} {sc : Scope} {es : List PySem.Expr} {o : Option (LDen Γ sc es)} {a : ML} (h : (o.map fun d => (ML.mk d.vs d.k)) = some a) : GoodL Γ sc es a.v a.k := by
  cases o with
  | none => cases h
  | some d => cases h; exact d.h

-- what they come to
noncomputable def ok (a : MV) (ρ : PEnv) (x : PV) : Prop := a.k ρ ∧ a.v ρ = x
noncomputable abbrev okI (a : MV) (ρ : PEnv) (x : Int) : Prop := ok a ρ (.int x)
noncomputable def okL (a : ML) (ρ : PEnv) (x : List PV) : Prop := a.k ρ ∧ a.v ρ = x
noncomputable def okB (a : MB) (ρ : PEnv) (x : List PV) : Prop := a.k ρ ∧ a.v ρ = (false, x)
noncomputable def okT (a : MT) (ρ : PEnv) (x : Bool) : Prop := a.k ρ ∧ a.v ρ = x
noncomputable def okP (a : MP) (ρ : PEnv) (x : Option Int) : Prop := a.k ρ ∧ a.v ρ = x
section
variable {Γ : Fx} {ρ : PEnv} {a b c : MV} {l : ML} {x y : Int} {u w : PV} {us ws : List PV} {i : Nat} {t r : MT} {B : MB}
theorem k_var (h : get ρ i = .val u) : ok (dVar i) ρ u := ⟨by show isV _; rw [h]; trivial, by show valB _ = _; rw [h]; rfl⟩
theorem k_int : okI (dInt x) ρ x := ⟨trivial, rfl⟩
theorem k_bin {op : Operator} (p : ok a ρ u) (q : ok b ρ w) (h : kop op u w) : ok (dBin op a b) ρ (vop op u w) := ⟨⟨p.1, q.1, by rw [p.2, q.2]; exact h⟩, by show vop op _ _ = _; rw [p.2, q.2]⟩
theorem k_add (p : okI a ρ x) (q : okI b ρ y) : okI (dBin .Add a b) ρ (x + y) := k_bin p q rfl
theorem k_sub (p : okI a ρ x) (q : okI b ρ y) : okI (dBin .Sub a b) ρ (x - y) := k_bin p q rfl
theorem kop_mul (h : bits x + bits y ≤ 134217728) : kop .Mult (.int x) (.int y) := by show (intOp .Mult x y).map _ = _; rw [show intOp .Mult x y = some (x * y) from if_pos h]; rfl
theorem kop_mod (h : y ≠ 0) : kop .Mod (.int x) (.int y) := by show (intOp .Mod x y).map _ = _; rw [show intOp .Mod x y = some (x.fmod y) from if_pos h]; rfl
theorem k_mul (p : okI a ρ x) (q : okI b ρ y) (h : bits x + bits y ≤ 134217728) : okI (dBin .Mult a b) ρ (x * y) := k_bin p q (kop_mul h)
theorem k_mod (p : okI a ρ x) (q : okI b ρ y) (h : y ≠ 0) : okI (dBin .Mod a b) ρ (x.fmod y) := k_bin p q (kop_mod h)
theorem k_fdiv (p : okI a ρ x) (q : okI b ρ y) (h : y ≠ 0 ∧ Builtin.divisionGoesByPylong x y = false) : okI (dBin .FloorDiv a b) ρ (x.fdiv y) := k_bin p q (by show (intOp .FloorDiv x y).map _ = _; rw [show intOp .FloorDiv x y = some (x.fdiv y) from if_pos h]; rfl)
theorem k_cat (p : ok a ρ (.lst us)) (q : ok b ρ (.lst ws)) (h : us.length + ws.length ≤ 16777216) : ok (dBin .Add a b) ρ (.lst (us ++ ws)) := k_bin p q (by show (if _ then _ else _) = some _; rw [if_pos h]; rfl)
theorem k_neg (p : okI a ρ x) : okI (dUn .USub a) ρ (-x) := ⟨⟨p.1, by rw [p.2]; rfl⟩, by show vun _ _ = _; rw [p.2]; rfl⟩
theorem bitNot_eq (a : Int) : Builtin.bitNot a = -a - 1 := by
  unfold Builtin.bitNot
  cases a <;> (first | lia | omega)
theorem k_inv (p : okI a ρ x) : okI (dUn .Invert a) ρ (-x - 1) := ⟨⟨p.1, by rw [p.2]; rfl⟩, by show vun _ _ = _; rw [p.2]; show PV.int (Builtin.bitNot x) = _; rw [bitNot_eq]⟩
theorem k_cmp {op : CmpOp} (p : ok a ρ u) (q : ok b ρ w) (h : kcmp op u w) : okT (tCmp op a b) ρ (vcmp op u w) := ⟨⟨p.1, q.1, by rw [p.2, q.2]; exact h⟩, by show vcmp op _ _ = _; rw [p.2, q.2]⟩
theorem k_eq (p : okI a ρ x) (q : okI b ρ y) : okT (tCmp .Eq a b) ρ (x == y) := k_cmp p q rfl
theorem k_ne (p : okI a ρ x) (q : okI b ρ y) : okT (tCmp .NotEq a b) ρ (x != y) := k_cmp p q rfl
theorem k_lt (p : okI a ρ x) (q : okI b ρ y) : okT (tCmp .Lt a b) ρ (decide (x < y)) := k_cmp p q rfl
theorem k_le (p : okI a ρ x) (q : okI b ρ y) : okT (tCmp .LtE a b) ρ (decide (x ≤ y)) := k_cmp p q rfl
theorem k_gt (p : okI a ρ x) (q : okI b ρ y) : okT (tCmp .Gt a b) ρ (decide (y < x)) := k_cmp p q rfl
theorem ite_some {p : Prop} [Decidable p] {z c : Int} (e : (if p then some z else none) = some c) : z = c := by
  split at e
  · exact Option.some.inj e
  · cases e
theorem iop_of {op : Operator} {c : Int} (e : intOp op x y = some c) : iop op x y = c := by cases op <;> first | exact Option.some.inj e | exact ite_some e | cases e
theorem k_op {op : Operator} {c : Int} (p : okI a ρ x) (q : okI b ρ y) (e : intOp op x y = some c) : okI (dBin op a b) ρ c := by
  have h := iop_of e
  subst h
  exact k_bin p q (by show (intOp op x y).map _ = _; rw [e]; rfl)
theorem k_tv (p : ok a ρ u) (h : tk u) : okT (tVal a) ρ (tv u) := ⟨⟨p.1, by rw [p.2]; exact h⟩, by show tv _ = _; rw [p.2]⟩
theorem k_tint (p : okI a ρ x) : okT (tVal a) ρ (x != 0) := k_tv p rfl
theorem k_or {q : Bool} (p : okT t ρ false) (h : okT r ρ q) : okT (tOr t r) ρ q := ⟨⟨p.1, fun _ => h.1⟩, by show (t.v ρ || r.v ρ) = _; rw [p.2, h.2]; rfl⟩
theorem k_no : okT tNo ρ false := ⟨trivial, rfl⟩
theorem k_nil : okL lNil ρ [] := ⟨trivial, rfl⟩
theorem k_cons (p : ok a ρ u) (q : okL l ρ us) : okL (lCons a l) ρ (u :: us) := ⟨⟨p.1, q.1⟩, by show a.v ρ :: l.v ρ = _; rw [p.2, q.2]⟩
theorem k_list (p : okL l ρ us) : ok (dList l) ρ (.lst us) := ⟨p.1, congrArg PV.lst p.2⟩
theorem k_tup (p : okL l ρ us) : ok (dTup l) ρ (.tup us) := ⟨p.1, congrArg PV.tup p.2⟩
theorem k_bvar (h : get ρ i = .val (.lst us)) : okB (bVar i) ρ us := ⟨by show isSB _; rw [h]; trivial, by show seqB _ = _; rw [h]; rfl⟩
theorem k_bown (h : get ρ i = .own us) : okB (bVar i) ρ us := ⟨by show isSB _; rw [h]; trivial, by show seqB _ = _; rw [h]; rfl⟩
theorem k_bval (p : ok a ρ (.lst us)) : okB (bVal a) ρ us := ⟨⟨p.1, by rw [p.2]; trivial⟩, by show seqV _ = _; rw [p.2]; rfl⟩
theorem k_item {j : Nat} (p : okB B ρ us) (q : okI b ρ x) (h : idx us.length x = some j) (hw : us[j]? = some w) : ok (dItem B b) ρ w := ⟨⟨p.1, q.1, by rw [q.2]; trivial, j, by rw [p.2, q.2]; exact h⟩, by show itemV _ _ = _; rw [p.2, q.2]; unfold itemV; rw [show idx us.length (asI (.int x)) = some j from h, Option.bind_some, hw]; rfl⟩
theorem k_pnone : okP pNone ρ none := ⟨trivial, rfl⟩
theorem k_psome (p : okI a ρ x) : okP (pSome a) ρ (some x) := ⟨⟨p.1, by rw [p.2]; trivial⟩, by show some (asI _) = _; rw [p.2]; rfl⟩
theorem k_slice {lo hi st : MP} {l h s : Option Int} (p : okB B ρ us) (q1 : okP lo ρ l) (q2 : okP hi ρ h) (q3 : okP st ρ s) (h0 : s ≠ some 0) (hl : us.length ≤ 16777216) : ok (dSlice B lo hi st) ρ (.lst (slc us l h s)) :=
  ⟨⟨p.1, q1.1, q2.1, q3.1, by rw [p.2], by rw [q3.2]; exact h0, by rw [p.2]; exact hl⟩, by show PV.lst (slc _ _ _ _) = _; rw [p.2, q1.2, q2.2, q3.2]⟩
theorem k_call {f : Addr} (p : okL l ρ us) (hK : Γ.K f us) (hV : Γ.V f us = u) : ok (dCall Γ f l) ρ u := ⟨⟨trivial, trivial, p.1, by rw [p.2]; exact hK⟩, by show Γ.V f _ = _; rw [p.2]; exact hV⟩
theorem k_callV {f : Addr} (hf : get ρ i = .val (.fn f)) (p : okL l ρ us) (hK : Γ.K f us) (hV : Γ.V f us = u) : ok (dCallV Γ i l) ρ u := ⟨⟨by rw [hf]; trivial, by rw [hf]; trivial, p.1, by rw [p.2, hf]; exact hK⟩, by show Γ.V (fnA (valB (get ρ i))) _ = _; rw [p.2, hf]; exact hV⟩
theorem k_abs (p : okI a ρ x) : okI (dAbs a) ρ (ab x) := ⟨⟨p.1, by rw [p.2]; trivial⟩, by show PV.int (ab (asI _)) = _; rw [p.2]; rfl⟩
theorem k_max (p : okI a ρ x) (q : okI b ρ y) : okI (dMax a b) ρ (mx x y) := ⟨⟨p.1, q.1, by rw [p.2]; trivial, by rw [q.2]; trivial⟩, by show PV.int (mx (asI _) (asI _)) = _; rw [p.2, q.2]; rfl⟩
theorem zs_isI : ∀ xs : List Int, allP isI (zs xs)
  | [] => trivial
  | _ :: xs => ⟨trivial, zs_isI xs⟩
theorem zs_asI : ∀ xs : List Int, (zs xs).map asI = xs
  | [] => rfl
  | x :: xs => congrArg (x :: ·) (zs_asI xs)
theorem k_sum {xs : List Int} (p : ok a ρ (.lst (zs xs))) : okI (dSum a) ρ xs.sum := ⟨⟨p.1, by rw [p.2]; trivial, by rw [p.2]; exact zs_isI xs⟩, by show PV.int ((asL _).map asI).sum = _; rw [p.2]; show PV.int ((zs xs).map asI).sum = _; rw [zs_asI]⟩
theorem k_divmod (p : okI a ρ x) (q : okI b ρ y) (h : y ≠ 0 ∧ Builtin.divisionGoesByPylong x y = false) : ok (dDivmod a b) ρ (qr x y) := ⟨⟨p.1, q.1, by rw [p.2]; trivial, by rw [q.2]; trivial, by rw [q.2]; exact h.1, by rw [p.2, q.2]; exact h.2⟩, by show qr (asI _) (asI _) = _; rw [p.2, q.2]; rfl⟩
theorem k_len (p : okB B ρ us) (h : us.length ≤ 16777216) : okI (dLen B) ρ us.length := ⟨⟨p.1, by rw [p.2]; exact h⟩, by show PV.int ((B.v ρ).2.length) = _; rw [p.2]⟩
theorem k_bits (p : okI a ρ x) : okI (dBits a) ρ (bits x) := ⟨⟨p.1, by rw [p.2]; trivial⟩, by show PV.int (bits (asI _)) = _; rw [p.2]; rfl⟩
theorem k_sval {one : Bool} (p : ok a ρ (.lst us)) : okL (sVal one a) ρ us := ⟨⟨p.1, by rw [p.2]; exact .inl trivial⟩, by show (seqV _).2 = _; rw [p.2]; rfl⟩
theorem k_stup (p : ok a ρ (.tup us)) : okL (sVal true a) ρ us := ⟨⟨p.1, by rw [p.2]; exact .inr ⟨rfl, trivial⟩⟩, by show (seqV _).2 = _; rw [p.2]; rfl⟩
theorem k_revd (p : ok a ρ (.lst us)) : okL (sRevd a) ρ us.reverse := ⟨⟨p.1, by rw [p.2]; trivial⟩, by show (asL _).reverse = _; rw [p.2]; rfl⟩
theorem k_range (p : okI a ρ x) (h : krange x) : okL (sRange a) ρ (zs (rng 0 1 (Builtin.Range.rangeSize 0 x 1).toNat)) := ⟨⟨p.1, by rw [p.2]; trivial, by rw [p.2]; exact h⟩, by show zs (rng 0 1 (Builtin.Range.rangeSize 0 (asI _) 1).toNat) = _; rw [p.2]; rfl⟩
variable {ks : List Nat} {g : Tgt} {cc : MT}
-- statements
variable {S U : SS} {Q : Fl → PEnv → Prop}
theorem q_set (p : ok a ρ u) (h : U (put ρ i (.val u)) Q) : sSeq (xSet i a) U ρ Q := ⟨p.1, by rw [p.2]; exact h⟩
theorem q_own (p : ok a ρ (.lst us)) (hp : plainL us = true) (h : U (put ρ i (.own us)) Q) : sSeq (xOwn i a) U ρ Q := ⟨p.1, by rw [p.2]; trivial, by rw [p.2]; exact hp, by rw [p.2]; exact h⟩
theorem q_many {is : List Nat} (p : ok a ρ (.tup us)) (hl : is.length = us.length) (h : U (puts ρ is us) Q) : sSeq (xMany is a) U ρ Q := ⟨p.1, by rw [p.2]; trivial, by rw [p.2]; exact hl, by rw [p.2]; exact h⟩
theorem q_aug {op : Operator} (hx : get ρ i = .val (.int x)) (p : okI a ρ y) (hk : intOp op x y = some (iop op x y)) (h : U (put ρ i (.val (.int (iop op x y)))) Q) : sSeq (xAug i op a) U ρ Q := ⟨by rw [hx]; trivial, by rw [hx]; trivial, p.1, by rw [p.2]; trivial, by rw [hx, p.2]; exact hk, by rw [hx, p.2]; exact h⟩
theorem q_ret (p : ok a ρ u) (h : Q (.ret u) ρ) : sSeq (xRet a) U ρ Q := ⟨p.1, by rw [p.2]; exact h⟩
theorem q_yes (p : okT t ρ true) (h : S ρ (onNext (fun ρ => U ρ Q) Q)) {S' : SS} : sSeq (xIf t S S') U ρ Q := ⟨p.1, by rw [p.2]; exact h⟩
theorem q_not (p : okT t ρ false) {S' : SS} (h : S' ρ (onNext (fun ρ => U ρ Q) Q)) : sSeq (xIf t S S') U ρ Q := ⟨p.1, by rw [p.2]; exact h⟩
theorem q_end (h : U ρ Q) : sNil ρ (onNext (fun ρ => U ρ Q) Q) := h
theorem q_app (hx : get ρ i = .own us) (p : ok a ρ u) (hl : us.length < 16777216) (h : U (put ρ i (.own (us ++ [u]))) Q) : sSeq (xApp i a) U ρ Q := ⟨by rw [hx]; trivial, p.1, by rw [hx]; exact hl, by rw [hx, p.2]; exact h⟩
theorem q_rev (hx : get ρ i = .own us) (hl : us.length ≤ 16777216) (h : U (put ρ i (.val (.lst us.reverse))) Q) : sSeq (sRev i) U ρ Q := ⟨by rw [hx]; trivial, by rw [hx]; exact hl, by rw [hx]; exact h⟩
theorem q_for {S : SS} (p : okL l ρ us) (h : fe g S us ρ (onNext (fun ρ => U ρ Q) Q)) : sSeq (xFor g l S) U ρ Q := ⟨p.1, by rw [p.2]; exact h⟩
theorem q_while (n : Nat) (h : wh t.v t.k S n ρ (onNext (fun ρ => U ρ Q) Q)) : sSeq (xWhile t S) U ρ Q := ⟨n, h⟩
theorem wh_yes {n : Nat} (p : okT t ρ true) (h : S ρ (onNext (fun ρ => wh t.v t.k S n ρ Q) Q)) : wh t.v t.k S (n + 1) ρ Q := ⟨p.1, by rw [p.2]; exact h⟩
theorem wh_no {n : Nat} (p : okT t ρ false) (h : Q .next ρ) : wh t.v t.k S (n + 1) ρ Q := ⟨p.1, by rw [p.2]; exact h⟩
end

end
end Mine
namespace Mine
section
open PySem.Calls
set_option backward.match.sparseCases false
/-- ints and functions: their values hang on no heap -/
noncomputable def PV.flat : PV → Bool
  | .lst _ | .tup _ => false
  | _ => true
theorem Rep.flat {X X' : List Addr} {h h' : Heap} {x : PV} {v : Value} (r : Rep h X x v) (f : x.flat = true) : Rep h' X' x v := by
  cases x <;> first | exact r | (cases f; done)
/-- what the digits' inner function does to the list -/
noncomputable def updD (w : Int) : Nat → Int → Int → Int → List Int → Option (List Int)
  | 0, _, _, _, _ => none
  | k + 1, x, l, r, vs => if l + 1 = r then (if 0 ≤ l ∧ l < vs.length ∧ vs.length ≤ 16777216 then some (vs.set l.toNat x) else none) else
    (intOp .RShift (l + r) 1).bind fun mid => (intOp .Mult (mid - l) w).bind fun sh => (intOp .RShift x sh).bind fun up => (intOp .LShift up sh).bind fun us => (intOp .BitXor x us).bind fun lo =>
      (updD w k lo l mid vs).bind fun vs => updD w k up mid r vs
noncomputable abbrev sDig : Str := "a_digits"
noncomputable abbrev sInner : Str := "inner"
noncomputable abbrev sN : Str := "n"
noncomputable def nmI : List Str := ["a_digits", "n", "inner", "x", "L", "R", "mid", "shift", "upper", "lower", "a"]
noncomputable section
noncomputable def tI : MT := tCmp .Eq (dBin .Add (dVar 4) (dInt 1)) (dVar 5)
noncomputable def putI : SS := sPut 0 (dVar 4).v (dVar 4).k (dVar 3).v (dVar 3).k
noncomputable def setsI : SS := sSeq (xSet 6 (dBin .RShift (dBin .Add (dVar 4) (dVar 5)) (dInt 1))) (sSeq (xSet 7 (dBin .Mult (dBin .Sub (dVar 6) (dVar 4)) (dVar 1))) (sSeq (xSet 8 (dBin .RShift (dVar 3) (dVar 7))) (sSeq (xSet 9 (dBin .BitXor (dVar 3) (dBin .LShift (dVar 8) (dVar 7)))) sNil)))
noncomputable def args1 : ML := lCons (dVar 9) (lCons (dVar 4) (lCons (dVar 6) lNil))
noncomputable def args2 : ML := lCons (dVar 8) (lCons (dVar 6) (lCons (dVar 5) lNil))
end
/-- the inner function's text, by what it means -/
structure TextI (G : Str → Option Value) (φ : FnS) : Prop where
  form : ∃ tst asg rp ifp s1 s2 s3 s4 q1 es1 q2 q3 r1 es2 r2 r3, φ.body = .If tst [asg, .Return none rp] [] ifp :: ([s1, s2, s3, s4] ++ [.Expr (.Call (.Name sInner q1) es1 [] q2) q3, .Expr (.Call (.Name sInner r1) es2 [] r2) r3]) ∧
    ∀ Γ : Fx, Γ.nm = nmI → Γ.G = G → GoodT Γ φ.scope tst tI.v tI.k ∧ GoodStms Γ φ.scope true [asg] (sSeq putI sNil) ∧ GoodStms Γ φ.scope true [s1, s2, s3, s4] setsI ∧ GoodL Γ φ.scope es1 args1.v args1.k ∧ GoodL Γ φ.scope es2 args2.v args2.k
  free : φ.scope.names.lookup sDig = some .free ∧ φ.scope.names.lookup sInner = some .free ∧ φ.scope.names.lookup sN = some .free
  kind : φ.scope.kind = .function
  is : φ.is = [3, 4, 5]
  ps : φ.ps.length = 3
noncomputable def rhoI (f : Addr) (w : Int) : PEnv := [.undef, .val (.int w), .val (.fn f)]
/-- all that a call of it leans on -/
structure InI (C : Cx) (h : Heap) (f a : Addr) (w : Int) (φ : FnS) (clos : List (Str × Addr)) : Prop where
  cf : ClF nmI (hideAll h (a :: C.Ps)) f φ clos (rhoI f w)
  dig : ∃ c, clos.lookup sDig = some c ∧ (hideAll h (a :: C.Ps)).IsCell c (some (.ref a))
  notP : a ∉ C.Ps
theorem InI.move {C : Cx} {g h : Heap} {f a : Addr} {w : Int} {φ : FnS} {clos : List (Str × Addr)} (x : InI C g f a w φ clos) (k : ∀ b o, (hideAll g (a :: C.Ps)).get? b = some o → h.get? b = some o) : InI C h f a w φ clos := by
  have k' : ∀ b o, (hideAll g (a :: C.Ps)).get? b = some o → (hideAll h (a :: C.Ps)).get? b = some o := fun b o eb => hideAll_get _ (k b o eb) fun q => by rw [hideAll_none _ q] at eb; cases eb
  exact { cf := x.cf.keeps k', dig := let ⟨c, e1, e2⟩ := x.dig; ⟨c, e1, e2.keeps k'⟩, notP := x.notP }
/-- what its call does -/
noncomputable def DigC (C : Cx) (k : Nat) (f a : Addr) (w : Int) (φ : FnS) (clos : List (Str × Addr)) : Prop := ∀ x l r vs vs', updD w k x l r vs = some vs' → ∀ A e₀ h₀ h us args, Act C A e₀ h₀ h → A.depth + k < recursionLimit → A.units + (64 + 3 * k) < cLine → InI C h f a w φ clos →
  a ≠ e₀.locals → h₀.get? a = none → h.PlainList a (us : List Value).toArray → IntsAre us vs → RepL h [] [.int x, .int l, .int r] args → WU C A (call (.ref f) args) h fun v h2 => v = .none ∧ Ext (a :: C.Ps) h h2 ∧ TabsOk C h2 ∧ ∃ us', h2.PlainList a (us' : List Value).toArray ∧ IntsAre us' vs'
theorem execs_app {rest : List Stmt} {e : Env} : ∀ ss : List Stmt, execs (ss ++ rest) e = (do match ← execs ss e with | .next => execs rest e | f => pure f)
  | [] => by show _ = (pure Flow.next >>= _); rw [pure_bind]; rfl
  | s :: ss => by
    show execs (s :: (ss ++ rest)) e = _
    rw [arm_execs_cons, arm_execs_cons, bind_assoc]
    congr 1; funext f
    cases f <;> first | exact execs_app ss | rw [pure_bind]
section
variable {Γ : Fx} {C : Cx} {h₀ : Heap} {A : Around} {sc : Scope} {e : Env} {ρ : PEnv} {X₀ X : List Addr} {h h' : Heap} {e₀ : Env} {φ : FnS} {clos : List (Str × Addr)} {f a : Addr} {k : Nat} {w x y r : Int} {vs vs' : List Int}
/-- a call of it, as a statement -/
theorem call_upd {es : List PySem.Expr} {l : ML} {z1 z2 z3 : Pos} (S : ST Γ A e h₀ sc X₀ X ρ h) (hl : GoodL Γ sc es l.v l.k) (hv : IsVar Γ sc sInner 2) (hd : IsVar Γ sc sDig 0) (h2 : get ρ 2 = .val (.fn f)) (h0 : get ρ 0 = .own (zs vs)) (sl : Slot e sDig h (.ref a)) (pa : okL l ρ [.int x, .int y, .int r])
    (hu : updD w k x y r vs = some vs') (IH : DigC Γ.C k f a w φ clos) (I : ∀ h1, Ext Γ.C.Ps h h1 → TabsOk Γ.C h1 → InI Γ.C h1 f a w φ clos) (hk : k ≤ Γ.D) (hU : 64 + 3 * k ≤ Γ.U) (hal : a ≠ e.locals) :
    WU Γ.C A (exec (.Expr (.Call (.Name sInner z1) es [] z2) z3) e) h fun fl h' => fl = .next ∧ ST Γ A e h₀ sc X₀ X (put ρ 0 (.own (zs vs'))) h' ∧ Ext (a :: Γ.C.Ps) h h' := fun s tk => by
  refine wpAny_Expr_any (wpAny_Call_NameR (name_var hv (by rw [h2]; nofun) S.xc fun v rv => ?_)) (notInter S.xc)
  rw [h2] at rv
  cases rv
  refine callWith_of (P := FnAt f) (by rw [hl.plain z2]; rfl) keeps_F ((hl.args _ z2 ρ A e h₀ e X h pa.1 S.xc).go fun aa h1 tk1 k1 t1 ⟨hkw, ra⟩ => ?_)
  rw [pa.2] at ra
  have I1 := I h1 k1 t1
  refine ⟨let ⟨c', doc, pm, ctv, ee, _⟩ := I1.cf.fn; ⟨_, _, _, _, of_hideAll _ ee⟩, ?_⟩
  rw [hkw]
  have S1 := S.step k1 t1
  have sl1 := sl.ext S.xc.act.tab k1
  obtain ⟨a', e', haX, haX0, hg⟩ := S1.own1 sDig 0 _ _ hd.i h0 sl1
  cases e'
  obtain ⟨kd, hkd, hvis⟩ := hd.k
  obtain ⟨v, sl2, hh⟩ := S1.xc.vars 0 sDig kd hd.i hkd hvis (by rw [h0]; nofun)
  rw [h0] at hh
  obtain ⟨a2, us, rfl, pl, hr⟩ := hh
  cases Slot.fun sl2 sl1
  refine (IH x y r vs vs' hu A e h₀ h1 us aa.pos S1.xc.act (by have := S1.xc.dep; (first | lia | omega)) (by have := S1.xc.unt; (first | lia | omega)) I1 hal hg pl hr.ints (RepL.avoid (X' := []) (fun _ q => by cases q) ra)).go fun v h3 tk3 ⟨e1, k3, t3, us', pl3, i3⟩ => ?_
  subst e1
  exact ⟨h3, tk3, rfl, rfl, S1.mut hd.i h0 sl1 pl.isList k3 t3 pl3 (.of_ints i3), Ext.trans (fun b o hb eb => k1 b o (fun q => hb (.tail _ q)) eb) k3⟩
/-- what the frame's own list is -/
theorem dig_slot {c' L : Addr} (I : InI C h' f a w φ clos) (hn : Γ.nm = nmI) (hf : φ.scope.names.lookup sDig = some .free) (S : ST Γ A (envI φ L f c' clos) (hideAll h' (a :: C.Ps)) φ.scope X₀ X ρ h) (h0 : get ρ 0 = .own (zs vs)) : Slot (envI φ L f c' clos) sDig h (.ref a) ∧ ∃ us, h.PlainList a (us : List Value).toArray ∧ IntsAre us vs := by
  obtain ⟨v, sl, hh⟩ := S.xc.vars 0 sDig .free (by rw [hn]; rfl) hf rfl (by rw [h0]; nofun)
  rw [h0] at hh
  obtain ⟨a2, us, rfl, pl, hr⟩ := hh
  obtain ⟨c, e1, e2⟩ := I.dig
  have sl' : Slot (envI φ L f c' clos) sDig h (.ref a) := .inr ⟨.inr hf, c, e1, e2.keeps S.xc.act.keep0⟩
  cases Slot.fun sl sl'
  exact ⟨sl', us, pl, hr.ints⟩
theorem call_in {us : List Value} (Γ : Fx) (hC : Γ.C = C.withK C.K (hideAll h (a :: C.Ps))) (hn : Γ.nm = nmI) (ok : φ.Ok nmI) (T : TextI G φ) (act : Act C A e₀ h₀ h) (hd : A.depth + (Γ.D + 1) < recursionLimit) (hu : A.units + (Γ.U + 3) < cLine) (I : InI C h f a w φ clos) (hal : a ≠ e₀.locals) (ha0 : h₀.get? a = none) (pl : h.PlainList a us.toArray) (hi : IntsAre us vs) :
    CallIn Γ C.K C.base A e₀ h₀ h [] [a] (a :: C.Ps) φ f clos [.own (zs vs), .val (.int w), .val (.fn f)] := by
  obtain ⟨ΓC, Γnm, ΓG, ΓV, ΓK, ΓD, ΓU, z1, z2, z3⟩ := Γ
  dsimp only at hC hn hd hu ⊢
  subst hC
  subst hn
  have hg : ∀ b o, (hideAll h (a :: C.Ps)).get? b = some o → h.get? b = some o := fun b o eb => of_hideAll _ eb
  have cf := I.cf.keeps hg
  obtain ⟨cd, hcd, icd⟩ := I.dig
  have key : ∀ i xs, get [Bind.own (zs vs), .val (.int w), .val (.fn f)] i = .own xs → i = 0 := fun i xs q => match i, q with
    | 0, _ => rfl
    | 1, q => nomatch q
    | 2, q => nomatch q
    | _ + 3, q => nomatch q
  have hK : C.K.In (hideAll h (a :: C.Ps)) := fun b o eb => hideAll_get _ (act.keep0 _ _ (act.kin b o eb)) fun q => by
    have z := act.kin b o eb
    rcases List.mem_cons.mp q with q | q
    · rw [q, ha0] at z; cases z
    · rw [(act.ground q).1] at z; cases z
  refine { act := act, hB := rfl, hH := fun b hb => ?_, hP := fun _ q => .tail _ q, ok := ok, fn := cf.fn, dep := hd, unt := hu, al := fun b q => ?_, hX := fun _ q => (nomatch q), hK := hK, cl := fun x c q => ⟨fun z => ?_, cf.cl x c q⟩, inj := cf.inj, has := cf.has, fv := fun i q => ?_, own1 := fun i xs x c a' q hv hc ic => ?_, own2 := fun i j xs ys q q' => (key i xs q).trans (key j ys q').symm, own3 := fun i xs q => match i, q with
    | 0, q => nomatch q
    | 1, q => nomatch q
    | 2, q => nomatch q
    | _ + 3, q => nomatch q }
  · rcases List.mem_cons.mp hb with rfl | hb
    · obtain ⟨n, e⟩ := pl; exact ⟨⟨_, e⟩, hal, ha0⟩
    · exact ⟨let ⟨ps', e1⟩ := act.tab.obj hb; ⟨_, e1⟩, (act.ground hb).2, (act.ground hb).1⟩
  · obtain ⟨n, e⟩ := pl; rw [List.mem_singleton.mp q]; exact ⟨_, e⟩
  · obtain ⟨v, o, eo, _⟩ := I.cf.cl x c q
    rw [hideAll_none _ z] at eo; cases eo
  · have low : ∀ i, get (rhoI f w) i ≠ .undef → (valB (get (rhoI f w) i)).flat = true → get [Bind.own (zs vs), .val (.int w), .val (.fn f)] i = get (rhoI f w) i → ∃ x c v, varOf nmI x = some i ∧ φ.scope.names.lookup x = some .free ∧ clos.lookup x = some c ∧ h.IsCell c (some v) ∧ HoldsB [a] h (get [Bind.own (zs vs), .val (.int w), .val (.fn f)] i) v := fun i q fl eq => by
      obtain ⟨x, c, v, a1, a2, a3, a4, a5, a6⟩ := cf.fv i q
      refine ⟨x, c, v, a1, a2, a3, a4, ?_⟩
      rw [eq, a5.eq]
      exact a6.flat fl
    match i, q with
    | 0, _ => exact ⟨sDig, cd, .ref a, rfl, T.free.1, hcd, icd.keeps hg, a, us, rfl, pl, .of_ints hi⟩
    | 1, _ => exact low 1 nofun rfl rfl
    | 2, _ => exact low 2 nofun rfl rfl
    | _ + 3, q => exact absurd rfl q
  · cases key i xs q
    cases varOf_inj hv (show varOf nmI sDig = some 0 from rfl)
    rw [hcd] at hc; cases hc
    cases Cell.fun ic (icd.keeps hg)
    exact ⟨.head _, nofun, .head _⟩
end

end
end Mine
namespace Mine
section
open PySem.Calls
section
variable {Γ : Fx} {C : Cx} {h₀ : Heap} {A : Around} {sc : Scope} {e : Env} {ρ : PEnv} {X₀ X : List Addr} {h h' : Heap} {e₀ : Env} {φ : FnS} {clos : List (Str × Addr)} {f a : Addr} {k : Nat} {w x y r l mid sh up lo : Int} {vs vs' : List Int}
noncomputable abbrev rho6 (vs : List Int) (w : Int) (f : Addr) (x l r : Int) : PEnv := [.own (zs vs), .val (.int w), .val (.fn f), .val (.int x), .val (.int l), .val (.int r)]
theorem ok_tI : okT tI (rho6 vs w f x l r) (l + 1 == r) := k_eq (k_add (k_var rfl) k_int) (k_var rfl)
theorem ok_putI {Q : Fl → PEnv → Prop} (h1 : 0 ≤ l) (h2 : l < vs.length) (h3 : vs.length ≤ 16777216) (q : Q .next (rho6 (vs.set l.toNat x) w f x l r)) : sSeq putI sNil (rho6 vs w f x l r) Q :=
  ⟨trivial, trivial, trivial, trivial, h1, by show l < ((zs vs).length : Int); rw [List.length_map]; exact h2, by show (zs vs).length ≤ _; rw [List.length_map]; exact h3, by
    show Q .next (.own ((zs vs).set l.toNat (.int x)) :: _)
    rw [show (zs vs).set l.toNat (.int x) = zs (vs.set l.toNat x) from List.map_set.symm]
    exact q⟩
noncomputable abbrev rho10 (vs : List Int) (w : Int) (f : Addr) (x l r mid sh up lo : Int) : PEnv := rho6 vs w f x l r ++ [.val (.int mid), .val (.int sh), .val (.int up), .val (.int lo)]
theorem ok_setsI {us : Int} {Q : Fl → PEnv → Prop} (e1 : intOp .RShift (l + r) 1 = some mid) (e2 : intOp .Mult (mid - l) w = some sh) (e3 : intOp .RShift x sh = some up) (e4 : intOp .LShift up sh = some us) (e5 : intOp .BitXor x us = some lo) (q : Q .next (rho10 vs w f x l r mid sh up lo)) : setsI (rho6 vs w f x l r) Q :=
  q_set (k_op (k_add (k_var rfl) (k_var rfl)) k_int e1) (q_set (k_op (k_sub (k_var rfl) (k_var rfl)) (k_var rfl) e2) (q_set (k_op (k_var rfl) (k_var rfl) e3) (q_set (k_op (k_var rfl) (k_op (k_var rfl) (k_var rfl) e4) e5) q)))
theorem okName_mem {nm : List Str} {scope : Scope} {x : Str} {i : Nat} (h1 : okName x = true) (h2 : scope.names.lookup x = some .free) (h3 : varOf nm x = some i) (hn : Γ.nm = nm) : IsVar Γ scope x i := ⟨h1, ⟨_, h2, rfl⟩, hn ▸ h3⟩
/-- the inner function, so many calls deep -/
theorem dig_ok {G : Str → Option Value} (T : TextI G φ) (ok : φ.Ok nmI) (hmg : ∀ x v, G x = some v → mg x = some v ∨ (mg x = none ∧ mb x = some v)) : ∀ k (C : Cx), C.mg = mg → C.mb = mb → DigC C k f a w φ clos
  | 0, _, _, _ => fun x l r vs vs' hu => by cases hu
  | k + 1, C, e1, e2 => fun x l r vs vs' hu A e₀ h₀ h us args act hdep hunt I hal ha0 pl hi hargs => by
    have hG : ∀ b, GOk (C.withK C.K b) G := fun b => by rw [← e1, ← e2] at hmg; exact hmg
    have IH := dig_ok T ok hmg k (C.withK C.K (hideAll h (a :: C.Ps))) e1 e2
    obtain ⟨tst, asg, rp, ifp, s1, s2, s3, s4, q1, es1, q2, q3, r1, es2, r2, r3, hform, hm⟩ := T.form
    obtain ⟨ht, hasg, hsets, hes1, hes2⟩ := hm ⟨C.withK C.K (hideAll h (a :: C.Ps)), nmI, G, fun _ _ => .none, fun _ _ => False, k, 64 + 3 * k, hG _, fun _ _ h => h.elim, by (first | lia | omega)⟩ rfl rfl
    generalize hΓ : (⟨C.withK C.K (hideAll h (a :: C.Ps)), nmI, G, fun _ _ => .none, fun _ _ => False, k, 64 + 3 * k, hG _, fun _ _ h => h.elim, by (first | lia | omega)⟩ : Fx) = Γ at *
    have eC : Γ.C = C.withK C.K (hideAll h (a :: C.Ps)) := by rw [← hΓ]
    have eN : Γ.nm = nmI := by rw [← hΓ]
    have eD : Γ.D = k := by rw [← hΓ]
    have eU : Γ.U = 64 + 3 * k := by rw [← hΓ]
    clear hΓ
    rw [← eC] at IH
    have ePs : Γ.C.Ps = C.Ps := by rw [eC]; rfl
    have eW : Γ.C.withK C.K C.base = C := by rw [eC]
    have eM : C.M = Γ.C.M := by rw [eC]
    have I' : InI Γ.C h f a w φ clos := by rw [eC]; exact ⟨I.cf, I.dig, I.notP⟩
    unfold WU
    rw [eM]
    have CI := call_in Γ eC eN ok T act (by rw [eD]; (first | lia | omega)) (by rw [eU]; (first | lia | omega)) I hal ha0 pl hi
    refine WU.imp (C := Γ.C) (call_fn (pvs := [.int x, .int l, .int r]) (Q := fun v h2 => v = .none ∧ ∃ us', h2.PlainList a (us' : List Value).toArray ∧ IntsAre us' vs') CI T.ps (RepL.of_ints (l := [x, l, r]) (RepL.ints (l := [x, l, r]) hargs)) fun c' L' h1 hk hL' S => ?_) fun v h2 ⟨k2, t2, q, us', p, i⟩ => ⟨q, k2, eW ▸ t2, us', p, i⟩
    · have vI : IsVar Γ φ.scope sInner 2 := okName_mem rfl T.free.2.1 rfl eN
      have vD : IsVar Γ φ.scope sDig 0 := okName_mem rfl T.free.1 rfl eN
      have aL : a ≠ (envI φ L' f c' clos).locals := fun q => by obtain ⟨n, e⟩ := pl; rw [q] at e; rw [show h.get? L' = _ from e] at hL'; cases hL'
      rw [T.is] at S
      rw [hform]
      refine fun s tk => wpAny_execs_cons (wpAny_If ((ht (rho6 vs w f x l r) _ _ _ _ [a] h1 ok_tI.1 S.xc).go fun b h2 tk2 k2 t2 e2 => ?_))
      have S2 := S.step k2 t2
      rw [ok_tI.2] at e2
      subst e2
      unfold updD at hu
      by_cases hlr : l + 1 = r
      · rw [if_pos hlr] at hu
        split at hu
        · rename_i hb
          cases hu
          rw [if_pos (beq_iff_eq.mpr hlr)]
          show wpAny _ _ (execs ([asg] ++ [.Return none rp]) _) _ _ _
          rw [execs_app]
          refine wpAny_bind ((hasg (rho6 vs w f x l r) (fun fl ρ => fl = .next ∧ ρ = rho6 (vs.set l.toNat x) w f x l r) _ _ _ [] [a] h2 (ok_putI hb.1 hb.2.1 hb.2.2 ⟨rfl, rfl⟩) S2).go fun fl h3 tk3 ⟨fl', ρ', ⟨q1, q2⟩, P⟩ => ?_)
          subst q1 q2
          obtain ⟨X', x1, _, e3, S3⟩ := P.ends
          subst e3
          cases x1 rfl
          dsimp only
          refine wpAny_execs_cons ?_
          rw [arm_exec_Return]
          refine wpAny_bind (wpAny_standAt (wpAny_pure ?_))
          obtain ⟨_, us', p, i⟩ := dig_slot I eN T.free.1 S3 rfl
          exact ⟨h3, tk3, rfl, S3.xc.act, rfl, us', p, i⟩
        · cases hu
      · rw [if_neg hlr] at hu
        simp only [Option.bind_eq_some_iff] at hu
        obtain ⟨mid, e1, sh, e2, up, e3, us2, e4, lo, e5, vs1, hu1, hu2⟩ := hu
        rw [if_neg (by rw [beq_iff_eq]; exact hlr)]
        refine wpAny_execs_nil ?_
        show wpAny _ _ (execs ([s1, s2, s3, s4] ++ _) _) _ _ _
        rw [execs_app]
        refine wpAny_bind ((hsets (rho6 vs w f x l r) (fun fl ρ => fl = .next ∧ ρ = rho10 vs w f x l r mid sh up lo) _ _ _ [] [a] h2 (ok_setsI e1 e2 e3 e4 e5 ⟨rfl, rfl⟩) S2).go fun fl h3 tk3 ⟨fl', ρ', ⟨q1, q2⟩, P⟩ => ?_)
        subst q1 q2
        obtain ⟨X', x1, _, e6, S3⟩ := P.ends
        subst e6
        cases x1 rfl
        dsimp only
        have mv : ∀ {ρ : PEnv} {h3 : Heap}, ST Γ (A.deeper (envI φ L' f c' clos)) (envI φ L' f c' clos) (hideAll h (a :: C.Ps)) φ.scope [] [a] ρ h3 → ∀ h4, Ext Γ.C.Ps h3 h4 → TabsOk Γ.C h4 → InI Γ.C h4 f a w φ clos := fun S h4 k4 t4 => I'.move (by rw [ePs]; exact (S.step k4 t4).xc.act.keep0)
        obtain ⟨sl3, _⟩ := dig_slot I eN T.free.1 S3 rfl
        refine wpAny_execs_cons ((call_upd S3 hes1 vI vD rfl rfl sl3 (k_cons (k_var rfl) (k_cons (k_var rfl) (k_cons (k_var rfl) k_nil))) hu1 IH (mv S3) (by (first | lia | omega)) (by (first | lia | omega)) aL).go fun fl h4 tk4 ⟨e7, S4, _⟩ => ?_)
        subst e7
        obtain ⟨sl4, _⟩ := dig_slot I eN T.free.1 S4 rfl
        refine wpAny_execs_cons ((call_upd (vs := vs1) S4 hes2 vI vD rfl rfl sl4 (k_cons (k_var rfl) (k_cons (k_var rfl) (k_cons (k_var rfl) k_nil))) hu2 IH (mv S4) (by (first | lia | omega)) (by (first | lia | omega)) aL).go fun fl h5 tk5 ⟨e8, S5, _⟩ => ?_)
        subst e8
        obtain ⟨_, us', p, i⟩ := dig_slot I eN T.free.1 S5 rfl
        exact wpAny_execs_nil ⟨h5, tk5, rfl, S5.xc.act, rfl, us', p, i⟩
end

end
end Mine
namespace Mine
section
open PySem.Calls
noncomputable section
noncomputable def dD : MV := dBin .Mult (dList (lCons (dInt 0) lNil)) (dBin .FloorDiv (dBin .Sub (dBin .Add (dBits (dVar 10)) (dVar 1)) (dInt 1)) (dVar 1))
noncomputable def argsD : ML := lCons (dVar 10) (lCons (dInt 0) (lCons (dLen (bVar 0)) lNil))
end
/-- the text of the function that tells a number's figures -/
noncomputable def TextD (Γ : Fx) (sc : Scope) (φ : FnS) (pos : Pos) (body : List Stmt) : Prop :=
  ∃ asg ta q1 es q2 q3 ip rp rpp, body = [asg, .FunctionDef φ.name φ.params φ.body [] none [] φ.scope none φ.name pos, .If ta [.Expr (.Call (.Name sInner q1) es [] q2) q3] [] ip, .Return (some (.Name sDig rp)) rpp] ∧
    GoodStms Γ sc false [asg] (sSeq (xOwn 0 dD) sNil) ∧ GoodT Γ sc ta (tVal (dVar 10)).v (tVal (dVar 10)).k ∧ GoodL Γ sc es argsD.v argsD.k
/-- a number's figures, the lowest first, as the text has it -/
noncomputable def digP (a w : Int) (k : Nat) : Option (List Int) :=
  (intOp .FloorDiv ((bits a : Int) + w - 1) w).bind fun cnt => if 0 ≤ cnt ∧ cnt ≤ 1048576 then
    (if a = 0 then some (List.replicate cnt.toNat 0) else updD w k a 0 cnt (List.replicate cnt.toNat 0)) else none
noncomputable abbrev rhoA (a w : Int) (b0 b2 : Bind) : PEnv := [b0, .val (.int w), b2, .undef, .undef, .undef, .undef, .undef, .undef, .undef, .val (.int a)]
theorem ok_dD {a w cnt : Int} {b0 b2 : Bind} (h : intOp .FloorDiv ((bits a : Int) + w - 1) w = some cnt) (hb : 0 ≤ cnt ∧ cnt ≤ 1048576) : ok dD (rhoA a w b0 b2) (.lst (zs (List.replicate cnt.toNat 0))) := by
  have e : (List.replicate cnt.toNat [PV.int 0]).flatten = zs (List.replicate cnt.toNat 0) := by simp [zs]
  rw [← e]
  refine k_bin (op := .Mult) (k_list (k_cons k_int k_nil)) (k_op (k_sub (k_add (k_bits (k_var rfl)) (k_var rfl)) k_int) (k_var rfl) h) ?_
  show (if _ then _ else _) = some _
  rw [if_pos ⟨by (first | lia | omega), by (first | lia | omega), by show 1 * _ ≤ _; (first | lia | omega)⟩]
  rfl
theorem plain_zs : ∀ l : List Int, plainL (zs l) = true
  | [] => rfl
  | x :: l => by show (true && plainL (zs l)) = true; rw [plain_zs l]; rfl
section
variable {Γ : Fx} {A : Around} {sc : Scope} {e : Env} {ρ : PEnv} {X X' : List Addr} {h h0 : Heap} {φ : FnS} {clos : List (Str × Addr)} {f : Addr} {w : Int} {ds : List Int}
/-- a frame's own list, and its cell -/
structure OwnAt (e : Env) (g : Heap) (X X' : List Addr) (h : Heap) (d : Addr) (ds : List Int) : Prop where
  sl : Slot e sDig h (.ref d)
  pl : ∃ us, h.PlainList d (us : List Value).toArray ∧ IntsAre us ds
  inX : d ∈ X'
  notX : d ∉ X
  g0 : g.get? d = none
theorem own_at (S : ST Γ A e h0 sc X X' ρ h) (v : IsVar Γ sc sDig 0) (h1 : get ρ 0 = .own (zs ds)) : ∃ d, OwnAt e h0 X X' h d ds := by
  obtain ⟨kd, hk, hv⟩ := v.k
  obtain ⟨u, sl, hh⟩ := S.xc.vars 0 sDig kd v.i hk hv (by rw [h1]; nofun)
  obtain ⟨d, rfl, e1, e2, e3⟩ := S.own1 sDig 0 _ _ v.i h1 sl
  rw [h1] at hh
  obtain ⟨d', us, q, pl, hr⟩ := hh
  cases q
  exact ⟨d, sl, ⟨us, pl, hr.ints⟩, e1, e2, e3⟩
/-- the list is told -/
theorem dig_ret {rp rpp : Pos} (S : ST Γ A e h0 sc X X' ρ h) (v : IsVar Γ sc sDig 0) (h1 : get ρ 0 = .own (zs ds)) : WU Γ.C A (execs [.Return (some (.Name sDig rp)) rpp] e) h fun fl h2 => ∃ v, fl = .ret v ∧ Rep h2 X (.lst (zs ds)) v ∧ h2 = h := fun s tk => by
  obtain ⟨d, O⟩ := own_at S v h1
  refine wpAny_execs_cons (wpAny_Return_some (O.sl.name S.xc.en.kind ?_ (okName_ok v.ok).1 (okName_ok v.ok).2))
  obtain ⟨us, pl, hi⟩ := O.pl
  exact ⟨h, tk, rfl, .ref d, rfl, ⟨d, us, rfl, O.notX, pl.isList, .of_ints hi⟩, rfl⟩
/-- the inner function as its call from outside meets it -/
theorem in_out {d : Addr} (S : ST Γ A e h0 sc X X' ρ h) (O : OwnAt e h0 X X' h d ds) (hn : Γ.nm = nmI) (fn : IsFn h f φ clos) (D : DefAt sc e φ clos) (T : TextI Γ.G φ) (r1 : get ρ 1 = .val (.int w)) (r2 : get ρ 2 = .val (.fn f)) : InI Γ.C h f d w φ clos := by
  obtain ⟨us, pl, hi⟩ := O.pl
  have dP : d ∉ Γ.C.Ps := by obtain ⟨j, ho⟩ := pl; exact S.xc.act.tab.notP ho (by nofun)
  refine { cf := ?_, dig := ?_, notP := dP }
  · rw [← hn]
    refine clf_of S.xc (fun b hb => (List.mem_cons.mp hb).elim (fun q => .inr ⟨us.toArray, q ▸ pl.isList, q ▸ O.inX⟩) .inl) fn D fun i q => ?_
    rw [hn]
    match i, q with
    | 0, q => exact absurd rfl q
    | 1, _ => exact ⟨r1, trivial, sN, rfl, T.free.2.2⟩
    | 2, _ => exact ⟨r2, trivial, sInner, rfl, T.free.2.1⟩
    | i + 3, q => exact absurd (get_nil i) q
  · have hc := D.free sDig (PySem.mem_of_lookup T.free.1)
    obtain ⟨cd, hcd⟩ := D.cl2 sDig (PySem.mem_of_lookup T.free.1)
    have hl := (D.cl1 sDig cd hcd).1
    refine ⟨cd, hcd, ?_⟩
    rcases O.sl with ⟨kl, _⟩ | ⟨_, c2, l, ic⟩
    · rw [(S.xc.en.kcell sDig hc).1] at kl; cases kl
    · rw [hl] at l; cases l
      refine cell_hid ic fun q => ?_
      obtain ⟨o, eo, hd⟩ := ic
      rcases List.mem_cons.mp q with q | q
      · obtain ⟨j, ho⟩ := pl
        rw [q, ho] at eo; cases eo; cases hd
      · exact S.xc.act.tab.notPd eo (fun vs z => by rw [hd] at z; cases z) q
theorem con_digits {fname qual : Str} {fparams : Arguments} {dV kV doc pm ct oc : Value} {an od : Option Addr} {osl : Array (Option Value)} {fa : Addr} {t : Tab} {body : List Stmt} {pos : Pos} {a : Int} {k : Nat}
    (hK : Γ.C.K.lookup fa = some ⟨oc, od, .func (fnX fname qual fparams body sc [] dV kV doc pm an (.ref t.c) ct), osl⟩) (hkeep : keepIn Γ.C.K (.ref fa) = true) (hcd : codeIn Γ.C.K (.ref t.c) qual = true) (hsc : topScope sc ["a", "n"] = true)
    (hbind : ∀ vals : List Value, vals.length = 2 → bindArgs (fnX fname qual fparams body sc [] dV kV doc pm an (.ref t.c) ct) ⟨vals, []⟩ = pure ((["a", "n"] : List Str).zip vals))
    (hn : Γ.nm = nmI) (TD : TextD Γ sc φ pos body) (T : TextI Γ.G φ) (D : ∀ L, DefIn Γ sc (envOfC qual sc L fa (.ref t.c)) φ t pos 2) (ok : φ.Ok nmI) (vI : IsVar Γ sc sInner 2) (vD : IsVar Γ sc sDig 0) (hD : k ≤ Γ.D) (hU : 64 + 3 * k ≤ Γ.U) (hd : digP a w k = some ds) :
    ConAt Γ.C (Γ.D + 1) (Γ.U + 3) fa [.int a, .int w] (.lst (zs ds)) := by
  refine con_by (is := [10, 1]) hK hkeep hcd hsc hbind (by rw [hn]; rfl) rfl fun A L g X h S s tk => ?_
  obtain ⟨asg, ta, q1, es, q2, q3, ip, rp, rpp, hform, hasg, hta, hes⟩ := TD
  simp only [digP, Option.bind_eq_some_iff] at hd
  obtain ⟨cnt, hcnt, hd⟩ := hd
  split at hd
  · rename_i hb
    rw [hform]
    show wpAny _ _ (execs ([asg] ++ _) _) _ _ _
    rw [execs_app]
    refine wpAny_bind ((hasg (rhoA a w .undef .undef) (fun fl ρ => fl = .next ∧ ρ = rhoA a w (.own (zs (List.replicate cnt.toNat 0))) .undef) _ _ _ X X h (q_own (ok_dD hcnt hb) (plain_zs _) ⟨rfl, rfl⟩) S).go fun fl h1 tk1 ⟨fl', ρ', ⟨q1, q2⟩, P⟩ => ?_)
    subst q1 q2
    obtain ⟨X1, _, hX1, e3, S1⟩ := P.ends
    subst e3
    dsimp only
    refine wpAny_execs_cons ((s_def S1 (D L)).go fun fl h2 tk2 ⟨e4, ch2, f, clos, S2, fn, DA⟩ => ?_)
    subst e4
    dsimp only
    have S2 : ST Γ A _ g sc X X1 (rhoA a w (.own (zs (List.replicate cnt.toNat 0))) (.val (.fn f))) h2 := S2
    refine wpAny_execs_cons (wpAny_If ((hta (rhoA a w (.own (zs (List.replicate cnt.toNat 0))) (.val (.fn f))) _ _ _ _ X1 h2 (k_tint (k_var rfl)).1 S2.xc).go fun b h3 tk3 k3 t3 e5 => ?_))
    have S3 := S2.step k3 t3
    have ch3 : Chg Γ.C _ X X h h3 := P.ch.trans hX1 (ch2.trans (fun _ => .inl) (.of_ext k3))
    have e6 : b = (a != 0) := e5
    subst e6
    by_cases ha0 : a = 0
    · rw [if_neg (by simp [ha0])]
      rw [if_pos ha0] at hd
      cases hd
      exact wpAny_execs_nil ((dig_ret S3 vD rfl).go fun fl h4 tk4 ⟨v, e7, rv, e8⟩ => ⟨h4, tk4, rfl, v, e7, rv, e8 ▸ t3, e8 ▸ ch3⟩)
    · rw [if_pos (by simp [ha0])]
      rw [if_neg ha0] at hd
      obtain ⟨d, O⟩ := own_at S3 vD rfl
      have fn3 := fn.move S2.xc.act.tab k3
      have hc : ((cnt.toNat : Nat) : Int) = cnt := by omega
      have hl : okL argsD (rhoA a w (.own (zs (List.replicate cnt.toNat 0))) (.val (.fn f))) [.int a, .int 0, .int cnt] := k_cons (k_var rfl) (k_cons k_int (k_cons (by
        have := k_len (B := bVar 0) (ρ := rhoA a w (.own (zs (List.replicate cnt.toNat 0))) (.val (.fn f))) (k_bown rfl) (by simp; omega)
        simpa [hc] using this) k_nil))
      refine wpAny_execs_cons ((call_upd (clos := clos) S3 hes vI vD rfl rfl O.sl hl hd (dig_ok T ok Γ.hG k Γ.C rfl rfl) (fun h4 k4 t4 => ?_) hD hU fun q => ?_).go fun fl h5 tk5 ⟨e7, S5, k5⟩ => ?_)
      · have S4 := S3.step k4 t4
        obtain ⟨us, pl, hi⟩ := O.pl
        refine in_out S4 { sl := O.sl.ext S3.xc.act.tab k4, pl := ⟨us, ?_, hi⟩, inX := O.inX, notX := O.notX, g0 := O.g0 } hn (fn3.move S3.xc.act.tab k4) DA T rfl rfl
        exact list_keptE pl k4 (S3.xc.act.tab.notP pl.choose_spec (by nofun))
      · obtain ⟨us, ⟨j, ho⟩, _⟩ := O.pl
        obtain ⟨mm, o, es', ep, e1, e3, _⟩ := S3.xc.en.loc
        rw [← q, ho] at e1; cases e1; cases e3
      · subst e7
        have ch5 : Chg Γ.C _ X X h h5 := ch3.trans (X' := X1) hX1 fun b o hp _ _ hx eb => k5 b o (fun q => (List.mem_cons.mp q).elim (fun q => hx.elim (fun z => z (q ▸ O.inX)) fun z => O.notX (q ▸ z)) hp) eb
        exact wpAny_execs_nil ((dig_ret S5 vD rfl).go fun fl h6 tk6 ⟨v, e9, rv, e8⟩ => ⟨h6, tk6, rfl, v, e9, rv, e8 ▸ S5.xc.act.tab, e8 ▸ ch5⟩)
  · cases hd
end

end
end Mine
namespace Mine
section
open PySem.Calls

-- plain arithmetic of the digits
theorem land_high (x s : Nat) : Nat.land x (x / 2 ^ s * 2 ^ s) = x / 2 ^ s * 2 ^ s := by
  apply Nat.eq_of_testBit_eq
  intro i
  show (x &&& (x / 2 ^ s * 2 ^ s)).testBit i = _
  rw [Nat.testBit_and, ← Nat.shiftRight_eq_div_pow, ← Nat.shiftLeft_eq, Nat.testBit_shiftLeft, Nat.testBit_shiftRight]
  by_cases h : i ≥ s
  · have : s + (i - s) = i := by (first | lia | omega)
    rw [this]; cases x.testBit i <;> simp
  · simp [h]
theorem xor_high {x : Int} (hx : 0 ≤ x) (s : Nat) : Builtin.bitXor x (x.fdiv (2 ^ s) * 2 ^ s) = x - x.fdiv (2 ^ s) * 2 ^ s := by
  obtain ⟨n, rfl⟩ := Int.eq_ofNat_of_zero_le hx
  have e : ((n : Int).fdiv (2 ^ s)) * 2 ^ s = ((n / 2 ^ s * 2 ^ s : Nat) : Int) := by
    rw [Int.fdiv_eq_ediv_of_nonneg _ (by exact_mod_cast Nat.zero_le _)]
    push_cast; rfl
  rw [e, bitXor_and]
  have ha : Builtin.bitAnd (n : Int) ((n / 2 ^ s * 2 ^ s : Nat) : Int) = ((n / 2 ^ s * 2 ^ s : Nat) : Int) := by
    have := land_high n s
    unfold Builtin.bitAnd
    have d1 : decide (0 ≤ (n : Int)) = true := by simp
    have d2 : decide (0 ≤ ((n / 2 ^ s * 2 ^ s : Nat) : Int)) = true := decide_eq_true (Int.natCast_nonneg _)
    rw [d1, d2]
    show (((n : Int).toNat &&& ((n / 2 ^ s * 2 ^ s : Nat) : Int).toNat : Nat) : Int) = _
    rw [Int.toNat_natCast, Int.toNat_natCast]
    exact congrArg _ this
  rw [ha]; (first | lia | omega)

/-- digits' worth, the lowest first -/
noncomputable def worth (w : Nat) : List Int → Int
  | [] => 0
  | d :: ds => d + worth w ds * 2 ^ w
theorem worth_append (w : Nat) : ∀ (a b : List Int), worth w (a ++ b) = worth w a + worth w b * 2 ^ (w * a.length)
  | [], b => by simp [worth]
  | d :: a, b => by
    rw [List.cons_append, worth, worth, worth_append w a b, List.length_cons, Nat.mul_succ, Int.pow_add, Int.add_mul, Int.mul_assoc, Int.add_assoc]
theorem bits_le {x : Int} {m : Nat} : bits x ≤ m ↔ x.natAbs < 2 ^ m := intBits_le_iff
theorem updD_one {w x : Int} {k l r : Nat} {vs : List Int} (h : l + 1 = r) (hr : r ≤ vs.length) (hv : vs.length ≤ 16777216) : updD w (k + 1) x l r vs = some (vs.take l ++ [x] ++ vs.drop r) := by
  subst h
  have h1 : ((l : Int) + 1 = ((l + 1 : Nat) : Int)) := by (first | lia | omega)
  have h2 : 0 ≤ (l : Int) ∧ (l : Int) < vs.length ∧ vs.length ≤ 16777216 := ⟨by (first | lia | omega), by (first | lia | omega), hv⟩
  unfold updD
  rw [if_pos h1, if_pos h2, Int.toNat_natCast, List.set_eq_take_append_cons_drop, if_pos (by (first | lia | omega))]
  simp
theorem upd_one {w x : Int} {w' k l r : Nat} {vs : List Int} (hx : 0 ≤ x) (h : l + 1 = r) (hr : r ≤ vs.length) (hv : vs.length ≤ 16777216) (hxw : x < 2 ^ (w' * (r - l))) : ∃ ds : List Int, ds.length = r - l ∧ worth w' ds = x ∧ (∀ d ∈ ds, 0 ≤ d ∧ d ≤ x ∧ d < 2 ^ w') ∧ updD w (k + 1) x l r vs = some (vs.take l ++ ds ++ vs.drop r) := by
  have e : r - l = 1 := by (first | lia | omega)
  rw [e, Nat.mul_one] at hxw
  refine ⟨[x], e.symm, by simp [worth], fun d hd => ?_, updD_one h hr hv⟩
  rw [List.mem_singleton.mp hd]
  exact ⟨hx, Int.le_refl _, hxw⟩
theorem mod_lt {x up : Int} {s : Nat} (h : up = x / 2 ^ s) (hp : (0 : Int) < 2 ^ s) : x - up * 2 ^ s < 2 ^ s := by
  rw [h, Int.mul_comm]
  have := Int.emod_lt_of_pos x hp
  have e := Int.mul_ediv_add_emod x (2 ^ s)
  omega
theorem div_lt_pow {x : Int} {s m : Nat} (h : x < 2 ^ (m + s)) : x / 2 ^ s < 2 ^ m := by
  rw [Int.pow_add] at h
  exact Int.ediv_lt_of_lt_mul (Int.pow_pos (by decide)) h
theorem mid_of {l r mid : Nat} (h : mid = (l + r) / 2) : intOp .RShift ((l : Int) + r) 1 = some (mid : Int) := by
  show (if (0 : Int) ≤ 1 then some (((l : Int) + r).fdiv (2 ^ (1 : Int).toNat)) else none) = _
  rw [if_pos (by (first | lia | omega)), Int.fdiv_eq_ediv_of_nonneg _ (by decide)]
  congr 1
  show ((l : Int) + r) / 2 = _
  (first | lia | omega)
theorem mul_of {l mid w : Nat} (h : l < mid) (h1 : mid ≤ 16777216) (h2 : w ≤ 100000000) : intOp .Mult ((mid : Int) - l) w = some (((mid - l) * w : Nat) : Int) := by
  have e1 : ((mid : Int) - l) = ((mid - l : Nat) : Int) := by (first | lia | omega)
  have b1 : bits ((mid : Int) - l) ≤ 64 := by rw [e1]; exact intBits_cast_le (by have : sizeLine = 16777216 := rfl; (first | lia | omega))
  have b2 : bits (w : Int) ≤ 64 := bits_le.mpr (by rw [Int.natAbs_natCast]; exact Nat.lt_of_le_of_lt h2 (by decide))
  show (if bits ((mid : Int) - l) + bits (w : Int) ≤ 134217728 then some (((mid : Int) - l) * w) else none) = _
  rw [if_pos (by (first | lia | omega)), e1]
  simp
theorem shl_of {x : Int} {n : Nat} (h : bits x + n ≤ 134217728) : intOp .LShift x n = some (x * 2 ^ n) := by
  show (if (0 : Int) ≤ n ∧ (bits x : Int) + n ≤ 134217728 then some (x * 2 ^ (n : Int).toNat) else none) = _
  rw [if_pos ⟨by (first | lia | omega), by (first | lia | omega)⟩, Int.toNat_natCast]
theorem shr_of {x : Int} {n : Nat} : intOp .RShift x (n : Int) = some (x.fdiv (2 ^ n)) := by
  show (if (0 : Int) ≤ (n : Int) then some (x.fdiv (2 ^ (n : Int).toNat)) else none) = _
  rw [if_pos (Int.natCast_nonneg n), Int.toNat_natCast]
theorem fdiv_p {x : Int} {n : Nat} : x.fdiv (2 ^ n) = x / 2 ^ n := Int.fdiv_eq_ediv_of_nonneg _ (Int.pow_nonneg (by decide))
theorem add_mul_lt {d W N T : Int} (hd : d < T) (hW : W < N) (hT : 0 ≤ T) : W * T + d < N * T :=
  Int.lt_of_lt_of_le (Int.add_lt_add_left hd (W * T)) (Int.le_trans (Int.le_of_eq (by rw [Int.add_mul, Int.one_mul])) (Int.mul_le_mul_of_nonneg_right hW hT))
theorem bits_natc {x n : Nat} (h : x < 2 ^ n) : bits (x : Int) ≤ n := bits_le.mpr (by rw [Int.natAbs_natCast]; exact h)
theorem pred_cast {n : Nat} (h : 0 < n) : (n : Int) - 1 = ((n - 1 : Nat) : Int) := (Int.natCast_sub h).symm
theorem b16 {n : Nat} (h : n ≤ 16) : n ≤ 16777216 := Nat.le_trans h (by decide)
theorem b100 {n : Nat} (h : n ≤ 100) : n ≤ 16777216 := Nat.le_trans h (by decide)
theorem two_bits {a b n : Nat} (ha : a ≤ n) (hb : b ≤ n) (hn : n ≤ 60000000) : a + b ≤ 134217728 := Nat.le_trans (Nat.add_le_add ha hb) (Nat.le_trans (Nat.add_le_add hn hn) (by decide))
theorem bits_up {a b : Int} {B : Nat} (h0 : 0 ≤ a) (h : a ≤ b) (hb : bits b ≤ B) : bits a ≤ B := bits_le.mpr (Nat.lt_of_le_of_lt (Int.ofNat_le.mp (by rw [Int.natAbs_of_nonneg h0, Int.natAbs_of_nonneg (Int.le_trans h0 h)]; exact h)) (bits_le.mp hb))
theorem half_le {n P : Nat} (h : n ≤ 2 * P) : n ≤ P + n / 2 := by
  rcases Nat.le_total n P with q | q
  · exact Nat.le_trans q (Nat.le_add_right _ _)
  · obtain ⟨d, rfl⟩ := Nat.exists_eq_add_of_le q
    refine Nat.add_le_add_left ((Nat.le_div_iff_mul_le (by decide)).mpr ?_) P
    rw [Nat.two_mul] at h
    rw [Nat.mul_two]
    exact Nat.add_le_add_right (Nat.le_of_add_le_add_left h) d
/-- the middle, and what lies on either side of it -/
theorem half_mid {l r P : Nat} (h : l < r) (h1 : l + 1 ≠ r) (hk : r - l ≤ 2 * P) : ∃ mid, mid = (l + r) / 2 ∧ l < mid ∧ mid < r ∧ mid - l ≤ P ∧ r - mid ≤ P ∧ r - mid + (mid - l) = r - l := by
  obtain ⟨n, rfl⟩ := Nat.exists_eq_add_of_le (Nat.le_of_lt h)
  rw [Nat.add_sub_cancel_left] at hk
  have n2 : 2 ≤ n := by
    rcases n with _ | _ | n
    · exact absurd h (Nat.lt_irrefl l)
    · exact absurd rfl h1
    · exact Nat.le_add_left 2 n
  have e : (l + (l + n)) / 2 = l + n / 2 := by rw [← Nat.add_assoc, ← Nat.two_mul, Nat.mul_add_div (by decide)]
  have lt : n / 2 < n := Nat.div_lt_self (Nat.lt_of_lt_of_le (by decide) n2) (by decide)
  exact ⟨_, e.symm, Nat.lt_add_of_pos_right (Nat.div_pos n2 (by decide)), Nat.add_lt_add_left lt l, by rw [Nat.add_sub_cancel_left]; exact Nat.div_le_of_le_mul hk, by rw [Nat.add_sub_add_left]; exact Nat.sub_le_of_le_add (half_le hk), by rw [Nat.add_sub_add_left, Nat.add_sub_cancel_left, Nat.add_sub_cancel_left]; exact Nat.sub_add_cancel (Nat.le_of_lt lt)⟩
/-- a number's upper and lower part -/
theorem parts {x : Int} {s : Nat} (hx : 0 ≤ x) : 0 ≤ x / 2 ^ s ∧ x / 2 ^ s ≤ x ∧ 0 ≤ x - x / 2 ^ s * 2 ^ s ∧ x - x / 2 ^ s * 2 ^ s ≤ x ∧ x - x / 2 ^ s * 2 ^ s < 2 ^ s := by
  have hp : (0 : Int) < 2 ^ s := Int.pow_pos (by decide)
  have h0 := Int.ediv_nonneg hx (Int.le_of_lt hp)
  exact ⟨h0, Int.ediv_le_self _ hx, Int.sub_nonneg_of_le (Int.ediv_mul_le _ (Int.ne_of_gt hp)), Int.sub_le_self _ (Int.mul_nonneg h0 (Int.le_of_lt hp)), mod_lt rfl hp⟩
theorem ne_cast {l r : Nat} (h : ¬ l + 1 = r) : ¬ (l : Int) + 1 = r := fun q => h (Int.ofNat.inj q)
theorem put_len {α : Type} {vs ds : List α} {l mid : Nat} (h1 : ds.length = mid - l) (h : l < mid) (h2 : mid ≤ vs.length) : (vs.take l ++ ds).length = mid ∧ (vs.take l ++ ds ++ vs.drop mid).length = vs.length := by
  have e : (vs.take l ++ ds).length = mid := by rw [List.length_append, List.length_take, h1, Nat.min_eq_left (Nat.le_trans (Nat.le_of_lt h) h2)]; exact Nat.add_sub_cancel' (Nat.le_of_lt h)
  exact ⟨e, by rw [List.length_append, e, List.length_drop, Nat.add_sub_cancel' h2]⟩
theorem put_two {α : Type} {vs ds es : List α} {l mid r : Nat} (h1 : (vs.take l ++ ds).length = mid) (h2 : mid ≤ r) : (vs.take l ++ ds ++ vs.drop mid).take mid ++ es ++ (vs.take l ++ ds ++ vs.drop mid).drop r = vs.take l ++ (ds ++ es) ++ vs.drop r := by
  rw [List.take_left' h1, List.drop_append, h1, List.drop_of_length_le (by rw [h1]; exact h2), List.drop_drop, List.nil_append, Nat.add_sub_cancel' h2]
  simp only [List.append_assoc]
theorem updD_ok {w B : Nat} (hw : 0 < w) (hB : B ≤ 30000000) : ∀ (k : Nat) (x : Int) (l r : Nat) (vs : List Int), 0 ≤ x → l < r → r ≤ vs.length → vs.length ≤ 16777216 → r - l ≤ 2 ^ k → w * vs.length ≤ 100000000 → bits x ≤ B → x < 2 ^ (w * (r - l)) →
    ∃ ds, ds.length = r - l ∧ worth w ds = x ∧ (∀ d ∈ ds, 0 ≤ d ∧ d ≤ x ∧ d < 2 ^ w) ∧ updD w (k + 1) x l r vs = some (vs.take l ++ ds ++ vs.drop r)
  | 0, x, l, r, vs, hx, hlr, hr, hv, hk, hww, hb, hxw => upd_one hx (Nat.le_antisymm hlr (Nat.sub_le_iff_le_add'.mp hk)) hr hv hxw
  | k + 1, x, l, r, vs, hx, hlr, hr, hv, hk, hww, hb, hxw => by
    by_cases h1 : l + 1 = r
    · exact upd_one hx h1 hr hv hxw
    · rw [Nat.pow_succ, Nat.mul_comm] at hk
      obtain ⟨mid, hmid, hm1, hm2, p1, p2, p3⟩ := half_mid hlr h1 hk
      have mr := Nat.le_trans (Nat.le_of_lt hm2) hr
      have hwl : w ≤ 100000000 := Nat.le_trans (Nat.le_mul_of_pos_right w (Nat.lt_of_lt_of_le (Nat.zero_lt_of_lt hlr) hr)) hww
      have hshle : (mid - l) * w ≤ 100000000 := Nat.le_trans (Nat.mul_le_mul_right w (Nat.le_trans (Nat.sub_le mid l) mr)) (by rw [Nat.mul_comm]; exact hww)
      obtain ⟨q1, q2, q3, q4, q5⟩ := parts (s := (mid - l) * w) hx
      have a2 := mul_of (w := w) hm1 (Nat.le_trans mr hv) hwl
      have a5 : intOp .BitXor x (x / 2 ^ ((mid - l) * w) * 2 ^ ((mid - l) * w)) = some (x - x / 2 ^ ((mid - l) * w) * 2 ^ ((mid - l) * w)) := by
        show some (Builtin.bitXor x _) = _
        rw [← fdiv_p, xor_high hx]
      have a3 := shr_of (x := x) (n := (mid - l) * w)
      rw [fdiv_p] at a3
      have a4 := shl_of (x := x / 2 ^ ((mid - l) * w)) (n := (mid - l) * w) (Nat.le_trans (Nat.add_le_add (Nat.le_trans (bits_up q1 q2 hb) hB) hshle) (by decide))
      obtain ⟨ds1, l1, w1, m1, u1⟩ := updD_ok hw hB k _ l mid vs q3 hm1 mr hv p1 hww (bits_up q3 q4 hb) (by rw [Nat.mul_comm w]; exact q5)
      obtain ⟨n1, n2⟩ := put_len l1 hm1 mr
      obtain ⟨ds2, l2, w2, m2, u2⟩ := updD_ok hw hB k _ mid r (vs.take l ++ ds1 ++ vs.drop mid) q1 hm2 (n2.symm ▸ hr) (n2.symm ▸ hv) p2 (n2.symm ▸ hww) (bits_up q1 q2 hb) (div_lt_pow (by rw [Nat.mul_comm (mid - l) w, ← Nat.mul_add, p3]; exact hxw))
      refine ⟨ds1 ++ ds2, by rw [List.length_append, l1, l2, Nat.add_comm]; exact p3, ?_, fun d hd => ?_, ?_⟩
      · rw [worth_append, w1, w2, l1, Nat.mul_comm w (mid - l)]; exact Int.sub_add_cancel ..
      · rcases List.mem_append.mp hd with hd | hd
        · exact ⟨(m1 d hd).1, Int.le_trans (m1 d hd).2.1 q4, (m1 d hd).2.2⟩
        · exact ⟨(m2 d hd).1, Int.le_trans (m2 d hd).2.1 q2, (m2 d hd).2.2⟩
      · unfold updD
        rw [if_neg (ne_cast h1), mid_of hmid, Option.bind_some, a2, Option.bind_some, a3, Option.bind_some, a4, Option.bind_some, a5, Option.bind_some, u1, Option.bind_some, u2, put_two n1 (Nat.le_of_lt hm2)]
theorem nat_abs_lt {a : Int} {m : Nat} (ha : 0 ≤ a) : a.natAbs < 2 ^ m ↔ a < 2 ^ m := by
  obtain ⟨n, rfl⟩ := Int.eq_ofNat_of_zero_le ha
  rw [Int.natAbs_natCast]
  exact ⟨fun h => by exact_mod_cast h, fun h => by exact_mod_cast h⟩
theorem lt_pow_of_bits {a : Int} {m : Nat} (ha : 0 ≤ a) (h : bits a ≤ m) : a < 2 ^ m := (nat_abs_lt ha).mp (bits_le.mp h)
theorem bits_of_lt {a : Int} {B : Nat} (h0 : 0 ≤ a) (h : a < 2 ^ B) : bits a ≤ B := bits_le.mpr ((nat_abs_lt h0).mpr h)
theorem idx_nat' {n i : Nat} (h : i < n) (hi : i ≤ 16777216) : idx n (i : Int) = some i := by
  unfold idx
  rw [if_pos ⟨Int.natCast_nonneg i, Int.ofNat_lt.mpr h, Int.ofNat_lt.mpr (Nat.lt_of_le_of_lt hi (by decide))⟩, Int.toNat_natCast]
theorem ceil_mul {x w : Nat} (hw : 0 < w) : x ≤ w * ((x + w - 1) / w) := by
  have h1 := Nat.mod_lt (x + w - 1) hw
  have h2 := Nat.div_add_mod (x + w - 1) w
  (first | lia | omega)
theorem cnt_le {B w : Nat} (hw : 0 < w) : (B + w - 1) / w ≤ B := by
  rcases Nat.eq_zero_or_pos B with rfl | h
  · rw [Nat.zero_add, Nat.div_eq_of_lt (Nat.sub_lt hw Nat.one_pos)]; exact Nat.le_refl _
  · apply Nat.div_le_of_le_mul
    obtain ⟨u, rfl⟩ : ∃ u, w = u + 1 := ⟨w - 1, (Nat.sub_add_cancel hw).symm⟩
    obtain ⟨v, rfl⟩ : ∃ v, B = v + 1 := ⟨B - 1, (Nat.sub_add_cancel h).symm⟩
    rw [Nat.mul_succ, Nat.mul_comm, Nat.mul_succ]
    refine Nat.le_trans (Nat.sub_le_of_le_add ?_) (Nat.add_le_add_right (Nat.add_le_add_right (Nat.zero_le (v * u)) v) (u + 1))
    rw [Nat.zero_add, Nat.add_right_comm v 1]; exact Nat.le_refl _
theorem cnt_op {a : Int} {w : Nat} (hw : 0 < w) (hww : w ≤ 1000000) : intOp .FloorDiv ((bits a : Int) + w - 1) w = some (((bits a + w - 1) / w : Nat) : Int) := by
  have hp : Builtin.divisionGoesByPylong ((bits a : Int) + w - 1) w = false := by
    refine PyProof.noPylong_of_log2 ?_
    rw [Int.natAbs_natCast]
    exact Nat.lt_of_lt_of_le ((Nat.log2_lt (Nat.ne_of_gt hw)).mpr (Nat.lt_of_le_of_lt hww (by decide : 1000000 < 2 ^ 20))) (by decide)
  have e : (bits a : Int) + w - 1 = ((bits a + w - 1 : Nat) : Int) := by rw [Int.natCast_sub (Nat.le_trans hw (Nat.le_add_left w _)), Int.natCast_add]; rfl
  show (if (w : Int) ≠ 0 ∧ Builtin.divisionGoesByPylong ((bits a : Int) + w - 1) w = false then some (((bits a : Int) + w - 1).fdiv w) else none) = _
  rw [if_pos ⟨Int.ne_of_gt (Int.natCast_pos.mpr hw), hp⟩, e, Int.fdiv_eq_ediv_of_nonneg _ (Int.natCast_nonneg w)]; rfl
theorem worth_0 {w : Nat} : ∀ j, worth w (List.replicate j 0) = 0
  | 0 => rfl
  | j + 1 => by rw [List.replicate_succ, worth, worth_0 j, Int.zero_mul]; rfl
theorem bits_0 {a : Int} (h : a ≠ 0) : 0 < bits a := Nat.pos_of_ne_zero fun q => by
  have := bits_le.mp (Nat.le_of_eq q)
  exact h (Int.natAbs_eq_zero.mp (Nat.lt_one_iff.mp this))
/-- a number's figures -/
theorem digP_ok {a : Int} {w B k : Nat} (hw : 0 < w) (ha : 0 ≤ a) (hb : bits a ≤ B) (hB : B ≤ 1000000) (hww : w ≤ 1000000) (hk : bits a ≤ 2 ^ k) :
    ∃ ds : List Int, digP a w (k + 1) = some ds ∧ worth w ds = a ∧ (∀ d ∈ ds, 0 ≤ d ∧ d ≤ a ∧ d < 2 ^ w) ∧ ds.length = (bits a + w - 1) / w := by
  obtain ⟨cnt, hc⟩ : ∃ cnt, cnt = (bits a + w - 1) / w := ⟨_, rfl⟩
  have e1 := cnt_op (a := a) hw hww
  have hcle : cnt ≤ bits a := hc ▸ cnt_le hw
  have hcB : cnt ≤ 1000000 := Nat.le_trans hcle (Nat.le_trans hb hB)
  have hcw : w * cnt ≤ 100000000 := Nat.le_trans (hc ▸ Nat.mul_div_le (bits a + w - 1) w) (Nat.le_trans (Nat.sub_le _ _) (Nat.le_trans (Nat.add_le_add (Nat.le_trans hb hB) hww) (by decide)))
  rw [← hc] at e1
  unfold digP
  rw [e1, Option.bind_some, if_pos ⟨Int.natCast_nonneg _, Int.ofNat_le.mpr (Nat.le_trans hcB (by decide))⟩, Int.toNat_natCast]
  by_cases h0 : a = 0
  · subst h0
    exact ⟨List.replicate cnt 0, by rw [if_pos rfl], worth_0 cnt, fun d hd => by rw [List.eq_of_mem_replicate hd]; exact ⟨Int.le_refl _, Int.le_refl _, Int.pow_pos (by decide)⟩, by rw [List.length_replicate, hc]⟩
  · rw [if_neg h0]
    have hc0 : 0 < cnt := hc ▸ Nat.div_pos (Nat.le_sub_one_of_lt (Nat.lt_add_of_pos_left (bits_0 h0))) hw
    have hl : (List.replicate cnt (0 : Int)).length = cnt := List.length_replicate
    obtain ⟨ds, l1, w1, m1, u1⟩ := updD_ok (w := w) (B := B) hw (Nat.le_trans hB (by decide)) k a 0 cnt (List.replicate cnt 0) ha hc0 (Nat.le_of_eq hl.symm) (hl.symm ▸ Nat.le_trans hcB (by decide)) (Nat.le_trans (Nat.sub_le _ _) (Nat.le_trans hcle hk)) (hl.symm ▸ hcw) hb (lt_pow_of_bits ha (hc ▸ ceil_mul hw))
    rw [List.take_zero, List.nil_append, List.drop_of_length_le (Nat.le_of_eq hl), List.append_nil] at u1
    exact ⟨ds, u1, w1, m1, l1.trans hc⟩

end
end Mine
namespace Mine
section
open PySem.Calls
noncomputable def nmD : List Str := ["digits", "n", "inner", "L", "R", "mid", "shift"]
noncomputable def sD (Γ : Fx) : SS := sSeq (xIf (tCmp .Eq (dBin .Add (dVar 3) (dInt 1)) (dVar 4)) (sSeq (xRet (dItem (bVar 0) (dVar 3))) sNil) sNil) (sSeq (xSet 5 (dBin .RShift (dBin .Add (dVar 3) (dVar 4)) (dInt 1))) (sSeq (xSet 6 (dBin .Mult (dBin .Sub (dVar 5) (dVar 3)) (dVar 1)))
  (sSeq (xRet (dBin .Add (dBin .LShift (dCallV Γ 2 (lCons (dVar 5) (lCons (dVar 4) lNil))) (dVar 6)) (dCallV Γ 2 (lCons (dVar 3) (lCons (dVar 5) lNil))))) sNil)))
noncomputable abbrev rhoD (ds : List Int) (w : Int) (f : Addr) : PEnv := [.val (.lst (zs ds)), .val (.int w), .val (.fn f)]
/-- what the inner function tells of two places -/
noncomputable def wD (w : Nat) (ds : List Int) : List PV → Int
  | [.int l, .int r] => worth w ((ds.drop l.toNat).take (r.toNat - l.toNat))
  | _ => 0
noncomputable def kD (ds : List Int) (k : Nat) (pvs : List PV) : Prop := ∃ l r : Nat, pvs = [.int l, .int r] ∧ l < r ∧ r ≤ ds.length ∧ k ≠ 0 ∧ r - l ≤ 2 ^ (k - 1)
theorem kD_0 {ds : List Int} (pvs : List PV) : ¬ kD ds 0 pvs := fun ⟨_, _, _, _, _, q, _⟩ => q rfl
theorem worth_bound {w : Nat} {M : Int} (hM : 0 ≤ M) : ∀ {ds : List Int}, (∀ d ∈ ds, 0 ≤ d ∧ d ≤ M) → 0 < w → 0 ≤ worth w ds ∧ worth w ds ≤ M * (2 ^ (w * ds.length) - 1)
  | [], _, _ => ⟨Int.le_refl _, by show (0 : Int) ≤ M * (2 ^ (w * 0) - 1); rw [Nat.mul_zero]; exact Int.le_of_eq (Int.mul_zero M).symm⟩
  | d :: ds, h, hw => by
    have ⟨h1, h2⟩ := worth_bound hM (fun x hx => h x (.tail _ hx)) hw
    have ⟨d1, d2⟩ := h d (.head _)
    have hp : (2 : Int) ≤ 2 ^ w := by exact_mod_cast Nat.pow_le_pow_right (show 0 < 2 by decide) hw
    have hp0 : (0 : Int) ≤ 2 ^ w := Int.le_trans (by decide : (0 : Int) ≤ 2) hp
    refine ⟨Int.add_nonneg d1 (Int.mul_nonneg h1 hp0), ?_⟩
    rw [List.length_cons, Nat.mul_succ, Int.pow_add]
    refine Int.le_trans (Int.add_le_add d2 (Int.mul_le_mul_of_nonneg_right h2 hp0)) ?_
    rw [Int.mul_assoc, Int.sub_mul, Int.one_mul]
    generalize (2 : Int) ^ (w * ds.length) * 2 ^ w = P
    generalize (2 : Int) ^ w = T at hp
    exact Int.le_trans (Int.le_of_eq (by rw [Int.mul_add, Int.mul_one])) (Int.mul_le_mul_of_nonneg_left (a := 1 + (P - T)) (b := P - 1) (c := M) (by omega) hM)
theorem worth_bits {w B : Nat} {M : Int} (hM : 0 ≤ M) (hB : bits M ≤ B) {ds : List Int} (h : ∀ d ∈ ds, 0 ≤ d ∧ d ≤ M) (hw : 0 < w) : bits (worth w ds) ≤ B + w * ds.length := by
  obtain ⟨h1, h2⟩ := worth_bound hM h hw
  exact bits_of_lt h1 (Int.lt_of_le_of_lt h2 (Int.lt_of_le_of_lt (Int.mul_le_mul_of_nonneg_left (Int.sub_le_self _ (by decide)) hM) (by rw [Int.pow_add]; exact Int.mul_lt_mul_of_pos_right (lt_pow_of_bits hM hB) (Int.pow_pos (by decide)))))
theorem part_split {ds : List Int} {w l mid r : Nat} (h1 : l < mid) (h2 : mid < r) (h3 : r ≤ ds.length) : worth w ((ds.drop l).take (r - l)) = worth w ((ds.drop mid).take (r - mid)) * 2 ^ ((mid - l) * w) + worth w ((ds.drop l).take (mid - l)) := by
  have e1 : (ds.drop l).take (r - l) = (ds.drop l).take (mid - l) ++ (ds.drop mid).take (r - mid) := by
    rw [← Nat.sub_add_sub_cancel (Nat.le_of_lt h2) (Nat.le_of_lt h1), Nat.add_comm, List.take_add, List.drop_drop, Nat.add_sub_cancel' (Nat.le_of_lt h1)]
  have e3 : ((ds.drop l).take (mid - l)).length = mid - l := by
    rw [List.length_take, List.length_drop]
    exact Nat.min_eq_left (Nat.sub_le_sub_right (Nat.le_trans (Nat.le_of_lt h2) h3) l)
  rw [e1, worth_append, e3, Nat.mul_comm w (mid - l), Int.add_comm]
theorem part_bits {w B l r : Nat} {M : Int} {ds : List Int} (hw : 0 < w) (hM : 0 ≤ M) (hB : bits M ≤ B) (hds : ∀ d ∈ ds, 0 ≤ d ∧ d ≤ M) : bits (worth w ((ds.drop l).take r)) ≤ B + w * ds.length := by
  refine Nat.le_trans (worth_bits hM hB (fun d hd => hds d (List.mem_of_mem_drop (List.mem_of_mem_take hd))) hw) (Nat.add_le_add_left (Nat.mul_le_mul_left w ?_) B)
  rw [List.length_take, List.length_drop]
  exact Nat.le_trans (Nat.min_le_right _ _) (Nat.sub_le _ _)
/-- the inner function's body -/
theorem sD_ok {Γ : Fx} {w B k : Nat} {M : Int} {ds : List Int} {f : Addr} {pvs : List PV} (hK : ∀ pvs, kD ds k pvs → Γ.K f pvs) (hV : ∀ pvs, Γ.V f pvs = .int (wD w ds pvs)) (hw : 0 < w) (hM : 0 ≤ M) (hB : bits M ≤ B) (hds : ∀ d ∈ ds, 0 ≤ d ∧ d ≤ M) (hlen : ds.length ≤ 16777216) (hbb : B + 2 * (w * ds.length) ≤ 100000000)
    (h : kD ds (k + 1) pvs) : sD Γ (puts (rhoD ds w f) [3, 4] pvs) fun fl _ => fl = .ret (.int (wD w ds pvs)) := by
  obtain ⟨l, r, rfl, h1, h2, _, h3⟩ := h
  rw [Nat.add_sub_cancel] at h3
  by_cases h4 : l + 1 = r
  · subst h4
    have hlt : l < ds.length := h2
    have h5 : idx (zs ds).length (l : Int) = some l := idx_nat' (by rw [List.length_map]; exact hlt) (Nat.le_trans (Nat.le_of_lt hlt) hlen)
    have h6 : (zs ds)[l]? = some (.int ds[l]) := by rw [List.getElem?_map, List.getElem?_eq_getElem hlt]; rfl
    have h7 : wD w ds [.int l, .int ((l + 1 : Nat) : Int)] = ds[l] := by
      show worth w ((ds.drop (l : Int).toNat).take (((l + 1 : Nat) : Int).toNat - (l : Int).toNat)) = _
      rw [Int.toNat_natCast, Int.toNat_natCast, Nat.add_sub_cancel_left, List.drop_eq_getElem_cons hlt]
      show ds[l] + 0 * 2 ^ w = _
      rw [Int.zero_mul, Int.add_zero]
    rw [h7]
    refine q_yes (by have := k_eq (ρ := puts (rhoD ds w f) [3, 4] [.int l, .int ((l + 1 : Nat) : Int)]) (k_add (k_var (i := 3) rfl) (k_int (x := 1))) (k_var (i := 4) rfl); rwa [show ((l : Int) + 1 == ((l + 1 : Nat) : Int)) = true from beq_iff_eq.mpr rfl] at this) (q_ret (k_item (k_bvar rfl) (k_var rfl) h5 h6) ?_)
    exact rfl
  · obtain ⟨j, rfl⟩ : ∃ j, k = j + 1 := by
      cases k with
      | zero => exact absurd (Nat.le_antisymm h1 (Nat.sub_le_iff_le_add'.mp h3)) h4
      | succ j => exact ⟨j, rfl⟩
    rw [Nat.pow_succ, Nat.mul_comm] at h3
    obtain ⟨mid, hmid, hm1, hm2, p1, p2, _⟩ := half_mid h1 h4 h3
    have mr := Nat.le_trans (Nat.le_of_lt hm2) h2
    have hwl : w * ds.length ≤ 100000000 := Nat.le_trans (Nat.le_trans (Nat.le_mul_of_pos_left _ (by decide : 0 < 2)) (Nat.le_add_left _ B)) hbb
    have hww : w ≤ 100000000 := Nat.le_trans (Nat.le_mul_of_pos_right w (Nat.lt_of_lt_of_le (Nat.zero_lt_of_lt h1) h2)) hwl
    have hsh : (mid - l) * w ≤ w * ds.length := by rw [Nat.mul_comm]; exact Nat.mul_le_mul_left w (Nat.le_trans (Nat.sub_le mid l) mr)
    have i1 : kD ds (j + 1) [.int mid, .int r] := ⟨mid, r, rfl, hm2, h2, Nat.succ_ne_zero j, p2⟩
    have i2 : kD ds (j + 1) [.int l, .int mid] := ⟨l, mid, rfl, hm1, mr, Nat.succ_ne_zero j, p1⟩
    have e3 : wD w ds [.int l, .int r] = worth w ((ds.drop l).take (r - l)) := rfl
    have hb : bits (wD w ds [.int mid, .int r]) + (mid - l) * w ≤ 134217728 := Nat.le_trans (Nat.add_le_add (part_bits (l := mid) (r := r - mid) hw hM hB hds) hsh) (by rw [Nat.add_assoc, ← Nat.two_mul]; exact Nat.le_trans hbb (by decide))
    have hne : ((l : Int) + 1 == r) = false := beq_eq_false_iff_ne.mpr (ne_cast h4)
    rw [e3, part_split hm1 hm2 h2]
    refine q_not (hne ▸ k_eq (k_add (k_var rfl) k_int) (k_var rfl)) (q_end (q_set (k_op (k_add (k_var rfl) (k_var rfl)) k_int (mid_of hmid)) (q_set (k_op (k_sub (k_var rfl) (k_var rfl)) (k_var rfl) (mul_of hm1 (Nat.le_trans mr hlen) hww)) (q_ret (k_add (k_op (k_callV rfl (k_cons (k_var rfl) (k_cons (k_var rfl) k_nil)) (hK _ i1) (hV _)) (k_var rfl) (shl_of hb)) (k_callV rfl (k_cons (k_var rfl) (k_cons (k_var rfl) k_nil)) (hK _ i2) (hV _))) ?_))))
    exact rfl

end
end Mine
namespace Mine
section
open PySem.Calls
set_option backward.match.sparseCases false
theorem get_pad (m : Nat) : ∀ (ρ : PEnv) (i : Nat), get (ρ ++ List.replicate m .undef) i = get ρ i
  | [], i => by
    rw [List.nil_append, get_nil]
    induction m generalizing i with
    | zero => exact get_nil i
    | succ m ih =>
      cases i with
      | zero => rfl
      | succ i => exact ih i
  | b :: ρ, 0 => rfl
  | b :: ρ, i + 1 => get_pad m ρ i
/-- what a plain function of the text gives: its body's meaning -/
theorem con_of {Γ : Fx} {sc : Scope} {st : Bool} {S : SS} {name qual : Str} {params : Arguments} {body : List Stmt} {dV kV doc pm cdv ct oc : Value} {an od : Option Addr} {osl : Array (Option Value)} {f : Addr} {ps : List Str} {is : List Nat} {pvs : List PV} {r : PV} (m : Nat)
    (hK : Γ.C.K.lookup f = some ⟨oc, od, .func (fnX name qual params body sc [] dV kV doc pm an cdv ct), osl⟩) (hkeep : keepIn Γ.C.K (.ref f) = true) (hcd : codeIn Γ.C.K cdv qual = true) (hsc : topScope sc ps = true)
    (hbind : ∀ vals : List Value, vals.length = ps.length → bindArgs (fnX name qual params body sc [] dV kV doc pm an cdv ct) ⟨vals, []⟩ = pure (ps.zip vals))
    (hv : varsOf Γ.nm ps = some is) (hl : ps.length = pvs.length) (hS : GoodStms Γ sc st body S) (hr : S (puts [] is pvs ++ List.replicate m .undef) fun fl _ => fl = .ret r) : ConAt Γ.C (Γ.D + 1) (Γ.U + 3) f pvs r :=
  con_by hK hkeep hcd hsc hbind hv hl fun _ _ _ _ _ E => ret_of hS hr (E.congr (get_pad m _))
noncomputable def ldq (b : Int) (n : Nat) : Int → List Int → List Int × Int
  | r, [] => ([], r)
  | r, d :: ds => ((r * 2 ^ n + d).fdiv b :: (ldq b n ((r * 2 ^ n + d).fmod b) ds).1, (ldq b n ((r * 2 ^ n + d).fmod b) ds).2)
theorem fmod_pos {x b : Int} (hb : 0 < b) : 0 ≤ x.fmod b ∧ x.fmod b < b := by
  rw [Int.fmod_eq_emod_of_nonneg _ (Int.le_of_lt hb)]
  exact ⟨Int.emod_nonneg _ (Int.ne_of_gt hb), Int.emod_lt_of_pos _ hb⟩
theorem fdiv_pos {x b : Int} (hb : 0 < b) (hx : 0 ≤ x) : 0 ≤ x.fdiv b ∧ x.fdiv b ≤ x := by
  rw [Int.fdiv_eq_ediv_of_nonneg _ (Int.le_of_lt hb)]
  exact ⟨Int.ediv_nonneg hx (Int.le_of_lt hb), Int.ediv_le_self _ hx⟩
theorem worth_one (n : Nat) (d : Int) : worth n [d] = d := by simp [worth]
theorem worth_rev (n : Nat) (d : Int) (L : List Int) : worth n (d :: L).reverse = worth n L.reverse + d * 2 ^ (n * L.length) := by
  rw [List.reverse_cons, worth_append, worth_one, List.length_reverse]
theorem ldq_ok {b : Int} {n : Nat} (hb : 0 < b) : ∀ (L : List Int) (r : Int), 0 ≤ r → r < b → (∀ d ∈ L, 0 ≤ d) →
    (ldq b n r L).1.length = L.length ∧ r * 2 ^ (n * L.length) + worth n L.reverse = worth n (ldq b n r L).1.reverse * b + (ldq b n r L).2 ∧ 0 ≤ (ldq b n r L).2 ∧ (ldq b n r L).2 < b
  | [], r, h0, h1, _ => by simp [ldq, worth, h0, h1]
  | d :: L, r, h0, h1, hd => by
    obtain ⟨m1, m2⟩ := fmod_pos (x := r * 2 ^ n + d) hb
    obtain ⟨i1, i2, i3, i4⟩ := ldq_ok (n := n) hb L ((r * 2 ^ n + d).fmod b) m1 m2 fun x hx => hd x (.tail _ hx)
    refine ⟨by simp [ldq, i1], ?_, i3, i4⟩
    have e := Int.mul_fdiv_add_fmod (r * 2 ^ n + d) b
    simp only [ldq]
    rw [worth_rev, worth_rev, i1, List.length_cons, Nat.mul_succ, Int.pow_add]
    generalize (r * 2 ^ n + d).fdiv b = q at e ⊢
    generalize (r * 2 ^ n + d).fmod b = m at *
    generalize hW : (2 : Int) ^ (n * L.length) = W at *
    generalize hT : (2 : Int) ^ n = T at *
    rw [Int.add_mul, Int.add_assoc, Int.add_comm _ (ldq b n m L).2] 
    have e3 : r * (W * T) + d * W = (b * q + m) * W := by rw [e, Int.add_mul, Int.mul_assoc, Int.mul_comm T W]
    have e4 : (b * q + m) * W = q * W * b + m * W := by rw [Int.add_mul, Int.mul_comm b q, Int.mul_right_comm]
    rw [e4] at e3
    generalize r * (W * T) = R at *
    generalize d * W = D at *
    generalize q * W * b = V at *
    generalize m * W = U at *
    generalize worth n (ldq b n m L).1.reverse * b = X at *
    generalize (ldq b n m L).2 = s at *
    generalize worth n L.reverse = w at *
    clear e e4 hW hT i4 i3 i1 m1 m2 hd h0 h1 hb
    omega
theorem ldq_le {b A M : Int} {n : Nat} (hb : 0 < b) (hM : (b - 1) * 2 ^ n + A ≤ M) : ∀ (L : List Int) (r : Int), 0 ≤ r → r < b → (∀ d ∈ L, 0 ≤ d ∧ d ≤ A) → ∀ q ∈ (ldq b n r L).1, 0 ≤ q ∧ q ≤ M
  | [], _, _, _, _, q, h => by cases h
  | d :: L, r, h0, h1, hd, q, h => by
    obtain ⟨m1, m2⟩ := fmod_pos (x := r * 2 ^ n + d) hb
    have hp : (0 : Int) < 2 ^ n := Int.pow_pos (by decide)
    obtain ⟨d1, d2⟩ := hd d (.head _)
    have x1 : 0 ≤ r * 2 ^ n := Int.mul_nonneg h0 (Int.le_of_lt hp)
    have x2 : r * 2 ^ n ≤ (b - 1) * 2 ^ n := Int.mul_le_mul_of_nonneg_right (Int.le_sub_one_of_lt h1) (Int.le_of_lt hp)
    simp only [ldq] at h
    rcases List.mem_cons.mp h with rfl | h
    · obtain ⟨q1, q2⟩ := fdiv_pos (x := r * 2 ^ n + d) hb (Int.add_nonneg x1 d1)
      exact ⟨q1, Int.le_trans q2 (Int.le_trans (Int.add_le_add x2 d2) hM)⟩
    · exact ldq_le hb hM L _ m1 m2 (fun x hx => hd x (.tail _ hx)) q h
theorem div_unique {a b q r : Int} (hb : 0 < b) (e : a = q * b + r) (h0 : 0 ≤ r) (h1 : r < b) : a.fdiv b = q ∧ a.fmod b = r := by
  subst e
  constructor
  · rw [Int.add_comm, Int.add_mul_fdiv_right _ _ (Int.ne_of_gt hb), Int.fdiv_eq_ediv_of_nonneg _ (Int.le_of_lt hb), Int.ediv_eq_zero_of_lt h0 h1, Int.zero_add]
  · rw [Int.add_comm, Int.fmod_eq_emod_of_nonneg _ (Int.le_of_lt hb), Int.add_mul_emod_self_right, Int.emod_eq_of_lt h0 h1]

noncomputable section
noncomputable def V35 : List PV → PV
  | [.int a, .int w] => .lst (zs ((digP a w 18).getD []))
  | _ => .none
noncomputable def V42 : List PV → PV
  | [.lst xs, .int w] => .int (worth w.toNat (xs.map asI))
  | _ => .none
noncomputable def Vqr : List PV → PV
  | .int a :: .int b :: _ => qr a b
  | _ => .none
noncomputable def V28 : List PV → PV
  | [.int a, .int c, .int b, _, _, .int n] => qr (a * 2 ^ n.toNat + c) b
  | _ => .none
/-- what the text's functions give; X: those of a law's own -/
noncomputable def Vl (X : Addr → List PV → PV) (f : Addr) (l : List PV) : PV := if f = 35 then V35 l else if f = 42 then V42 l else if f = 21 then Vqr l else if f = 49 then Vqr l else if f = 56 then Vqr l else if f = 28 then V28 l else X f l
/-- what stays, with every contract that holds -/
noncomputable def fxOf (C : Cx) (nm : List Str) (G : Str → Option Value) (X : Addr → List PV → PV) (hG : GOk C G) (D U : Nat) (h : 64 ≤ U) : Fx := ⟨C, nm, G, Vl X, fun f l => ConAt C D U f l (Vl X f l), D, U, hG, fun _ _ h => h, h⟩
noncomputable def nm21 : List Str := ["a","b","n","pad","half_n","mask","b1","b2","q1","r","q2"]
noncomputable def nm49 : List Str := ["a","b","n","a_digits","r","q_digits","a_digit","q_digit","q"]
noncomputable def nm56 : List Str := ["a","b","q","r"]
noncomputable def nm28 : List Str := ["a12","a3","b","b1","b2","n","q","r"]
noncomputable def c28 (Γ : Fx) (a c : MV) : MV := dCall Γ 28 (lCons a (lCons c (lCons (dVar 1) (lCons (dVar 6) (lCons (dVar 7) (lCons (dVar 4) lNil))))))
noncomputable def s21 (Γ : Fx) : SS := sSeq (xIf (tCmp .LtE (dBin .Sub (dBits (dVar 0)) (dVar 2)) (dInt 4000)) (sSeq (xRet (dDivmod (dVar 0) (dVar 1))) sNil) sNil)
  (sSeq (xSet 3 (dBin .BitAnd (dVar 2) (dInt 1))) (sSeq (xIf (tVal (dVar 3)) (sSeq (xAug 0 .LShift (dInt 1)) (sSeq (xAug 1 .LShift (dInt 1)) (sSeq (xAug 2 .Add (dInt 1)) sNil))) sNil)
  (sSeq (xSet 4 (dBin .RShift (dVar 2) (dInt 1))) (sSeq (xSet 5 (dBin .Sub (dBin .LShift (dInt 1) (dVar 4)) (dInt 1))) (sSeq (xMany [6, 7] (dTup (lCons (dBin .RShift (dVar 1) (dVar 4)) (lCons (dBin .BitAnd (dVar 1) (dVar 5)) lNil))))
  (sSeq (xMany [8, 9] (c28 Γ (dBin .RShift (dVar 0) (dVar 2)) (dBin .BitAnd (dBin .RShift (dVar 0) (dVar 4)) (dVar 5)))) (sSeq (xMany [10, 9] (c28 Γ (dVar 9) (dBin .BitAnd (dVar 0) (dVar 5))))
  (sSeq (xIf (tVal (dVar 3)) (sSeq (xAug 9 .RShift (dInt 1)) sNil) sNil) (sSeq (xRet (dTup (lCons (dBin .BitOr (dBin .LShift (dVar 8) (dVar 4)) (dVar 10)) (lCons (dVar 9) lNil)))) sNil)))))))))
noncomputable def w28 : SS := sSeq (xAug 6 .Sub (dInt 1)) (sSeq (xAug 7 .Add (dVar 2)) sNil)
noncomputable def s28 (Γ : Fx) : SS := sSeq (xIf (tCmp .Eq (dBin .RShift (dVar 0) (dVar 5)) (dVar 3)) (sSeq (xMany [6, 7] (dTup (lCons (dBin .Sub (dBin .LShift (dInt 1) (dVar 5)) (dInt 1)) (lCons (dBin .Add (dBin .Sub (dVar 0) (dBin .LShift (dVar 3) (dVar 5))) (dVar 3)) lNil)))) sNil) (sSeq (xMany [6, 7] (dCall Γ 21 (lCons (dVar 0) (lCons (dVar 3) (lCons (dVar 5) lNil))))) sNil))
  (sSeq (xSet 7 (dBin .Sub (dBin .BitOr (dBin .LShift (dVar 7) (dVar 5)) (dVar 1)) (dBin .Mult (dVar 6) (dVar 4)))) (sSeq (xWhile (tCmp .Lt (dVar 7) (dInt 0)) w28) (sSeq (xRet (dTup (lCons (dVar 6) (lCons (dVar 7) lNil)))) sNil)))
noncomputable def l49 (Γ : Fx) : SS := sSeq (xMany [7, 4] (dCall Γ 21 (lCons (dBin .Add (dBin .LShift (dVar 4) (dVar 2)) (dVar 6)) (lCons (dVar 1) (lCons (dVar 2) lNil))))) (sSeq (xApp 5 (dVar 7)) sNil)
noncomputable def s49 (Γ : Fx) : SS := sSeq (xSet 2 (dBits (dVar 1))) (sSeq (xSet 3 (dCall Γ 35 (lCons (dVar 0) (lCons (dVar 2) lNil)))) (sSeq (xSet 4 (dInt 0)) (sSeq (xOwn 5 (dList lNil)) (sSeq (xFor (.one 6) (sRevd (dVar 3)) (l49 Γ)) (sSeq (sRev 5) (sSeq (xSet 8 (dCall Γ 42 (lCons (dVar 5) (lCons (dVar 2) lNil)))) (sSeq (xRet (dTup (lCons (dVar 8) (lCons (dVar 4) lNil)))) sNil)))))))
noncomputable def s56 (Γ : Fx) : SS := sSeq (xIf (tCmp .Eq (dVar 1) (dInt 0)) (sSeq xStuck sNil) (sSeq (xIf (tCmp .Lt (dVar 1) (dInt 0)) (sSeq (xMany [2, 3] (dCall Γ 56 (lCons (dUn .USub (dVar 0)) (lCons (dUn .USub (dVar 1)) lNil)))) (sSeq (xRet (dTup (lCons (dVar 2) (lCons (dUn .USub (dVar 3)) lNil)))) sNil))
  (sSeq (xIf (tCmp .Lt (dVar 0) (dInt 0)) (sSeq (xMany [2, 3] (dCall Γ 56 (lCons (dUn .Invert (dVar 0)) (lCons (dVar 1) lNil)))) (sSeq (xRet (dTup (lCons (dUn .Invert (dVar 2)) (lCons (dBin .Add (dVar 1) (dUn .Invert (dVar 3))) lNil)))) sNil)) (sSeq (xRet (dCall Γ 49 (lCons (dVar 0) (lCons (dVar 1) lNil)))) sNil)) sNil)) sNil)) sNil
end
section
variable {Γ : Fx} {a b : Int} {n : Nat}
theorem r21 {n : Int} (h1 : (bits a : Int) - n ≤ 4000) (h : b ≠ 0 ∧ Builtin.divisionGoesByPylong a b = false) : s21 Γ ([.val (.int a), .val (.int b), .val (.int n)] ++ List.replicate 8 .undef) fun fl _ => fl = .ret (qr a b) := by
  refine q_yes (decide_eq_true h1 ▸ k_le (k_sub (k_bits (k_var rfl)) (k_var rfl)) k_int) (q_ret (k_divmod (k_var rfl) (k_var rfl) h) ?_)
  exact rfl
noncomputable abbrev rho49 (a b n : Int) (ds : List Int) (r : Int) (acc : List Int) (b6 b7 : Bind) : PEnv := [.val (.int a), .val (.int b), .val (.int n), .val (.lst (zs ds)), .val (.int r), .own (zs acc), b6, b7, .undef]
theorem r49_loop {A M : Int} {ds : List Int} {Q : Fl → PEnv → Prop} (hb : 0 < b) (hM : (b - 1) * 2 ^ n + A ≤ M) (h21 : ∀ x, 0 ≤ x → x ≤ M → Γ.K 21 [.int x, .int b, .int n] ∧ Γ.V 21 [.int x, .int b, .int n] = qr x b) (hsh : ∀ r, 0 ≤ r → r < b → bits r + n ≤ 134217728) :
    ∀ (L : List Int) (r : Int) (acc : List Int) (b6 b7 : Bind), 0 ≤ r → r < b → (∀ d ∈ L, 0 ≤ d ∧ d ≤ A) → acc.length + L.length ≤ 16777216 → (∀ c6 c7, Q .next (rho49 a b n ds (ldq b n r L).2 (acc ++ (ldq b n r L).1) c6 c7)) → fe (.one 6) (l49 Γ) (zs L) (rho49 a b n ds r acc b6 b7) Q
  | [], r, acc, b6, b7, _, _, _, _, q => by have := q b6 b7; rw [show (ldq b n r []).1 = [] from rfl, List.append_nil] at this; exact this
  | d :: L, r, acc, b6, b7, h0, h1, hd, hl, q => by
    obtain ⟨m1, m2⟩ := fmod_pos (x := r * 2 ^ n + d) hb
    obtain ⟨d1, d2⟩ := hd d (.head _)
    have x1 : 0 ≤ r * 2 ^ n ∧ r * 2 ^ n ≤ (b - 1) * 2 ^ n := by
      have hp : (0 : Int) ≤ 2 ^ n := Int.pow_nonneg (by decide)
      exact ⟨Int.mul_nonneg h0 hp, Int.mul_le_mul_of_nonneg_right (Int.le_sub_one_of_lt h1) hp⟩
    obtain ⟨f1, f2⟩ := h21 (r * 2 ^ n + d) (Int.add_nonneg x1.1 d1) (Int.le_trans (Int.add_le_add x1.2 d2) hM)
    have hl1 : (zs acc).length < 16777216 := by rw [List.length_map]; exact Nat.lt_of_lt_of_le (Nat.lt_add_of_pos_right (Nat.succ_pos _)) hl
    have hl2 : (acc ++ [(r * 2 ^ n + d).fdiv b]).length + L.length ≤ 16777216 := by rw [List.length_append, List.length_singleton, Nat.add_assoc, Nat.add_comm 1]; exact hl
    refine ⟨trivial, q_many (k_call (k_cons (k_add (k_op (k_var rfl) (k_var rfl) (shl_of (hsh r h0 h1))) (k_var rfl)) (k_cons (k_var rfl) (k_cons (k_var rfl) k_nil))) f1 f2) rfl (q_app rfl (k_var rfl) hl1 ?_)⟩
    have := r49_loop hb hM h21 hsh L _ (acc ++ [(r * 2 ^ n + d).fdiv b]) (.val (.int d)) (.val (.int ((r * 2 ^ n + d).fdiv b))) m1 m2 (fun x hx => hd x (.tail _ hx)) hl2 (Q := Q) (fun c6 c7 => by have := q c6 c7; rw [show (ldq b n r (d :: L)).1 = (r * 2 ^ n + d).fdiv b :: (ldq b n ((r * 2 ^ n + d).fmod b) L).1 from rfl] at this; rw [List.append_assoc]; exact this)
    unfold rho49 at this
    rw [show zs (acc ++ [(r * 2 ^ n + d).fdiv b]) = zs acc ++ [.int ((r * 2 ^ n + d).fdiv b)] from List.map_append] at this
    exact this
/-- long division, all in all -/
theorem r49 {A M : Int} {ds : List Int} (hb : 0 < b) (hn : bits b = n) (hM : (b - 1) * 2 ^ n + A ≤ M) (h21 : ∀ x, 0 ≤ x → x ≤ M → Γ.K 21 [.int x, .int b, .int n] ∧ Γ.V 21 [.int x, .int b, .int n] = qr x b) (hsh : ∀ r, 0 ≤ r → r < b → bits r + n ≤ 134217728)
    (h35 : Γ.K 35 [.int a, .int n] ∧ Γ.V 35 [.int a, .int n] = .lst (zs ds)) (hd : ∀ d ∈ ds, 0 ≤ d ∧ d ≤ A) (hw : worth n ds = a) (hl : ds.length ≤ 16777216)
    (h42 : ∀ qs : List Int, qs.length = ds.length → (∀ q ∈ qs, 0 ≤ q ∧ q ≤ M) → Γ.K 42 [.lst (zs qs), .int n] ∧ Γ.V 42 [.lst (zs qs), .int n] = .int (worth n qs)) :
    s49 Γ ([.val (.int a), .val (.int b)] ++ List.replicate 7 .undef) fun fl _ => fl = .ret (qr a b) := by
  have hdr : ∀ d ∈ ds.reverse, 0 ≤ d ∧ d ≤ A := fun d hx => hd d (List.mem_reverse.mp hx)
  obtain ⟨i1, i2, i3, i4⟩ := ldq_ok (n := n) hb ds.reverse 0 (Int.le_refl _) hb fun d hx => (hdr d hx).1
  have i5 := ldq_le (n := n) hb hM ds.reverse 0 (Int.le_refl _) hb hdr
  rw [List.reverse_reverse, hw, Int.zero_mul, Int.zero_add] at i2
  rw [List.length_reverse] at i1
  obtain ⟨e1, e2⟩ := div_unique hb i2 i3 i4
  obtain ⟨g1, g2⟩ := h42 (ldq b n 0 ds.reverse).1.reverse (by rw [List.length_reverse]; exact i1) fun q hx => i5 q (List.mem_reverse.mp hx)
  have hrev : (zs ds).reverse = zs ds.reverse := List.map_reverse.symm
  refine q_set (k_bits (k_var rfl)) (q_set (k_call (k_cons (k_var rfl) (k_cons (k_var rfl) k_nil)) (hn ▸ h35.1) (hn ▸ h35.2)) (q_set k_int (q_own (k_list k_nil) rfl (q_for (k_revd (k_var rfl)) ?_))))
  rw [hrev, hn]
  refine r49_loop hb hM h21 hsh ds.reverse 0 [] .undef .undef (Int.le_refl _) hb hdr (by rw [List.length_reverse]; simpa using hl) fun c6 c7 => ?_
  rw [List.nil_append]
  refine q_rev rfl (by rw [List.length_map, i1]; exact hl) ?_
  rw [show (zs (ldq b n 0 ds.reverse).1).reverse = zs (ldq b n 0 ds.reverse).1.reverse from List.map_reverse.symm]
  refine q_set (k_call (k_cons (k_var rfl) (k_cons (k_var rfl) k_nil)) g1 g2) (q_ret (k_tup (k_cons (k_var rfl) (k_cons (k_var rfl) k_nil))) ?_)
  rw [← e1, ← e2]
  exact rfl
noncomputable abbrev r2 (a b : Int) : PEnv := [.val (.int a), .val (.int b)]
theorem b_false {p : Prop} [Decidable p] (h : ¬ p) : decide p = false := decide_eq_false h
theorem r56_pos (ha : 0 ≤ a) (hb : 0 < b) (h : Γ.K 49 [.int a, .int b] ∧ Γ.V 49 [.int a, .int b] = qr a b) : s56 Γ (r2 a b) fun fl _ => fl = .ret (qr a b) := by
  refine q_not ((beq_eq_false_iff_ne.mpr (Int.ne_of_gt hb)) ▸ k_eq (k_var rfl) k_int) (q_not (b_false (Int.not_lt.mpr (Int.le_of_lt hb)) ▸ k_lt (k_var rfl) k_int) (q_not (b_false (Int.not_lt.mpr ha) ▸ k_lt (k_var rfl) k_int) (q_ret (k_call (k_cons (k_var rfl) (k_cons (k_var rfl) k_nil)) h.1 h.2) ?_)))
  exact rfl
theorem r56_left (ha : a < 0) (hb : 0 < b) (h : Γ.K 56 [.int (-a - 1), .int b] ∧ Γ.V 56 [.int (-a - 1), .int b] = qr (-a - 1) b) : s56 Γ (r2 a b) fun fl _ => fl = .ret (qr a b) := by
  obtain ⟨m1, m2⟩ := fmod_pos (x := -a - 1) hb
  have e := Int.mul_fdiv_add_fmod (-a - 1) b
  have em : -(-a - 1).fmod b - 1 = -((-a - 1).fmod b + 1) := Int.neg_add.symm
  obtain ⟨e1, e2⟩ := div_unique (a := a) (q := -(-a - 1).fdiv b - 1) (r := b + (-(-a - 1).fmod b - 1)) hb (by
    rw [Int.mul_comm] at e
    rw [Int.sub_mul, Int.neg_mul, Int.one_mul, ← Int.add_assoc, Int.sub_add_cancel, ← Int.add_sub_assoc, ← Int.neg_add, e, Int.neg_sub, Int.sub_neg, Int.add_comm, Int.add_sub_cancel]) (by rw [em]; exact Int.sub_nonneg_of_le m2) (by rw [em]; exact Int.sub_lt_self _ (Int.lt_add_one_of_le m1))
  refine q_not ((beq_eq_false_iff_ne.mpr (Int.ne_of_gt hb)) ▸ k_eq (k_var rfl) k_int) (q_not (b_false (Int.not_lt.mpr (Int.le_of_lt hb)) ▸ k_lt (k_var rfl) k_int) (q_yes (decide_eq_true ha ▸ k_lt (k_var rfl) k_int)
    (q_many (k_call (k_cons (k_inv (k_var rfl)) (k_cons (k_var rfl) k_nil)) h.1 h.2) rfl (q_ret (k_tup (k_cons (k_inv (k_var rfl)) (k_cons (k_add (k_var rfl) (k_inv (k_var rfl))) k_nil))) ?_))))
  unfold qr
  rw [e1, e2]
  exact rfl
theorem r56_neg (hb : b < 0) (h : Γ.K 56 [.int (-a), .int (-b)] ∧ Γ.V 56 [.int (-a), .int (-b)] = qr (-a) (-b)) : s56 Γ (r2 a b) fun fl _ => fl = .ret (qr a b) := by
  have e1 : (-a).fdiv (-b) = a.fdiv b := Int.neg_fdiv_neg ..
  have e2 : (-a).fmod (-b) = -(a.fmod b) := Int.neg_fmod_neg a b
  refine q_not ((beq_eq_false_iff_ne.mpr (Int.ne_of_lt hb)) ▸ k_eq (k_var rfl) k_int) (q_yes (decide_eq_true hb ▸ k_lt (k_var rfl) k_int)
    (q_many (k_call (k_cons (k_neg (k_var rfl)) (k_cons (k_neg (k_var rfl)) k_nil)) h.1 h.2) rfl (q_ret (k_tup (k_cons (k_var rfl) (k_cons (k_neg (k_var rfl)) k_nil))) ?_)))
  rw [e1, e2, Int.neg_neg]
  exact rfl
end

end
end Mine
namespace Mine
section
open PySem.Calls
theorem lt_of_bits {a : Int} {B : Nat} (h0 : 0 ≤ a) (h : bits a ≤ B) : a < 2 ^ B := lt_pow_of_bits h0 h
theorem bits_neg (a : Int) : bits (-a) = bits a := by
  have h : ∀ m, bits (-a) ≤ m ↔ bits a ≤ m := fun m => by rw [bits_le, bits_le, Int.natAbs_neg]
  exact Nat.le_antisymm ((h _).mpr (Nat.le_refl _)) ((h _).mp (Nat.le_refl _))
theorem bits_ge {x : Int} {B : Nat} (h0 : 0 < x) (h : bits x = B) (hB : 0 < B) : (2 : Int) ^ (B - 1) ≤ x := Int.not_lt.mp fun q => Nat.not_lt.mpr (bits_of_lt (Int.le_of_lt h0) q) (by rw [h]; exact Nat.sub_lt hB Nat.one_pos)
theorem bits_pos {b : Int} (h : 0 < b) : 0 < bits b := bits_0 (Int.ne_of_gt h)
theorem len_le {l a n : Nat} (hn : 0 < n) (h : l = (a + n - 1) / n) : n * l ≤ a + n - 1 ∧ l ≤ a := ⟨by rw [h]; exact Nat.mul_div_le .., h ▸ cnt_le hn⟩
theorem noPl {a b : Int} {B : Nat} (h : bits b ≤ B) (hB : B ≤ 8999) (h0 : b ≠ 0) : Builtin.divisionGoesByPylong a b = false := by
  refine PyProof.noPylong_of_log2 ?_
  rw [Nat.log2_lt (Int.natAbs_ne_zero.mpr h0)]
  exact Nat.lt_of_lt_of_le (bits_le.mp h) (Nat.pow_le_pow_right (by decide) (Nat.le_trans hB (by decide)))
/-- the module's functions, as the laws need them -/
structure Pylong (C : Cx) (G : Str → Option Value) (X : Addr → List PV → PV) (hG : GOk C G) : Prop where
  c35 : ∀ {D U k : Nat} {a w : Int} {ds : List Int}, k ≤ D → 64 + 3 * k ≤ U → digP a w k = some ds → ConAt C (D + 1) (U + 3) 35 [.int a, .int w] (.lst (zs ds))
  c42 : ∀ {D U w B k : Nat} {M : Int} {ds : List Int}, 0 < w → 0 ≤ M → bits M ≤ B → (∀ d ∈ ds, 0 ≤ d ∧ d ≤ M) → ds.length ≤ 16777216 → B + 2 * (w * ds.length) ≤ 100000000 → ds.length ≤ 2 ^ k → k + 1 ≤ D → 64 + 3 * k + 3 ≤ U → ConAt C (D + 1) (U + 3) 42 [.lst (zs ds), .int w] (.int (worth w ds))
  c21 : ∀ {D U : Nat} {a b n r : PV} (h : 64 ≤ U), s21 (fxOf C nm21 G X hG D U h) ([.val a, .val b, .val n] ++ List.replicate 8 .undef) (fun fl _ => fl = .ret r) → ConAt C (D + 1) (U + 3) 21 [a, b, n] r
  c28 : ∀ {D U : Nat} {a b c d e f r : PV} (h : 64 ≤ U), s28 (fxOf C nm28 G X hG D U h) ([.val a, .val b, .val c, .val d, .val e, .val f] ++ List.replicate 2 .undef) (fun fl _ => fl = .ret r) → ConAt C (D + 1) (U + 3) 28 [a, b, c, d, e, f] r
  c49 : ∀ {D U : Nat} {a b r : PV} (h : 64 ≤ U), s49 (fxOf C nm49 G X hG D U h) ([.val a, .val b] ++ List.replicate 7 .undef) (fun fl _ => fl = .ret r) → ConAt C (D + 1) (U + 3) 49 [a, b] r
  c56 : ∀ {D U : Nat} {a b r : PV} (h : 64 ≤ U), s56 (fxOf C nm56 G X hG D U h) [.val a, .val b] (fun fl _ => fl = .ret r) → ConAt C (D + 1) (U + 3) 56 [a, b] r
section
variable {C : Cx} {G : Str → Option Value} {X : Addr → List PV → PV} {hG : GOk C G} {a b : Int}
theorem Pylong.pos (Y : Pylong C G X hG) {B n : Nat} (ha : 0 ≤ a) (hb : 0 < b) (h1 : bits a ≤ B) (hB : B ≤ 100000) (hn : bits b = n) (hn9 : n ≤ 8000) (h21 : ∀ x, 0 ≤ x → x < b * 2 ^ n → ConAt C 22 130 21 [.int x, .int b, .int n] (qr x b)) : ConAt C 23 133 49 [.int a, .int b] (qr a b) := by
  have hn0 : 0 < n := hn ▸ bits_pos hb
  obtain ⟨ds, hds, hw, hdd, hlen⟩ := digP_ok (w := n) (k := 17) hn0 ha h1 (Nat.le_trans hB (by decide)) (Nat.le_trans hn9 (by decide)) (Nat.le_trans (Nat.le_trans h1 hB) (by decide))
  obtain ⟨l1, l2⟩ := len_le hn0 hlen
  have hp : (0 : Int) < 2 ^ n := Int.pow_pos (by decide)
  obtain ⟨M, hM⟩ : ∃ M, M = b * 2 ^ n - 1 := ⟨_, rfl⟩
  have eM : (b - 1) * 2 ^ n + (2 ^ n - 1) = M := by rw [hM, Int.sub_mul, Int.one_mul, ← Int.add_sub_assoc, Int.sub_add_cancel]
  have hb2 := lt_of_bits (Int.le_of_lt hb) (Nat.le_of_eq hn)
  have hMlt : M < 2 ^ (n + n) := by
    have := Int.mul_lt_mul_of_pos_right hb2 hp
    rw [Int.pow_add, hM]; exact Int.lt_of_le_of_lt (Int.sub_le_self _ (by decide)) this
  have hM0 : 0 ≤ M := by
    rw [hM]; exact Int.sub_nonneg_of_le (Int.mul_pos hb hp)
  have hlB : ds.length ≤ 100000 := Nat.le_trans l2 (Nat.le_trans h1 hB)
  have key : s49 (fxOf C nm49 G X hG 22 130 (by decide)) ([.val (.int a), .val (.int b)] ++ List.replicate 7 .undef) fun fl _ => fl = .ret (qr a b) := by
    refine r49 (A := 2 ^ n - 1) (M := M) (ds := ds) hb hn (Int.le_of_eq eM) (fun x x0 x1 => ⟨?_, rfl⟩) (fun r r0 r1 => ?_) ⟨?_, ?_⟩ (fun d hd => ⟨(hdd d hd).1, Int.le_sub_one_of_lt (hdd d hd).2.2⟩) hw (Nat.le_trans hlB (by decide)) fun qs l hq => ⟨?_, ?_⟩
    · exact h21 x x0 (by rw [hM] at x1; exact Int.lt_of_le_sub_one x1)
    · have := bits_of_lt r0 (Int.lt_trans r1 hb2)
      exact two_bits this (Nat.le_refl n) (Nat.le_trans hn9 (by decide))
    · have e : Vl X 35 [.int a, .int n] = .lst (zs ds) := by show PV.lst (zs ((digP a n 18).getD [])) = _; rw [hds]; rfl
      show ConAt C 22 130 35 _ (Vl X 35 _)
      rw [e]
      exact (Y.c35 (D := 18) (U := 118) (by decide) (by decide) hds).mono (by decide) (by decide)
    · show PV.lst (zs ((digP a n 18).getD [])) = _
      rw [hds]; rfl
    · have e : Vl X 42 [.lst (zs qs), .int n] = .int (worth n qs) := by
        show PV.int (worth (n : Int).toNat ((zs qs).map asI)) = _
        rw [zs_asI, Int.toNat_natCast]
      show ConAt C 22 130 42 _ (Vl X 42 _)
      rw [e]
      refine (Y.c42 (D := 18) (U := 118) (k := 17) (B := n + n) hn0 hM0 (bits_of_lt hM0 hMlt) hq (by rw [l]; exact Nat.le_trans hlB (by decide)) ?_ (by rw [l]; exact Nat.le_trans hlB (by decide)) (by decide) (by decide)).mono (by decide) (by decide)
      rw [l]
      exact Nat.le_trans (Nat.add_le_add (Nat.add_le_add hn9 hn9) (Nat.mul_le_mul_left 2 (Nat.le_trans l1 (Nat.le_trans (Nat.sub_le _ _) (Nat.add_le_add (Nat.le_trans h1 hB) hn9))))) (by decide)
    · show PV.int (worth (n : Int).toNat ((zs qs).map asI)) = _
      rw [zs_asI, Int.toNat_natCast]
  exact Y.c49 (by decide) key
/-- int_divmod -/
theorem Pylong.dm (Y : Pylong C G X hG) (hb : b ≠ 0) {B n : Nat} (h1 : bits a ≤ B) (hB : B ≤ 100000) (hn : bits b = n) (hn9 : n ≤ 8000) (h21 : ∀ b : Int, 0 < b → bits b = n → ∀ x, 0 ≤ x → x < b * 2 ^ n → ConAt C 22 130 21 [.int x, .int b, .int n] (qr x b)) : ConAt C 26 142 56 [.int a, .int b] (qr a b) := by
  have up : ∀ {a b : Int}, 0 < b → bits a ≤ B → bits b = n → ConAt C 25 139 56 [.int a, .int b] (qr a b) := fun {a b} hb h1 hn => by
    have key : ∀ a : Int, 0 ≤ a → bits a ≤ B → ConAt C 24 136 56 [.int a, .int b] (qr a b) := fun a ha h1 => Y.c56 (D := 23) (U := 133) (by decide) (r56_pos ha hb ⟨Y.pos ha hb h1 hB hn hn9 (h21 b hb hn), rfl⟩)
    by_cases ha : 0 ≤ a
    · exact (key a ha h1).mono (by decide) (by decide)
    · exact Y.c56 (D := 24) (U := 136) (by decide) (r56_left (Int.not_le.mp ha) hb ⟨key (-a - 1) (Int.sub_nonneg_of_le (Int.neg_pos_of_neg (Int.not_le.mp ha))) (bits_up (Int.sub_nonneg_of_le (Int.neg_pos_of_neg (Int.not_le.mp ha))) (Int.sub_le_self _ (by decide)) (by rw [bits_neg]; exact h1)), rfl⟩)
  by_cases hp : 0 < b
  · exact (up hp h1 hn).mono (by decide) (by decide)
  · exact Y.c56 (D := 25) (U := 139) (by decide) (r56_neg (Int.lt_iff_le_and_ne.mpr ⟨Int.not_lt.mp hp, hb⟩) ⟨up (Int.neg_pos_of_neg (Int.lt_iff_le_and_ne.mpr ⟨Int.not_lt.mp hp, hb⟩)) (by rw [bits_neg]; exact h1) (by rw [bits_neg]; exact hn), rfl⟩)
end

end
end Mine
namespace Mine
section
open PySem.Calls
/-- a class raised by its name; the error's words are kept in sight -/
theorem raise_cls {prog : Program} {w : World} {A : Around} {E : Value → Shared → Prop} {s : Shared} {env : Env} {X N I newId initId : String} {x : Str} {np pos : Pos} {Q : Flow → Shared → Prop} (hh : A.handled = none) (F : ExcCallFacts X newId initId) (hc : ExcClass X N I)
    (hself : isSubtype (.type X) (.type X) = pure true) (hx : wpAny (model prog w) A (eval (.Name x np) env) (fun v s₁ => v = .type X ∧ ∃ tk, s₁ = { s with toks := tk }) E s)
    (h : ∀ h' e tk, Heap.MadeExc s.heap h' e X [] → E (.ref e) { s with heap := h', toks := tk }) : wpAny (model prog w) A (exec (.Raise (some (.Name x np)) none pos) env) Q E s := by
  show wpAny (model prog w) A (do standAt pos; raiseStmt env (some (do let v ← eval (.Name x np) env; standAt pos; pure v)) none) Q E s
  refine wpAny_bind (wpAny_standAt ?_)
  unfold raiseStmt
  refine wpAny_bind (wpAny_bind (wpAny_mono hx (fun v s₁ h₁ => wpAny_bind (wpAny_standAt (wpAny_pure ?_))) fun _ _ e => e))
  obtain ⟨rfl, tk, hs⟩ := h₁
  subst hs
  refine wpAny_bind (wpAny_pure (wpAny_bind (wpAny_holding ?_)))
  unfold excFromValue isExcClass
  refine wpAny_bind (wpAny_bind (wpAny_pure ?_))
  rw [if_pos rfl, hc.base]
  refine wpAny_pure ?_
  rw [if_pos rfl]
  refine wpAny_bind (wpAny_call_exc F fun h' e hn => ?_)
  obtain ⟨t, he, _, _⟩ := hn.there
  have hT : (⟨h', s.gens, s.drawn, tk, s.os⟩ : Shared).TypeIs (.ref e) X := ⟨_, he, rfl⟩
  refine wpAny_bind (wpAny_isInstance hT hc.base ?_)
  rw [if_neg (by decide)]
  refine wpAny_pure (wpAny_bind (wpAny_pure ?_))
  rw [if_pos rfl]
  refine wpAny_bind (wpAny_holding ?_)
  unfold raisedFor
  rw [if_neg (by decide)]
  refine wpAny_bind (wpAny_typeOf hT (wpAny_bind (call_issubclass (issubclass_self hc hself) ?_)))
  refine wpAny_bind (wpAny_truthy_bool ?_)
  dsimp only
  rw [if_pos rfl]
  refine wpAny_pure ?_
  unfold setFlight raiseNew
  refine wpAny_bind (wpAny_bind (wpAny_field (i := 1) (x := Value.none) he rfl rfl ?_))
  rw [if_neg (by decide)]
  refine wpAny_pure (wpAny_bind (wpAny_handled ?_))
  rw [hh]
  exact wpAny_throw (h h' e tk hn)

noncomputable abbrev frs (l : List Env) : List Addr := l.filterMap (·.frame)
section
variable {Γ : Fx} {C : Cx} {h₀ h h' h1 h2 : Heap} {A : Around} {sc : Scope} {e₀ env e : Env} {ρ : PEnv} {X X₀ : List Addr} {st : Bool} {S : SS} {l outer : List Env} {x : Addr} {a0 : Value} {bare : Bool} {B : Heap}
theorem FF.ns (f : FF C.rb h l) {b : Addr} (hb : b ∈ frs l) : C.rb.get? b = none ∧ ∃ m, h.Ns b m := by
  obtain ⟨en, he, hf⟩ := List.mem_filterMap.mp hb
  obtain ⟨_, L, m, h1, h2, h3⟩ := f en he
  rw [hf] at h1; cases h1
  exact ⟨h2, m, h3⟩
theorem FF.fun (f : FF C.rb h l) {as : List Addr} (hs : ∀ b ∈ frs l, b ∈ as) : h.FunFrames (hideAll h as) l := by
  induction l with
  | nil => trivial
  | cons en l ih =>
    obtain ⟨h1, L, m, h2, h3, o, es, ep, h4, h5, _⟩ := f en (.head _)
    exact ⟨h1, ⟨L, o, h2, hideAll_none _ (hs L (List.mem_filterMap.mpr ⟨en, .head _, h2⟩)), h4, fun vs q => by rw [h5] at q; cases q⟩, ih (fun e he => f e (.tail _ he)) fun b hb => hs b (List.mem_filterMap.mpr (let ⟨e, z1, z2⟩ := List.mem_filterMap.mp hb; ⟨e, .tail _ z1, z2⟩))⟩
theorem TabsOk.hide (x : TabsOk C h) (hr : C.rb = C.base) (f : FF C.rb h l) : TabsOk C (hideAll h (frs l)) := by
  have nd : ∀ {b : Addr} {o : Obj}, h.get? b = some o → NoD o → b ∉ frs l := fun e hn q => by
    obtain ⟨_, m, o, es, ep, e1, e2, _⟩ := f.ns q
    rw [e] at e1; cases e1
    exact hn _ _ e2
  refine ⟨fun t ht => ?_, fun b o eb => hideAll_get _ (x.base b o eb) fun q => by rw [← hr, (f.ns q).1] at eb; cases eb⟩
  obtain ⟨ps, h1, h2⟩ := x.tabs t ht
  refine ⟨ps, hideAll_get _ h1 (nd h1 fun _ _ q => by cases q), h2.imp id ?_⟩
  rintro ⟨c', e', nc, c, o, vs, tk, ec, ho, hd, hv⟩
  cases ec
  exact ⟨c', e', nc, c', o, vs, tk, rfl, hideAll_get _ ho (nd ho fun _ _ q => by rw [hd] at q; cases q), hd, hv⟩
/-- an error on its way to the frames l; h: the heap that was; B: what no frame's slots are of -/
structure Fly (C : Cx) (l : List Env) (h : Heap) (x : Addr) (a0 : Value) (bare : Bool) (B h' : Heap) : Prop where
  keep : Ext (frs l ++ C.Ps) h B
  tab : TabsOk C B
  fly : Heap.FlyingW B l x (.type "ZeroDivisionError") a0 h'
  tup : bare = true → ∃ t, a0 = .ref t ∧ h'.TupAt t []
  up : ∀ b o, b ∈ frs l → h.get? b = some o → ∃ sl, h'.get? b = some { o with slots := sl }
theorem Fly.tabs (F : Fly C l h x a0 bare B h') : TabsOk C h' := F.tab.keeps F.fly.1
theorem Fly.ext (F : Fly C l h x a0 bare B h') (f : FF C.rb h l) : Ext C.Ps h h' := fun b o hb e => by
  by_cases q : b ∈ frs l
  · obtain ⟨_, m, o', es, ep, e1, e2, _⟩ := f.ns q
    rw [e] at e1; cases e1
    obtain ⟨sl, e3⟩ := F.up b o q e
    exact ⟨sl, e3, fun z => absurd e2 (z _ _)⟩
  · obtain ⟨sl, e1, e2⟩ := F.keep b o (fun z => (List.mem_append.mp z).elim q hb) e
    exact ⟨sl, F.fly.1 _ _ e1, e2⟩
/-- on the same way, later -/
theorem Fly.re (F : Fly C l h x a0 bare B h') (f : FF C.rb h l) (fl : Heap.FlyingW B l x (.type "ZeroDivisionError") a0 h2) (u : h'.UpToSlots h2) : Fly C l h x a0 bare B h2 where
  keep := F.keep
  tab := F.tab
  fly := fl
  tup := fun q => let ⟨t, e, z⟩ := F.tup q; ⟨t, e, z.of_slots u⟩
  up := fun b o hb e => by
    obtain ⟨_, m, o', es, ep, e1, e2, _⟩ := f.ns hb
    rw [e] at e1; cases e1
    obtain ⟨sl, e3⟩ := F.up b o hb e
    obtain ⟨sl2, e4⟩ := u b _ e3 fun vs q => by rw [show o.data = _ from e2] at q; cases q
    exact ⟨sl2, e4⟩
/-- seen from earlier -/
theorem Fly.pre (F : Fly C l h1 x a0 bare B h') (k : Ext C.Ps h h1) (hP : ∀ b ∈ frs l, b ∉ C.Ps) : Fly C l h x a0 bare B h' where
  keep := Ext.trans (fun b o hb e => k b o (fun q => hb (List.mem_append_right _ q)) e) F.keep
  tab := F.tab
  fly := F.fly
  tup := F.tup
  up := fun b o hb e => let ⟨_, e1, _⟩ := k b o (hP b hb) e; let ⟨sl2, e2⟩ := F.up b _ hb e1; ⟨sl2, e2⟩
theorem Act.frP (a : Act C A e₀ h₀ h) (hfr : A.frames = some l) : ∀ b ∈ frs l, b ∉ C.Ps := fun b hb => by
  obtain ⟨outer, e, f⟩ := a.bel
  rw [hfr] at e; cases e
  obtain ⟨_, m, n⟩ := f.ns hb
  exact ns_notP a.tab n
/-- a call that gives an error; bare: without words -/
noncomputable def RaisesAt (C : Cx) (D U : Nat) (f : Addr) (pvs : List PV) (bare : Bool) : Prop :=
  keepIn C.K (.ref f) = true ∧ ∀ (A : Around) (e₀ : Env) (h₀ h : Heap) (args : List Value) (X : List Addr) (outer : List Env), Act C A e₀ h₀ h → A.frames = some (e₀ :: outer) → A.depth + D < recursionLimit → A.units + U < cLine → (∀ a ∈ X, ∃ o, h.get? a = some o) → RepL h X pvs args →
    ∀ (s : Shared) (tk : Nat), wpAny C.M A (call (.ref f) args) (fun _ _ => False) (fun x s' => ∃ e a0 B h' tk', x = .ref e ∧ s' = Sh s h' tk' ∧ Fly C (e₀ :: outer) h e a0 bare B h') (Sh s h tk)
/-- an error in its own frame: new, or come from a call -/
noncomputable def Thrown (C : Cx) (A : Around) (e : Env) (h : Heap) (bare : Bool) (x : Value) (h' : Heap) : Prop := ∃ a h2, x = .ref a ∧ Ext C.Ps h h2 ∧ TabsOk C h2 ∧
  ((∃ t ob, (∀ b o, h2.get? b = some o → h'.get? b = some o) ∧ h2.get? a = none ∧ h'.get? a = some ob ∧ ob.cls = .type "ZeroDivisionError" ∧ ob.data = .fields #[t, .none, .none, .none, .bool false, .none] ∧ (bare = true → ∃ b, t = .ref b ∧ h'.TupAt b [])) ∨
    ∃ outer a0 B, A.frames = some (e :: outer) ∧ Fly C (e :: outer) h2 a a0 bare B h')
theorem raises_by {name qual : Str} {params : Arguments} {body : List Stmt} {dV kV doc pm cdv ct oc : Value} {an od : Option Addr} {osl : Array (Option Value)} {f : Addr} {ps : List Str} {is : List Nat} {pvs : List PV} (hr : Γ.C.rb = Γ.C.base)
    (hK : Γ.C.K.lookup f = some ⟨oc, od, .func (fnX name qual params body sc [] dV kV doc pm an cdv ct), osl⟩) (hkeep : keepIn Γ.C.K (.ref f) = true) (hcd : codeIn Γ.C.K cdv qual = true) (hsc : topScope sc ps = true)
    (hbind : ∀ vals : List Value, vals.length = ps.length → bindArgs (fnX name qual params body sc [] dV kV doc pm an cdv ct) ⟨vals, []⟩ = pure (ps.zip vals))
    (hv : varsOf Γ.nm ps = some is) (hl : ps.length = pvs.length)
    (hb : ∀ A L g X h, ST Γ A (envOfC qual sc L f cdv) g sc X X (puts [] is pvs) h → ∀ (s : Shared) (tk : Nat), wpAny Γ.C.M A (execs body (envOfC qual sc L f cdv)) (fun _ _ => False) (fun x s' => ∃ h' tk', s' = Sh s h' tk' ∧ Thrown Γ.C A (envOfC qual sc L f cdv) h bare x h') (Sh s h tk)) :
    RaisesAt Γ.C (Γ.D + 1) (Γ.U + 3) f pvs bare := by
  refine ⟨hkeep, fun A e₀ h₀ hp args X outer act hfr hdep hunt al hrep s0 tk0 => ?_⟩
  generalize hs : Sh s0 hp tk0 = s
  have hsh : s.heap = hp := by rw [← hs]
  subst hsh
  have hlen : args.length = ps.length := by
    rw [hrep.length, hl]
  have hsc' := hsc
  unfold topScope at hsc'
  simp only [Bool.and_eq_true, Bool.not_eq_true', decide_eq_true_eq, List.all_eq_true, Bool.or_eq_true, beq_iff_eq] at hsc'
  obtain ⟨⟨⟨⟨⟨hkind, hco⟩, hgen⟩, _⟩, hps⟩, hnd⟩ := hsc'
  obtain ⟨mm, Fm⟩ := act.fr
  refine wpAny_call ?_
  have ho : s.heap.get? f = some _ := Fm.keep _ _ (act.kin _ _ hK)
  refine codeAny_call_function (by (first | lia | omega)) ho rfl hco hgen rfl (codeRec_of (act.kin.keeps Fm.keep) hcd) (BindsTo.of_eq (s := s) (hbind args hlen) _ _ _ _ ?_)
  refine wpAny_newFunctionEnv_cells hkind (fun x hx => ?_) fun env' he s' x => ?_
  · have hx' : x.1 ∈ ps := zip_fst (List.mem_map.mpr ⟨x, hx, rfl⟩)
    rcases hps x.1 hx' with q | q
    · exact .inl q
    · exact .inr ⟨q, cellsFrom_some _ _ _ (.inl q)⟩
  · subst he
    refine ⟨act.nolimit.keeps x.toInCall.keep, codeAny_func ?_⟩
    have E := enter (A := A) (X := X) (qual := qual) (f := f) (cdv := cdv) hsc act hdep hunt al hv hrep x
    have hk := x.toInCall.keep
    obtain ⟨h1, tk1, e1, _⟩ := x.done
    subst e1
    refine wpAny_mono (hb _ _ _ _ _ E s tk1) (fun _ _ f => f.elim) fun x s2 ⟨h', tk', es, a, h2, ex, k2, t2, th⟩ => ?_
    subst ex es
    have act2 := E.xc.act.step k2 t2
    show wpAny Γ.C.M (A.deeper (envOfC qual sc s.heap.objs.size f cdv)) (leaving (envOfC qual sc s.heap.objs.size f cdv) (.ref a)) _ _ _
    generalize hE : envOfC qual sc s.heap.objs.size f cdv = en at *
    have efr : en.frame = some s.heap.objs.size := by rw [← hE]; rfl
    have hfr3 : (A.deeper en).frames = some (en :: e₀ :: outer) := by
      show A.frames.map _ = _
      rw [hfr]; rfl
    obtain ⟨outer2, hfr2, ff⟩ := act2.bel
    have ho2 : e₀ :: outer = outer2 := (List.cons.inj (Option.some.inj (hfr3.symm.trans hfr2))).2
    subst ho2
    have hal : ∀ b o, s.heap.get? b = some o → b ≠ s.heap.objs.size := fun b o e => Nat.ne_of_lt (Heap.lt_size e)
    have mem : ∀ b, b ∈ frs (en :: e₀ :: outer) → b = s.heap.objs.size ∨ b ∈ frs (e₀ :: outer) := fun b hb => by
      obtain ⟨e', he, hf⟩ := List.mem_filterMap.mp hb
      rcases List.mem_cons.mp he with rfl | he
      · rw [efr] at hf; exact .inl (Option.some.inj hf).symm
      · exact .inr (List.mem_filterMap.mpr ⟨e', he, hf⟩)
    have mem' : ∀ b, b ∈ frs (e₀ :: outer) → b ∈ frs (en :: e₀ :: outer) := fun b hb => by
      obtain ⟨e', he, hf⟩ := List.mem_filterMap.mp hb
      exact List.mem_filterMap.mpr ⟨e', .tail _ he, hf⟩
    have ffo : FF Γ.C.rb h2 (e₀ :: outer) := fun e' he => ff e' (.tail _ he)
    have kk : Ext Γ.C.Ps s.heap h2 := Ext.trans (.of_keep hk) k2
    have notP : ∀ b ∈ frs (e₀ :: outer), b ∉ Γ.C.Ps := act.frP hfr
    have fin : ∀ {B h'' : Heap} {a0 : Value}, Ext (frs (en :: e₀ :: outer) ++ Γ.C.Ps) h2 B → TabsOk Γ.C B → Heap.FlyingW B (e₀ :: outer) a (.type "ZeroDivisionError") a0 h'' → (bare = true → ∃ t, a0 = .ref t ∧ h''.TupAt t []) →
        (∀ b o, b ∈ frs (en :: e₀ :: outer) → h2.get? b = some o → ∃ sl, h''.get? b = some { o with slots := sl }) → Fly Γ.C (e₀ :: outer) s.heap a a0 bare B h'' := fun z1 z2 z3 z4 z5 =>
      { keep := fun b o hb e => by
          obtain ⟨sl, e1, e2⟩ := kk b o (fun q => hb (List.mem_append_right _ q)) e
          obtain ⟨sl2, e3, e4⟩ := z1 b _ (fun q => (List.mem_append.mp q).elim (fun q => (mem b q).elim (hal b o e) fun q => hb (List.mem_append_left _ q)) fun q => hb (List.mem_append_right _ q)) e1
          exact ⟨sl2, e3, fun hc => (e4 hc).trans (e2 hc)⟩
        tab := z2
        fly := z3
        tup := z4
        up := fun b o hb e => by
          obtain ⟨sl, e1, _⟩ := kk b o (notP b hb) e
          obtain ⟨sl2, e2⟩ := z5 b _ (mem' b hb) e1
          exact ⟨sl2, e2⟩ }
    rcases th with ⟨t, ob, y1, y2, y3, y4, y5, y6⟩ | ⟨outer3, a0, B, g1, F⟩
    · have hin : ∀ e' ∈ (en :: e₀ :: outer), ∀ b, e'.frame = some b → b ∈ frs (en :: e₀ :: outer) := fun e' he b hb => List.mem_filterMap.mpr ⟨e', he, hb⟩
      have hfl := ff.fun (as := frs (en :: e₀ :: outer)) fun _ q => q
      have fresh : (hideAll h2 (frs (en :: e₀ :: outer))).get? a = none := by
        cases q : (hideAll h2 (frs (en :: e₀ :: outer))).get? a with
        | none => rfl
        | some o => rw [of_hideAll _ q] at y2; cases y2
      refine wpAny_leaving_firstW (a0 := t) (base := hideAll h2 (frs (en :: e₀ :: outer))) hfr3 (hfl.of_keeps fun b o hb _ => ⟨o, y1 b o hb, rfl⟩) efr y3 (fun b o hb => y1 b o (of_hideAll _ hb)) fresh y5 rfl rfl fun h'' hL => ?_
      obtain ⟨w1, ⟨_, _, w2⟩, w3, w4⟩ := hL
      rw [y4] at w3
      refine ⟨a, t, _, h'', tk', rfl, by rw [← hs], fin (fun b o hb e => ⟨o.slots, hideAll_get _ e fun q => hb (List.mem_append_left _ q), fun _ => rfl⟩) (t2.hide hr ff) ⟨w1, fresh, w2, w3⟩ (fun q => ?_) fun b o hb e => ?_⟩
      · obtain ⟨b, z1, z2⟩ := y6 q
        exact ⟨b, z1, z2.of_slots w4⟩
      · obtain ⟨_, m, o', es, ep, e1, e2, _⟩ := ff.ns hb
        rw [e] at e1; cases e1
        exact w4 b o (y1 b o e) fun vs q => by rw [e2] at q; cases q
    · rw [hfr3] at g1
      cases g1
      refine wpAny_leaves_onW hfr3 efr F.fly fun h'' w1 w2 => ?_
      refine ⟨a, a0, B, h'', tk', rfl, by rw [← hs], fin F.keep F.tab w1 (fun q => ?_) fun b o hb e => ?_⟩
      · obtain ⟨b, z1, z2⟩ := F.tup q
        exact ⟨b, z1, z2.of_slots w2⟩
      · obtain ⟨_, m, o', es, ep, e1, e2, _⟩ := ff.ns hb
        rw [e] at e1; cases e1
        obtain ⟨sl, e3⟩ := F.up b o hb e
        obtain ⟨sl2, e4⟩ := w2 b _ e3 fun vs q => by rw [show o.data = _ from e2] at q; cases q
        exact ⟨sl2, e4⟩
end

end
end Mine
namespace Mine
section
open PySem.Calls
section
variable {Γ : Fx} {C : Cx} {h₀ h h' h1 h2 : Heap} {A : Around} {sc : Scope} {e₀ env e : Env} {ρ : PEnv} {X X₀ : List Addr} {st : Bool} {S : SS} {l outer : List Env} {x : Addr} {a0 : Value} {bare : Bool} {B : Heap} {t : PEnv → Bool} {k : PEnv → Prop}
theorem glob_at {x : Str} {p : Pos} {v : Value} {s : Shared} {tk : Nat} {Q : Value → Shared → Prop} {E : Value → Shared → Prop} (en : EnvOk C sc e h) (g : sc.names.lookup x = some .globalImplicit) (hv : C.mg x = some v ∨ (C.mg x = none ∧ C.mb x = some v)) (ok : okName x = true) (hg : h'.Ns mainGlobals C.mg) (hb : h'.Ns builtinsNs C.mb) (q : Q v (Sh s h' tk)) :
    wpAny C.M A (eval (.Name x p) e) Q E (Sh s h' tk) := by
  refine Name_function_global en.kind (en.kglob x g) ?_ (okName_ok ok).1
  rcases hv with z | ⟨z1, z2⟩
  · exact loadGlobal_global (by rw [en.glob]; exact hg) z q
  · exact loadGlobal_builtin (by rw [en.glob]; exact hg) z1 (by rw [en.bltn]; exact hb) z2 q

/-- a name of no concern set, or dropped -/
theorem ST.offNm (S : ST Γ A e h₀ sc X₀ X ρ h) {x : Str} (hx : varOf Γ.nm x = none) {m m' : Str → Option Value} (n : h.Ns e.locals m) (n' : h'.Ns e.locals m') (hs : Heap.SameBut e.locals h h') (hm : ∀ y, y ≠ x → m' y = m y) :
    ST Γ A e h₀ sc X₀ X ρ h' ∧ Chg Γ.C e X₀ X h h' ∧ (∀ a, (∃ o, h.get? a = some o) → ∃ o, h'.get? a = some o) ∧ Kp X h h' := by
  obtain ⟨ol, es, ep, hl1, hl2, _⟩ := id n
  have ob : ∀ b o, b ≠ e.locals → h.get? b = some o → h'.get? b = some o := fun b o hb eb => hs.extBut b o hb eb
  have nd : ∀ {b : Addr} {o : Obj}, h.get? b = some o → NoD o → b ≠ e.locals := fun e1 e2 q => by rw [q, hl1] at e1; cases e1; exact e2 _ _ hl2
  have tab : TabsOk Γ.C h' := S.xc.act.tab.but ob hl1 (fun vs q => by rw [hl2] at q; cases q) (S.xc.act.h0 ▸ S.xc.act.loc0)
  have kp : ∀ Y, Kp Y h h' := fun Y b o _ sq e1 => ob b o (nd e1 sq.noD) e1
  have cell : ∀ {cc : Addr} {w : Option Value}, h.IsCell cc w → h'.IsCell cc w := fun ⟨o, e1, e2⟩ => ⟨o, ob _ _ (nd e1 fun _ _ q => by rw [e2] at q; cases q) e1, e2⟩
  have slot : ∀ {y : Str} {u : Value}, y ≠ x → Slot e y h u → Slot e y h' u := fun hy q => by
    rcases q with ⟨kk, m1, n1, em⟩ | ⟨kk, cc, l, ic⟩
    · cases Ns.fun n n1; exact .inl ⟨kk, _, n', (hm _ hy).trans em⟩
    · exact .inr ⟨kk, cc, l, cell ic⟩
  have back : ∀ {y : Str} {u : Value}, y ≠ x → Slot e y h' u → Slot e y h u := fun hy q => by
    rcases q with ⟨kk, m1, n1, em⟩ | ⟨kk, cc, l, ic⟩
    · cases Ns.fun n' n1; exact .inl ⟨kk, _, n, (hm _ hy).symm.trans em⟩
    · obtain ⟨w, ic'⟩ := S.xc.en.cell _ cc l
      cases Cell.fun ic (cell ic')
      exact .inr ⟨kk, cc, l, ic'⟩
  have ne : ∀ {y : Str} {i : Nat}, varOf Γ.nm y = some i → y ≠ x := fun h1 q => by rw [q, hx] at h1; cases h1
  have al : ∀ a, (∃ o, h.get? a = some o) → ∃ o, h'.get? a = some o := fun a ⟨o, eo⟩ => by
    by_cases q : a = e.locals
    · obtain ⟨o', _, _, e', _⟩ := n'; exact ⟨o', q ▸ e'⟩
    · exact ⟨o, ob a o q eo⟩
  refine ⟨{ xc := { act := ?_, dep := S.xc.dep, unt := S.xc.unt, en := { S.xc.en with loc := ⟨m', n'⟩, cell := fun y cc l => let ⟨w, ic⟩ := S.xc.en.cell y cc l; ⟨w, cell ic⟩ }, vars := fun i y kd h1 h2 h3 h4 => ?_, alloc := fun a q => al a (S.xc.alloc a q), own0 := S.xc.own0 }, own1 := fun y i xs v h1 h2 h3 => S.own1 y i xs v h1 h2 (back (ne h1) h3), own2 := fun y z i j xs ys a h1 h2 h3 h4 h5 h6 => S.own2 y z i j xs ys a h1 h2 h3 h4 (back (ne h1) h5) (back (ne h2) h6), sub := S.sub, own3 := S.own3.move (fun _ _ q => q) (fun _ _ _ _ q1 _ q => back (ne q1) q) (fun _ _ ys _ q1 q q' => .inl ⟨ys, q, back (ne q1) q'⟩) fun _ _ q1 q2 _ q4 _ => ⟨q1, q2, plain_kp (kp []) q4⟩ }, fun b o hp hl _ _ eb => ⟨o.slots, ob b o hl eb, fun _ => rfl⟩, al, kp X⟩
  · refine S.xc.act.re ⟨m', n'⟩ tab fun L m1 n1 => ?_
    by_cases q : L = e.locals
    · exact q ▸ ⟨m', n'⟩
    · obtain ⟨o, es', ep', e1, r⟩ := n1
      exact ⟨m1, o, es', ep', ob _ _ q e1, r⟩
  · obtain ⟨v, sl, r⟩ := S.xc.vars i y kd h1 h2 h3 h4
    exact ⟨v, slot (ne h1) sl, HoldsB.kp kp r⟩
/-- what a call in the frame e leaves that gives an error -/
noncomputable abbrev FlyPost (C : Cx) (A : Around) (e : Env) (h : Heap) (bare : Bool) (s : Shared) : Value → Shared → Prop := fun x s' => ∃ a a0 B h' tk' outer, x = .ref a ∧ s' = Sh s h' tk' ∧ A.frames = some (e :: outer) ∧ Fly C (e :: outer) h a a0 bare B h'
theorem r_call {p pos : Pos} {es : List PySem.Expr} {vs : PEnv → List PV} {va : PEnv → PV} {ka kb : PEnv → Prop} {na : Bool} {fn : Str} (ha : Good Γ sc (.Name fn p) na va ka) (hl : GoodL Γ sc es vs kb) (k1 : ka ρ) (k2 : isF (va ρ)) (k3 : kb ρ) (R : RaisesAt Γ.C Γ.D Γ.U (fnA (va ρ)) (vs ρ) bare) (c : XC Γ A e h₀ sc e ρ X h)
    {Q : Value → Shared → Prop} (s : Shared) (tk : Nat) : wpAny Γ.C.M A (eval (.Call (.Name fn p) es [] pos) e) Q (FlyPost Γ.C A e h bare s) (Sh s h tk) :=
  wpAny_Call_NameR ((ha ρ A e h₀ e X h k1 c).go fun v h1 tk1 e1 t1 r1 => by
    have r1 := r1.1
    rw [k2.eq] at r1
    cases r1
    refine callWith_of (P := Γ.C.K.In) (by rw [hl.plain pos]; rfl) (keeps_K R.1) ((hl.args _ pos ρ A e h₀ e X h1 k3 (c.step e1 t1)).go fun a h2 tk2 e2 t2 r2 => ?_)
    have c2 := (c.step e1 t1).step e2 t2
    refine ⟨c2.act.kin.keeps c2.act.keep0, ?_⟩
    rw [r2.1]
    obtain ⟨outer, hfr, _⟩ := c2.act.bel
    refine wpAny_mono (R.2 A e h₀ h2 a.pos X outer c2.act hfr c2.dep c2.unt c2.alloc r2.2 s tk2) (fun _ _ f => f.elim) fun x s' ⟨a, a0, B, h', tk', ex, es', F⟩ => ?_
    exact ⟨a, a0, B, h', tk', outer, ex, es', hfr, F.pre (e1.trans e2) (c.act.frP hfr)⟩)
/-- a statement that gives an error -/
noncomputable def GoodR (Γ : Fx) (sc : Scope) (a : Stmt) (bare : Bool) (K : PEnv → Prop) : Prop := ∀ ρ A e h₀ X₀ X h, K ρ → ST Γ A e h₀ sc X₀ X ρ h → ∀ (s : Shared) (tk : Nat), wpAny Γ.C.M A (exec a e) (fun _ _ => False) (FlyPost Γ.C A e h bare s) (Sh s h tk)
/-- a call that is to give an error -/
noncomputable def rK (C : Cx) (D U : Nat) (va : PEnv → PV) (ka : PEnv → Prop) (vs : PEnv → List PV) (kb : PEnv → Prop) (bare : Bool) : PEnv → Prop := fun ρ => ka ρ ∧ isF (va ρ) ∧ kb ρ ∧ RaisesAt C D U (fnA (va ρ)) (vs ρ) bare
theorem r_tuple {p cp tp pos : Pos} {j : Nat} {ts es : List PySem.Expr} {vs : PEnv → List PV} {va : PEnv → PV} {ka kb : PEnv → Prop} {na : Bool} {fn : Str} (ha : Good Γ sc (.Name fn p) na va ka) (hl : GoodL Γ sc es vs kb) :
    GoodR Γ sc (.Assign [.Tuple ts j tp] (.Call (.Name fn p) es [] cp) pos) bare (rK Γ.C Γ.D Γ.U va ka vs kb bare) := fun ρ A e h₀ X₀ X h k S s tk =>
  Assign_Tuple (r_call ha hl k.1 k.2.1 k.2.2.1 k.2.2.2 S.xc s tk) swapsSole rfl
theorem r_expr {p cp pos : Pos} {es : List PySem.Expr} {vs : PEnv → List PV} {va : PEnv → PV} {ka kb : PEnv → Prop} {na : Bool} {fn : Str} (ha : Good Γ sc (.Name fn p) na va ka) (hl : GoodL Γ sc es vs kb) :
    GoodR Γ sc (.Expr (.Call (.Name fn p) es [] cp) pos) bare (rK Γ.C Γ.D Γ.U va ka vs kb bare) := fun ρ A e h₀ X₀ X h k S s tk =>
  wpAny_Expr_any (r_call ha hl k.1 k.2.1 k.2.2.1 k.2.2.2 S.xc s tk) (notInter S.xc)
noncomputable abbrev Behind (C : Cx) (A : Around) (e : Env) (x : Addr) (hs : List ExceptHandler) (Q : Flow → Shared → Prop) (s : Shared) : Prop :=
  wpAny C.M A (noteFrame (.ref x) e) (fun _ s₂ => wpAny C.M A (setFlight (.ref x) none) (fun _ s₃ => wpAny C.M A (handleBy (.ref x) e hs) Q never s₃) never s₂) never s
/-- caught -/
theorem caught1 {zn : Str} {np hp : Pos} {b0 : Stmt} {suite : List Stmt} (S : ST Γ A e h₀ sc X₀ X ρ h) (hfr : A.frames = some (e :: outer)) (F : Fly Γ.C (e :: outer) h x a0 bare B h') (hz : IsGlob Γ sc zn (.type "ZeroDivisionError")) {Q : Flow → Shared → Prop} (s : Shared) (tk : Nat)
    (k : ∀ h6, Ext Γ.C.Ps h h6 → TabsOk Γ.C h6 → ST Γ A e h₀ sc X₀ X ρ h6 → wpAny Γ.C.M (A.mark (some (.ref x))) (execs (b0 :: suite) e) Q never (Sh s h6 tk)) :
    Behind Γ.C A e x [.ExceptHandler (some (.Name zn np)) none (b0 :: suite) hp] Q (Sh s h' tk) := by
  have c := S.xc
  obtain ⟨outer', hfr', ff⟩ := c.act.bel
  rw [hfr] at hfr'
  have ho2 : outer = outer' := (List.cons.inj (Option.some.inj hfr')).2
  subst ho2
  refine wpAny_looks_onW hfr c.act.frame F.fly fun h4 hheld up4 => wpAny_landsW hheld fun h5 fly5 up5 => ?_
  have F5 := F.re ff fly5 (up4.trans up5)
  obtain ⟨ob, hob, hobc⟩ := fly5.there
  have g5 : ∀ {a : Addr} {m : Str → Option Value}, h₀.Ns a m → h5.Ns a m := fun n => n.keeps fun b o eb => F5.tabs.base b o (c.act.h0 ▸ eb)
  refine wpAny_handleBy_builtin (X := "ZeroDivisionError") (T := "ZeroDivisionError") (b := true) PySem.F.isExc_ZeroDivisionError PySem.F.notTuple_ZeroDivisionError PySem.F.self_ZeroDivisionError
    (glob_at c.en hz.k (Γ.hG _ _ hz.v) hz.ok (g5 c.act.top.g) (g5 c.act.top.b) ⟨rfl, ⟨ob, hob, hobc⟩, ?_⟩)
  refine lands_againW fly5 fun h6 fly6 up6 => ?_
  have F6 := F5.re ff fly6 up6
  exact wpAny_mono (k h6 (F6.ext ff) F6.tabs (S.step (F6.ext ff) F6.tabs)) (fun _ _ q => q) fun _ _ f => f.elim
theorem caught2 {zn en : Str} {np hp : Pos} {b0 : Stmt} {suite : List Stmt} (S : ST Γ A e h₀ sc X₀ X ρ h) (hfr : A.frames = some (e :: outer)) (F : Fly Γ.C (e :: outer) h x a0 true B h') (hz : IsGlob Γ sc zn (.type "ZeroDivisionError")) (hen : sc.names.lookup en = some .local) {Q : Flow → Shared → Prop} (s : Shared) (tk : Nat)
    (k : ∀ h7 tk7 m t, (∃ h6 m6, Ext Γ.C.Ps h h6 ∧ TabsOk Γ.C h6 ∧ h6.Ns e.locals m6 ∧ Heap.SameBut e.locals h6 h7 ∧ (∀ y, y ≠ en → m y = m6 y)) → h7.Ns e.locals m → m en = some (.ref x) → h7.ExcAt x "ZeroDivisionError" (.ref t) → h7.TupAt t [] →
      wpAny Γ.C.M (A.mark (some (.ref x))) (execs (b0 :: suite) e) (fun f s₄ => wpAny Γ.C.M A (do bindName e en .none; unbindBehindTheSuite e en hp) (fun _ s₅ => Q f s₅) never s₄) never (Sh s h7 tk7)) :
    Behind Γ.C A e x [.ExceptHandler (some (.Name zn np)) (some en) (b0 :: suite) hp] Q (Sh s h' tk) := by
  have c := S.xc
  obtain ⟨outer', hfr', ff⟩ := c.act.bel
  rw [hfr] at hfr'
  have ho2 : outer = outer' := (List.cons.inj (Option.some.inj hfr')).2
  subst ho2
  refine wpAny_looks_onW hfr c.act.frame F.fly fun h4 hheld up4 => wpAny_landsW hheld fun h5 fly5 up5 => ?_
  have F5 := F.re ff fly5 (up4.trans up5)
  obtain ⟨ob, hob, hobc⟩ := fly5.there
  have g5 : ∀ {a : Addr} {m : Str → Option Value}, h₀.Ns a m → h5.Ns a m := fun n => n.keeps fun b o eb => F5.tabs.base b o (c.act.h0 ▸ eb)
  refine wpAny_handleBy_builtin_as (X := "ZeroDivisionError") (T := "ZeroDivisionError") (b := true) PySem.F.isExc_ZeroDivisionError PySem.F.notTuple_ZeroDivisionError PySem.F.self_ZeroDivisionError
    (glob_at c.en hz.k (Γ.hG _ _ hz.v) hz.ok (g5 c.act.top.g) (g5 c.act.top.b) ⟨rfl, ⟨ob, hob, hobc⟩, ?_⟩)
  refine lands_againW fly5 fun h6 fly6 up6 => ?_
  have F6 := F5.re ff fly6 up6
  obtain ⟨m6, n6⟩ := (c.en.ext c.act.tab (F6.ext ff)).loc
  refine wpAny_storeName_local (c.en.kloc en hen) n6 (fun h7 n7 s7 => ?_) (by rw [c.en.kind]; rfl)
  have nd : ∀ {b : Addr} {o : Obj}, h6.get? b = some o → NoD o → b ≠ e.locals := fun e1 e2 q => by
    obtain ⟨o', es, ep, z1, z2, _⟩ := n6
    rw [q, z1] at e1; cases e1; exact e2 _ _ z2
  obtain ⟨t, ea, htu⟩ := F6.tup rfl
  refine wpAny_mono (k h7 _ _ t ⟨h6, m6, F6.ext ff, F6.tabs, n6, s7, fun y hy => if_neg hy⟩ n7 (if_pos rfl) ?_ ?_) (fun _ s' q => wpAny_mono q (fun _ _ q => q) fun _ _ f => f.elim) fun _ _ f => f.elim
  · obtain ⟨oe, ws, hoe, hoec, hoed, hoe0⟩ := fly6.first
    exact ⟨oe, ws, s7.extBut _ _ (nd hoe fun _ _ q => by rw [hoed] at q; cases q) hoe, hoec, hoed, ea ▸ hoe0⟩
  · obtain ⟨ot, nt, hot, hotc, hotd⟩ := htu
    exact ⟨ot, nt, s7.extBut _ _ (nd hot fun _ _ q => by rw [hotd] at q; cases q) hot, hotc, hotd⟩
end

end
end Mine
namespace Mine
section
open PySem.Calls
section
variable {Γ : Fx} {C : Cx} {h₀ h h' h1 h2 : Heap} {A : Around} {sc : Scope} {e₀ env e : Env} {ρ : PEnv} {X X₀ : List Addr} {st : Bool} {S : SS} {bare : Bool} {K : PEnv → Prop}
/-- a statement, or its error caught: return abs(x) -/
noncomputable def sTry1 (S : SS) (K : PEnv → Prop) (ix : Nat) : SS := fun ρ Q => (K ρ ∧ isV (get ρ ix) ∧ isI (valB (get ρ ix)) ∧ Q (.ret (.int (ab (asI (valB (get ρ ix)))))) ρ) ∨ S ρ (fun fl ρ' => fl = .next ∧ Q .next ρ')
theorem m_try1 {a : Stmt} {zn xn an : Str} {np hp rp cp p4 p5 pos : Pos} {ix : Nat} (ga : GoodStm Γ sc true a S) (gr : GoodR Γ sc a bare K) (hz : IsGlob Γ sc zn (.type "ZeroDivisionError")) (hab : IsGlob Γ sc an (.builtin "abs")) (hx : IsVar Γ sc xn ix) :
    GoodStm Γ sc true (.Try [a] [.ExceptHandler (some (.Name zn np)) none [.Return (some (.Call (.Name an p4) [.Name xn p5] [] cp)) rp] hp] [] [] pos) (sTry1 S K ix) := fun ρ Q A e h₀ X₀ X h hq T s tk => by
  refine wpAny_Try_except ?_
  rcases hq with ⟨hk, hv, hi, hq⟩ | hq
  · refine wpAny_execs_cons (wpAny_mono (gr ρ A e h₀ X₀ X h hk T s tk) (fun _ _ f => f.elim) fun x s' ⟨a, a0, B, h', tk', outer, ex, es, hfr, F⟩ => ?_)
    subst ex es
    refine caught1 T hfr F hz s tk' fun h6 k6 t6 S6 => ?_
    have c := S6.xc
    have g6 : ∀ {a : Addr} {m : Str → Option Value}, h₀.Ns a m → h6.Ns a m := fun n => n.keeps c.act.keep0
    obtain ⟨kd, hkd, hvs⟩ := hx.k
    obtain ⟨u, sl, r⟩ := c.vars ix xn kd hx.i hkd hvs hv.def
    rw [hv.eq, hi.eq] at r
    obtain ⟨t, rfl⟩ := r
    refine wpAny_execs_cons (wpAny_Return_some (wpAny_Call_NameR (glob_at c.en hab.k (Γ.hG _ _ hab.v) hab.ok (g6 c.act.top.g) (g6 c.act.top.b) ?_)))
    refine bi_callWith (f := .builtin "abs") trivial rfl (Calls.evalArgs_plain (Calls.spliced_cons (sl.name c.en.kind (Calls.spliced_nil ?_) (okName_ok hx.ok).1 (okName_ok hx.ok).2)))
    refine wpAny_mono b_abs (fun v s' g => ?_) fun _ _ f => f.elim
    obtain ⟨h7, tk7, rfl, k7, u7, rfl⟩ := g
    have k07 : Ext Γ.C.Ps h h7 := k6.trans (.of_keep k7)
    have t7 := t6.keeps k7
    exact ⟨h7, tk7, rfl, _, ρ, hq, .of_ext k07, al_ext k07 t7, X, fun _ => rfl, fun _ => .inl, _, rfl, ⟨u7, rfl⟩, T.xc.act.step k07 t7⟩
  · refine wpAny_execs_cons ((ga ρ _ A e h₀ X₀ X h hq T).go fun f h1 tk1 ⟨fl, ρ1, ⟨e1, q⟩, P⟩ => ?_)
    subst e1
    obtain ⟨X', x1, x2, e2, T1⟩ := P.ends
    subst e2
    exact wpAny_execs_nil (wpAny_execs_nil ⟨h1, tk1, rfl, .next, ρ1, q, P⟩)
/-- an error caught: words = words + [str(it)] -/
noncomputable def sTry2 (K : PEnv → Prop) (iw : Nat) : SS := fun ρ Q => K ρ ∧ isV (get ρ iw) ∧ isL (valB (get ρ iw)) ∧ (asL (valB (get ρ iw))).length ≤ 1000 ∧ Q .next (put ρ iw (.val (.lst (asL (valB (get ρ iw)) ++ [.str Str.empty]))))
theorem m_try2 {a : Stmt} {zn en wn sn : Str} {np hp p1 p2 p3 p4 p5 p6 p7 p8 pos : Pos} {iw : Nat} (gr : GoodR Γ sc a true K) (hz : IsGlob Γ sc zn (.type "ZeroDivisionError")) (hs : IsGlob Γ sc sn (.type "str")) (hen : sc.names.lookup en = some .local) (oen : okName en = true) (ven : varOf Γ.nm en = none) (hw : IsTgt Γ sc wn iw) :
    GoodStm Γ sc true (.Try [a] [.ExceptHandler (some (.Name zn np)) (some en) [.Assign [.Name wn p1] (.BinOp (.Name wn p2) .Add (.List [.Call (.Name sn p3) [.Name en p4] [] p5] p6) p7) p8] hp] [] [] pos) (sTry2 K iw) := fun ρ Q A e h₀ X₀ X h hq T s tk => by
  refine wpAny_Try_except ?_
  obtain ⟨hk, hv, hl, hn, hq⟩ := hq
  refine wpAny_execs_cons (wpAny_mono (gr ρ A e h₀ X₀ X h hk T s tk) (fun _ _ f => f.elim) fun x s' ⟨xa, a0, B, h', tk', outer, ex, es, hfr, F⟩ => ?_)
  subst ex es
  refine caught2 T hfr F hz hen s tk' fun h7 tk7 m t ⟨h6, m6, k6, t6, n6, s7, hm⟩ n7 hmx hex htu => ?_
  have S6 := T.step k6 t6
  obtain ⟨S7, ch7, al7, _⟩ := S6.offNm ven n6 n7 s7 hm
  have c := S7.xc
  have hkl := c.en.kloc en hen
  have hkp : (e.scope.kind == .class || (e.scope.kind == .module && e.locals != e.globals)) = false := by rw [c.en.kind]; rfl
  have g7 : ∀ {a : Addr} {m : Str → Option Value}, h₀.Ns a m → h7.Ns a m := fun n => n.keeps c.act.keep0
  obtain ⟨kd, hkd, hvs⟩ := hw.var.k
  obtain ⟨u, sl, r⟩ := c.vars iw wn kd hw.i hkd hvs hv.def
  rw [hv.eq, hl.eq] at r
  have hun : A.units + 2 < cLine := by have := un64 c; (first | lia | omega)
  refine wpAny_execs_cons (wpAny_Assign_Name (wpAny_BinOp (sl.name c.en.kind (wpAny_List ?_) (okName_ok hw.ok).1 (okName_ok hw.ok).2)) rfl)
  show wpAny _ _ (spliced (backTo p6 (starEach [.Call (.Name sn p3) [.Name en p4] [] p5] e))) _ _ _
  rw [starEach_cons (e := .Call (.Name sn p3) [.Name en p4] [] p5) nofun]
  refine Calls.spliced_cons (wpAny_Call_NameR (glob_at c.en hs.k (Γ.hG _ _ hs.v) hs.ok (g7 c.act.top.g) (g7 c.act.top.b) (PyProof.Rows.callWith_type rfl (Calls.evalArgs_plain (Calls.spliced_cons (wpAny_Name (wpAny_loadName_local c.en.kind hkl n7 hmx (Calls.spliced_nil ?_)) (okName_ok oen).1))))))
  refine PySem.P.str_of_exc_none PySem.F.excStr_ZeroDivisionError (by show A.units + 2 < _; exact hun) hex htu (Calls.spliced_nil ⟨by show (1 : Nat) ≤ _; decide, ?_⟩)
  have G := got_list (s := Sh s h7 (tk7 + 1)) (X := X) (xs := [.str Str.empty]) (vs := [.str Str.empty tk7]) (tk := tk7 + 1) c.alloc ⟨_, [], rfl, ⟨_, rfl⟩, rfl⟩
  obtain ⟨h8, tk8, e8, k8, r8, _⟩ := G
  have key : ∀ {s1 : Shared}, s1 = Sh s h8 tk8 → wpAny Γ.C.M (A.mark (some (.ref xa))) (binaryOp .Add u (.ref h7.objs.size)) (fun v s₁ => wpAny Γ.C.M (A.mark (some (.ref xa))) (storeName e wn v) (fun _ s₂ => wpAny Γ.C.M (A.mark (some (.ref xa))) (execs [] e) (fun f s₄ => wpAny Γ.C.M A (do bindName e en .none; unbindBehindTheSuite e en hp) (fun _ s₅ => ∃ h' tk', s₅ = Sh s h' tk' ∧ Out Γ A sc e h₀ X₀ X true h Q f h') never s₄) never s₂) never s₁) never s1 := fun e1 => by
    subst e1
    have k8' : Ext Γ.C.Ps h7 h8 := .of_keep k8
    have t8 := c.act.tab.keeps k8
    have S8 := S7.step k8' t8
    refine wpAny_mono (binop_ok (s := Sh s h8 tk8) S8.xc.alloc (r.ext c.act.tab k8') r8 (show binop .Add (.lst (asL (valB (get ρ iw)))) (.lst [.str Str.empty]) = some (.lst (asL (valB (get ρ iw)) ++ [.str Str.empty])) from if_pos (by show _ + 1 ≤ _; (first | lia | omega)))) (fun v s1 g => ?_) fun _ _ f => f.elim
    obtain ⟨h9, tk9, rfl, k9, r9, _⟩ := g
    have k9' : Ext Γ.C.Ps h8 h9 := .of_keep k9
    have t9 := t8.keeps k9
    have S9 := S8.step k9' t9
    refine (put_ok (A' := A.mark (some (.ref xa))) S9.xc hw).go fun _ h10 tk10 p => ?_
    have S10 := S9.putV p hw.i (r9.keep (p.kp t9 X))
    obtain ⟨m10, n10⟩ := S10.xc.en.loc
    refine wpAny_execs_nil (wpAny_nameGoes_keeps hkl n10 hkp fun h11 v11 n11 s11 => ?_)
    obtain ⟨S11, ch11, al11, _⟩ := S10.offNm ven n10 n11 s11 fun y hy => if_neg hy
    have k79 := k8'.trans k9'
    exact ⟨h11, _, rfl, .next, _, hq, (Chg.of_ext k6).trans (fun _ => .inl) (ch7.trans (fun _ => .inl) ((Chg.of_ext k79).trans (fun _ => .inl) (p.chg.trans (fun _ => .inl) ch11))), fun b q => al11 b (p.al b (al_ext k79 t9 b (al7 b (al_ext k6 t6 b q)))), X, fun _ => rfl, fun _ => .inl, rfl, S11⟩
  exact key e8
end

end
end Mine
namespace Mine
section
open PySem.Calls
noncomputable section
noncomputable def dIf (t : MT) (a b : MV) : MV := ⟨fun ρ => if t.v ρ then a.v ρ else b.v ρ, fun ρ => t.k ρ ∧ (t.v ρ = true → a.k ρ) ∧ (t.v ρ = false → b.k ρ)⟩
noncomputable def dAnd (a b : MV) : MV := ⟨fun ρ => if tv (a.v ρ) then b.v ρ else a.v ρ, fun ρ => a.k ρ ∧ tk (a.v ρ) ∧ (tv (a.v ρ) = true → b.k ρ)⟩
noncomputable def dCmp (op : CmpOp) (a b : MV) : MV := ⟨fun ρ => .bool (vcmp op (a.v ρ) (b.v ρ)), fun ρ => a.k ρ ∧ b.k ρ ∧ kcmp op (a.v ρ) (b.v ρ)⟩
noncomputable def dStr (z : Str) : MV := ⟨fun _ => .str z, fun _ => True⟩
noncomputable def dFn (a : Addr) : MV := ⟨fun _ => .fn a, fun _ => True⟩
noncomputable def dLast (b : MB) : MV := ⟨fun ρ => lastV (b.v ρ), fun ρ => b.k ρ ∧ (b.v ρ).1 = false ∧ (b.v ρ).2 ≠ [] ∧ (b.v ρ).2.length ≤ 16777216⟩
noncomputable def dListS (b : MB) : MV := ⟨fun ρ => .lst (b.v ρ).2, fun ρ => b.k ρ ∧ (b.v ρ).2.length ≤ 16777216⟩
noncomputable def dListR3 (a b c : MV) : MV := ⟨fun ρ => .lst (zs (rng (asI (a.v ρ)) (asI (c.v ρ)) (Builtin.Range.rangeSize (asI (a.v ρ)) (asI (b.v ρ)) (asI (c.v ρ))).toNat)),
  fun ρ => a.k ρ ∧ b.k ρ ∧ c.k ρ ∧ isI (a.v ρ) ∧ isI (b.v ρ) ∧ isI (c.v ρ) ∧ asI (c.v ρ) ≠ 0 ∧ (asI (c.v ρ)).natAbs < 1073741824 ∧ Builtin.Range.small (asI (a.v ρ)) (asI (b.v ρ)) (asI (c.v ρ)) = true ∧ 0 ≤ Builtin.Range.rangeSize (asI (a.v ρ)) (asI (b.v ρ)) (asI (c.v ρ)) ∧ (Builtin.Range.rangeSize (asI (a.v ρ)) (asI (b.v ρ)) (asI (c.v ρ))).toNat ≤ 16777216⟩
noncomputable def dListR1 (a : MV) : MV := ⟨fun ρ => .lst (zs (rng 0 1 (Builtin.Range.rangeSize 0 (asI (a.v ρ)) 1).toNat)), fun ρ => a.k ρ ∧ isI (a.v ρ) ∧ krange (asI (a.v ρ)) ∧ (Builtin.Range.rangeSize 0 (asI (a.v ρ)) 1).toNat ≤ 16777216⟩
noncomputable def dListRev (a : MV) : MV := ⟨fun ρ => .lst (asL (a.v ρ)).reverse, fun ρ => a.k ρ ∧ isL (a.v ρ) ∧ (asL (a.v ρ)).length ≤ 16777216⟩
noncomputable def bRow (i : Nat) (a : MV) : MB := ⟨fun ρ => (false, zs (rowAt (get ρ i) (asI (a.v ρ)))), fun ρ => isO2 (get ρ i) ∧ a.k ρ ∧ isI (a.v ρ) ∧ 0 ≤ asI (a.v ρ) ∧ asI (a.v ρ) < (own2L (get ρ i)).length ∧ (own2L (get ρ i)).length ≤ 16777216⟩
noncomputable def dLen2 (i : Nat) : MV := ⟨fun ρ => .int (own2L (get ρ i)).length, fun ρ => isO2 (get ρ i) ∧ (own2L (get ρ i)).length ≤ 16777216⟩
noncomputable def tNot (t : MT) : MT := ⟨fun ρ => !t.v ρ, t.k⟩
noncomputable def tChain (o1 o2 : CmpOp) (a b c : MV) : MT := ⟨fun ρ => vcmp o1 (a.v ρ) (b.v ρ) && vcmp o2 (b.v ρ) (c.v ρ), fun ρ => a.k ρ ∧ b.k ρ ∧ kcmp o1 (a.v ρ) (b.v ρ) ∧ (vcmp o1 (a.v ρ) (b.v ρ) = true → c.k ρ ∧ kcmp o2 (b.v ρ) (c.v ρ))⟩
noncomputable def sRange2 (a b : MV) : ML := ⟨fun ρ => zs (rng (asI (a.v ρ)) 1 (Builtin.Range.rangeSize (asI (a.v ρ)) (asI (b.v ρ)) 1).toNat), fun ρ => a.k ρ ∧ b.k ρ ∧ isI (a.v ρ) ∧ isI (b.v ρ) ∧ krange2 (asI (a.v ρ)) (asI (b.v ρ))⟩
noncomputable def sEnum (a : MV) : ML := ⟨fun ρ => enumL (asL (a.v ρ)), fun ρ => a.k ρ ∧ isL (a.v ρ)⟩
/-- clauses of a comprehension -/
noncomputable def iLast (a : MV) : ML := ⟨fun ρ => [a.v ρ], a.k⟩
noncomputable def iMore (t : Tgt) (ids : List Nat) (s : ML) (c : MT) (f : ML) : ML := ⟨fun ρ => (s.v ρ).flatMap (turnV t ids c.v f.v ρ), fun ρ => s.k ρ ∧ allP (turnK t ids c.v c.k f.k ρ) (s.v ρ)⟩
noncomputable def dCompN (ks : List Nat) (t : Tgt) (ids : List Nat) (s : ML) (c : MT) (f : ML) : MV := ⟨fun ρ => .lst (cV ks t ids c.v s.v f.v ρ), cK ks t ids c.v s.v f.v s.k f.k c.k⟩
noncomputable abbrev xAugI (i : Nat) (op : Operator) (ix a : MV) : SS := sAugI i op ix.v ix.k a.v a.k
noncomputable abbrev xPut2 (i : Nat) (ix jx a : MV) : SS := sPut2 i ix.v ix.k jx.v jx.k a.v a.k
noncomputable abbrev xMk2 (i : Nat) (ks : List Nat) (t : Tgt) (s : ML) (c : MT) (a : MV) : SS := sMk2 i (cV ks t [] c.v s.v (fun ρ => [a.v ρ])) (cK ks t [] c.v s.v (fun ρ => [a.v ρ]) s.k (fun ρ => a.k ρ ∧ isL (a.v ρ)) c.k)
noncomputable abbrev xTry1 (Γ : Fx) (bare : Bool) (is : List Nat) (f : Nat) (l : ML) (ix : Nat) : SS := sTry1 (sMany is (dCallV Γ f l).v (dCallV Γ f l).k) (rK Γ.C Γ.D Γ.U (dVar f).v (dVar f).k l.v l.k bare) ix
noncomputable abbrev xTry2 (Γ : Fx) (f : Addr) (l : ML) (iw : Nat) : SS := sTry2 (rK Γ.C Γ.D Γ.U (fun _ => .fn f) (fun _ => True) l.v l.k true) iw
end
section
variable {Γ : Fx} {ρ : PEnv} {a b c : MV} {l : ML} {x y z : Int} {u w : PV} {us ws : List PV} {i j : Nat} {t r : MT} {B : MB} {S U : SS} {Q : Fl → PEnv → Prop} {q q' : Bool}
theorem k_ift (p : okT t ρ true) (q : ok a ρ u) : ok (dIf t a b) ρ u := ⟨⟨p.1, fun _ => q.1, fun h => by rw [p.2] at h; cases h⟩, by show (if t.v ρ then _ else _) = _; rw [p.2]; exact q.2⟩
theorem k_iff (p : okT t ρ false) (q : ok b ρ u) : ok (dIf t a b) ρ u := ⟨⟨p.1, (fun h => by rw [p.2] at h; cases h), fun _ => q.1⟩, by show (if t.v ρ then _ else _) = _; rw [p.2]; exact q.2⟩
theorem k_cmpV {op : CmpOp} (p : ok a ρ u) (q : ok b ρ w) (h : kcmp op u w) : ok (dCmp op a b) ρ (.bool (vcmp op u w)) := ⟨⟨p.1, q.1, by rw [p.2, q.2]; exact h⟩, by show PV.bool (vcmp op _ _) = _; rw [p.2, q.2]⟩
theorem k_and (p : ok a ρ (.bool true)) (r : ok b ρ u) : ok (dAnd a b) ρ u := ⟨⟨p.1, by rw [p.2]; rfl, fun _ => r.1⟩, by show (if tv (a.v ρ) then _ else _) = _; rw [p.2]; exact r.2⟩
theorem k_str {s : Str} : ok (dStr s) ρ (.str s) := ⟨trivial, rfl⟩
theorem k_fn {f : Addr} : ok (dFn f) ρ (.fn f) := ⟨trivial, rfl⟩
theorem k_last (p : okB B ρ us) (h : us.getLast? = some u) (hl : us.length ≤ 16777216) : ok (dLast B) ρ u := by
  have hne : us ≠ [] := fun e => by rw [e] at h; cases h
  exact ⟨⟨p.1, by rw [p.2]; exact ⟨rfl, hne, hl⟩⟩, by show lastV _ = _; rw [p.2]; unfold lastV; rw [h]; rfl⟩
theorem k_listS (p : okB B ρ us) (hl : us.length ≤ 16777216) : ok (dListS B) ρ (.lst us) := ⟨⟨p.1, by rw [p.2]; exact hl⟩, by show PV.lst (B.v ρ).2 = _; rw [p.2]⟩
theorem k_listR3 (p : okI a ρ x) (q : okI b ρ y) (r : okI c ρ z) (h0 : z ≠ 0) (h1 : z.natAbs < 1073741824) (h2 : Builtin.Range.small x y z = true) (h3 : 0 ≤ Builtin.Range.rangeSize x y z) (h4 : (Builtin.Range.rangeSize x y z).toNat ≤ 16777216) : ok (dListR3 a b c) ρ (.lst (zs (rng x z (Builtin.Range.rangeSize x y z).toNat))) :=
  ⟨⟨p.1, q.1, r.1, by rw [p.2, q.2, r.2]; exact ⟨trivial, trivial, trivial, h0, h1, h2, h3, h4⟩⟩, by show PV.lst (zs (rng (asI _) (asI _) (Builtin.Range.rangeSize (asI _) (asI _) (asI _)).toNat)) = _; rw [p.2, q.2, r.2]; rfl⟩
theorem k_listR1 (p : okI a ρ x) (h : krange x) (h4 : (Builtin.Range.rangeSize 0 x 1).toNat ≤ 16777216) : ok (dListR1 a) ρ (.lst (zs (rng 0 1 (Builtin.Range.rangeSize 0 x 1).toNat))) :=
  ⟨⟨p.1, by rw [p.2]; exact ⟨trivial, h, h4⟩⟩, by show PV.lst (zs (rng 0 1 (Builtin.Range.rangeSize 0 (asI _) 1).toNat)) = _; rw [p.2]; rfl⟩
theorem k_listRev (p : ok a ρ (.lst us)) (hl : us.length ≤ 16777216) : ok (dListRev a) ρ (.lst us.reverse) := ⟨⟨p.1, by rw [p.2]; exact ⟨trivial, hl⟩⟩, by show PV.lst (asL _).reverse = _; rw [p.2]; rfl⟩
theorem k_row {xss : List (List Int)} {xs : List Int} {n : Nat} (h : get ρ i = .own2 xss) (p : okI a ρ n) (hx : xss[n]? = some xs) (hl : xss.length ≤ 16777216) : okB (bRow i a) ρ (zs xs) := by
  have hn : n < xss.length := (List.getElem?_eq_some_iff.mp hx).1
  refine ⟨⟨by rw [h]; trivial, p.1, by rw [p.2]; trivial, by rw [p.2]; exact Int.natCast_nonneg n, by rw [p.2, h]; exact Int.ofNat_lt.mpr hn, by rw [h]; exact hl⟩, ?_⟩
  show (false, zs (rowAt (get ρ i) (asI (a.v ρ)))) = _
  rw [h, p.2]
  show (false, zs (xss.getD (n : Int).toNat [])) = _
  rw [Int.toNat_natCast, List.getD_eq_getElem?_getD, hx]; rfl
theorem k_len2 {xss : List (List Int)} (h : get ρ i = .own2 xss) (hl : xss.length ≤ 16777216) : okI (dLen2 i) ρ xss.length := ⟨⟨by rw [h]; trivial, by rw [h]; exact hl⟩, by show PV.int (own2L _).length = _; rw [h]; rfl⟩
theorem k_not (p : okT t ρ q) : okT (tNot t) ρ (!q) := ⟨p.1, by show (!t.v ρ) = _; rw [p.2]⟩
/-- a chain of ints -/
theorem k_chI {o1 o2 : CmpOp} {q1 q2 : Bool} (p : okI a ρ x) (q : okI b ρ y) (r : okI c ρ z) (h1 : cmpop o1 (.int x) (.int y) = some q1) (h2 : cmpop o2 (.int y) (.int z) = some q2) : okT (tChain o1 o2 a b c) ρ (q1 && q2) := by
  have e1 : vcmp o1 (.int x) (.int y) = q1 := by cases o1 <;> first | exact Option.some.inj h1 | cases h1
  have e2 : vcmp o2 (.int y) (.int z) = q2 := by cases o2 <;> first | exact Option.some.inj h2 | cases h2
  refine ⟨⟨p.1, q.1, by rw [p.2, q.2]; show cmpop _ _ _ = some _; rw [e1]; exact h1, fun _ => ⟨r.1, by rw [q.2, r.2]; show cmpop _ _ _ = some _; rw [e2]; exact h2⟩⟩, ?_⟩
  show (vcmp o1 _ _ && vcmp o2 _ _) = _
  rw [p.2, q.2, r.2, e1, e2]
theorem k_tand (p : okT t ρ true) (h : okT r ρ q) : okT (tAnd t r) ρ q := ⟨⟨p.1, fun _ => h.1⟩, by show (t.v ρ && r.v ρ) = _; rw [p.2, h.2]; rfl⟩
theorem k_yes : okT tYes ρ true := ⟨trivial, rfl⟩
theorem k_ort (p : okT t ρ true) : okT (tOr t r) ρ true := ⟨⟨p.1, fun h => by rw [p.2] at h; cases h⟩, by show (t.v ρ || r.v ρ) = _; rw [p.2]; rfl⟩
theorem k_range2 (p : okI a ρ x) (q : okI b ρ y) (h : krange2 x y) : okL (sRange2 a b) ρ (zs (rng x 1 (Builtin.Range.rangeSize x y 1).toNat)) := ⟨⟨p.1, q.1, by rw [p.2]; trivial, by rw [q.2]; trivial, by rw [p.2, q.2]; exact h⟩, by show zs (rng (asI _) 1 (Builtin.Range.rangeSize (asI _) (asI _) 1).toNat) = _; rw [p.2, q.2]; rfl⟩
theorem k_enum (p : ok a ρ (.lst us)) : okL (sEnum a) ρ (enumL us) := ⟨⟨p.1, by rw [p.2]; trivial⟩, by show enumL (asL _) = _; rw [p.2]; rfl⟩
-- comprehensions
variable {g : Tgt} {ids ks : List Nat} {cc : MT} {f : ML}
/-- one turn -/
noncomputable def tu (g : Tgt) (ids : List Nat) (cc : MT) (f : ML) (ρ : PEnv) (x : PV) (ys : List PV) : Prop := turnK g ids cc.v cc.k f.k ρ x ∧ turnV g ids cc.v f.v ρ x = ys
theorem tu_yes {x : PV} {ys : List PV} (hb : kbind g x) (p : okT cc (turnE g ids x ρ) true) (h : okL f (turnE g ids x ρ) ys) : tu g ids cc f ρ x ys := ⟨⟨hb, p.1, fun _ => h.1⟩, by unfold turnV; rw [p.2]; exact h.2⟩
theorem tu_no {x : PV} (hb : kbind g x) (p : okT cc (turnE g ids x ρ) false) : tu g ids cc f ρ x [] := ⟨⟨hb, p.1, fun h => by rw [p.2] at h; cases h⟩, by unfold turnV; rw [p.2]; rfl⟩
theorem tus {φ : PV → List PV} : ∀ {us : List PV}, (∀ x ∈ us, tu g ids cc f ρ x (φ x)) → allP (turnK g ids cc.v cc.k f.k ρ) us ∧ us.flatMap (turnV g ids cc.v f.v ρ) = us.flatMap φ
  | [], _ => ⟨trivial, rfl⟩
  | x :: us, h => by
    obtain ⟨h1, h2⟩ := tus (us := us) fun y hy => h y (.tail _ hy)
    obtain ⟨p1, p2⟩ := h x (.head _)
    exact ⟨⟨p1, h1⟩, by rw [List.flatMap_cons, List.flatMap_cons, p2, h2]⟩
theorem k_iLast (p : ok a ρ u) : okL (iLast a) ρ [u] := ⟨p.1, congrArg (fun v => [v]) p.2⟩
theorem k_iMore {φ : PV → List PV} (p : okL l ρ us) (h : ∀ x ∈ us, tu g ids cc f ρ x (φ x)) : okL (iMore g ids l cc f) ρ (us.flatMap φ) := ⟨⟨p.1, by rw [p.2]; exact (tus h).1⟩, by show (l.v ρ).flatMap _ = _; rw [p.2]; exact (tus h).2⟩
theorem k_compN {φ : PV → List PV} (p : okL l ρ us) (h : ∀ x ∈ us, tu g ids cc f (keepI ks ρ) x (φ x)) (hl : (us.flatMap φ).length ≤ 16777216) : ok (dCompN ks g ids l cc f) ρ (.lst (us.flatMap φ)) := by
  have e : cV ks g ids cc.v l.v f.v ρ = us.flatMap φ := by unfold cV; rw [p.2]; exact (tus h).2
  exact ⟨⟨p.1, by rw [p.2]; exact (tus h).1, by rw [e]; exact hl⟩, congrArg PV.lst e⟩
theorem flat_one {α β : Type} (φ : α → β) : ∀ us : List α, us.flatMap (fun x => [φ x]) = us.map φ
  | [] => rfl
  | x :: us => by rw [List.flatMap_cons, flat_one φ us]; rfl
/-- of one clause, without a test -/
theorem k_map {φ : PV → PV} (p : okL l ρ us) (hb : ∀ x ∈ us, kbind g x) (h : ∀ x ∈ us, ok a (turnE g [] x (keepI ks ρ)) (φ x)) (hl : us.length ≤ 16777216) : ok (dCompN ks g [] l tYes (iLast a)) ρ (.lst (us.map φ)) := by
  have := k_compN (ks := ks) (g := g) (ids := []) (cc := tYes) (f := iLast a) (φ := fun x => [φ x]) p (fun x hx => tu_yes (hb x hx) k_yes (k_iLast (h x hx))) (by rw [flat_one, List.length_map]; exact hl)
  rw [flat_one] at this
  exact this
-- statements
theorem q_augI {op : Operator} {n : Nat} (h : get ρ i = .own us) (p : okI a ρ n) (r : okI b ρ y) (hx : us[n]? = some (.int x)) (hl : us.length ≤ 16777216) (hk : intOp op x y = some (iop op x y)) (hq : U (put ρ i (.own (us.set n (.int (iop op x y))))) Q) : sSeq (xAugI i op a b) U ρ Q := by
  have hn : n < us.length := (List.getElem?_eq_some_iff.mp hx).1
  refine ⟨by rw [h]; trivial, p.1, by rw [p.2]; trivial, by rw [p.2]; exact Int.natCast_nonneg n, by rw [p.2, h]; exact Int.ofNat_lt.mpr hn, by rw [h]; exact hl, r.1, by rw [r.2]; trivial, x, ?_, by rw [r.2]; exact hk, ?_⟩
  · rw [h, p.2]
    show us[(n : Int).toNat]? = _
    rw [Int.toNat_natCast]; exact hx
  · rw [h, p.2, r.2]
    show U (put ρ i (.own (us.set (n : Int).toNat _))) Q
    rw [Int.toNat_natCast]; exact hq
theorem q_retO (h : get ρ i = .own us) (hq : Q (.ret (.lst us)) ρ) : sSeq (sRetO i) U ρ Q := ⟨by rw [h]; trivial, by rw [h]; exact hq⟩
theorem q_ret2 {xss : List (List Int)} (h : get ρ i = .own2 xss) (hq : Q (.ret (.lst (xss.map fun xs => .lst (zs xs)))) ρ) : sSeq (sRet2 i) U ρ Q := ⟨by rw [h]; trivial, by rw [h]; exact hq⟩
theorem q_put2 {xss : List (List Int)} {xs : List Int} {n m : Nat} (h : get ρ i = .own2 xss) (p : okI a ρ n) (r : okI b ρ m) (e : okI c ρ z) (hx : xss[n]? = some xs) (hm : m < xs.length) (hl : xss.length ≤ 16777216) (hl' : xs.length ≤ 16777216) (hq : U (put ρ i (.own2 (xss.set n (xs.set m z)))) Q) : sSeq (xPut2 i a b c) U ρ Q := by
  have hn : n < xss.length := (List.getElem?_eq_some_iff.mp hx).1
  have er : rowAt (get ρ i) (asI (a.v ρ)) = xs := by
    rw [h, p.2]
    show xss.getD (n : Int).toNat [] = _
    rw [Int.toNat_natCast, List.getD_eq_getElem?_getD, hx]; rfl
  refine ⟨by rw [h]; trivial, e.1, by rw [e.2]; trivial, p.1, by rw [p.2]; trivial, by rw [p.2]; exact Int.natCast_nonneg n, by rw [p.2, h]; exact Int.ofNat_lt.mpr hn, by rw [h]; exact hl, r.1, by rw [r.2]; trivial, by rw [r.2]; exact Int.natCast_nonneg m, by rw [er, r.2]; exact Int.ofNat_lt.mpr hm, by rw [er]; exact hl', ?_⟩
  rw [er, h, p.2, r.2, e.2]
  show U (put ρ i (.own2 (xss.set (n : Int).toNat (xs.set (m : Int).toNat z)))) Q
  rw [Int.toNat_natCast, Int.toNat_natCast]; exact hq
theorem q_mk2 {xss : List (List Int)} (p : okL l ρ us) (hb : ∀ x ∈ us, kbind g x) (φ : PV → PV) (h : ∀ x ∈ us, ok a (turnE g [] x (keepI ks ρ)) (φ x) ∧ isL (φ x)) (he : us.map φ = xss.map fun xs => .lst (zs xs)) (hl : us.length ≤ 16777216) (hn : noO2 ρ) (hq : U (put ρ i (.own2 xss)) Q) : sSeq (xMk2 i ks g l tYes a) U ρ Q := by
  have key := k_map (ks := ks) (g := g) p hb (fun x hx => (h x hx).1) hl
  have ev : cV ks g [] tYes.v l.v (iLast a).v ρ = us.map φ := by injection key.2
  refine ⟨xss, ⟨p.1, ?_, ?_⟩, ev.trans he, hn, hq⟩
  · rw [p.2]
    refine allP.of fun x hx => ⟨hb x hx, trivial, fun _ => ⟨(h x hx).1.1, by rw [(h x hx).1.2]; exact (h x hx).2⟩⟩
  · show (cV ks g [] tYes.v l.v (iLast a).v ρ).length ≤ _
    rw [ev, List.length_map]; exact hl
theorem q_try1 {bare : Bool} {is : List Nat} {fi : Nat} {f : Addr} (hf : get ρ fi = .val (.fn f)) (p : okL l ρ us) (hK : Γ.K f us) (hV : Γ.V f us = .tup ws) (hl : is.length = ws.length) (hq : U (puts ρ is ws) Q) : sSeq (xTry1 Γ bare is fi l i) U ρ Q :=
  have c := k_callV hf p hK hV
  .inr ⟨c.1, by rw [c.2]; trivial, by rw [c.2]; exact hl, rfl, by rw [c.2]; exact hq⟩
theorem q_try1z {bare : Bool} {is : List Nat} {fi : Nat} {f : Addr} (hf : get ρ fi = .val (.fn f)) (p : okL l ρ us) (hR : RaisesAt Γ.C Γ.D Γ.U f us bare) (hx : get ρ i = .val (.int x)) (hq : Q (.ret (.int (ab x))) ρ) : sSeq (xTry1 Γ bare is fi l i) U ρ Q := by
  have v := k_var hf
  refine .inl ⟨⟨v.1, by rw [v.2]; trivial, p.1, by rw [v.2, p.2]; exact hR⟩, by rw [hx]; trivial, by rw [hx]; trivial, by rw [hx]; exact hq⟩
theorem q_try2 {f : Addr} (p : okL l ρ us) (hR : RaisesAt Γ.C Γ.D Γ.U f us true) (hx : get ρ i = .val (.lst ws)) (hl : ws.length ≤ 1000) (hq : U (put ρ i (.val (.lst (ws ++ [.str Str.empty])))) Q) : sSeq (xTry2 Γ f l i) U ρ Q := by
  refine ⟨⟨trivial, trivial, p.1, by rw [p.2]; exact hR⟩, by rw [hx]; trivial, by rw [hx]; trivial, by rw [hx]; exact hl, by rw [hx]; exact hq⟩
end
-- from the text, with errors caught
noncomputable section
variable (Γ : Fx) (g : Str → GKind) (own : List Nat) (sc : Scope) (bare : Bool) (hg : ∀ x v, gVal (g x) = some v → Γ.G x = some v)
noncomputable def compTry1 (xn zn an : Str) (ts es : List PySem.Expr) (fn : Str) (j : Nat) (np hp rp cp p4 p5 pos tp q1 q2 q3 : Pos) : Option (SDen Γ sc (.Try [.Assign [.Tuple ts j tp] (.Call (.Name fn q1) es [] q2) q3] [.ExceptHandler (some (.Name zn np)) none [.Return (some (.Call (.Name an p4) [.Name xn p5] [] cp)) rp] hp] [] [] pos)) :=
  (areTgt? Γ sc ts).bind fun is => if hd : is.1.Nodup then (comp Γ g hg 60 sc (.Call (.Name fn q1) es [] q2)).bind fun v => (comp Γ g hg 60 sc (.Name fn q1)).bind fun f => (compL Γ (comp Γ g hg 60) sc es).bind fun l => (isVar? Γ sc xn).bind fun i =>
  match isBi? Γ g hg sc zn, isBi? Γ g hg sc an with
  | some ⟨.zde, hz⟩, some ⟨.abs, ha⟩ => some ⟨true, _, m_try1 (bare := bare) (m_many is.2 hd rfl v.hv) (r_tuple f.hv l.h) (hz _ rfl) (ha _ rfl) i.2⟩
  | _, _ => none else none
noncomputable def compTry2 (zn en en2 wn wn2 sn fn : Str) (es : List PySem.Expr) (np hp p1 p2 p3 p4 p5 p6 p7 p8 pos q1 q2 q3 : Pos) : Option (SDen Γ sc (.Try [.Expr (.Call (.Name fn q1) es [] q2) q3] [.ExceptHandler (some (.Name zn np)) (some en) [.Assign [.Name wn p1] (.BinOp (.Name wn2 p2) .Add (.List [.Call (.Name sn p3) [.Name en2 p4] [] p5] p6) p7) p8] hp] [] [] pos)) :=
  (comp Γ g hg 60 sc (.Name fn q1)).bind fun f => (compL Γ (comp Γ g hg 60) sc es).bind fun l => (isTgt? Γ sc wn).bind fun i =>
  match isBi? Γ g hg sc zn, isBi? Γ g hg sc sn with
  | some ⟨.zde, hz⟩, some ⟨.str, hs⟩ => if h1 : sc.names.lookup en = some .local then (if h2 : okName en = true then (if h3 : varOf Γ.nm en = none then (if h4 : wn2 = wn then (if h5 : en2 = en then
      some ⟨true, sTry2 (rK Γ.C Γ.D Γ.U f.v f.k l.vs l.k true) i.1, by subst h4; subst h5; exact m_try2 (r_expr f.hv l.h) (hz _ rfl) (hs _ rfl) h1 h2 h3 i.2⟩ else none) else none) else none) else none) else none
  | _, _ => none
noncomputable def compS2F (c : (s : Stmt) → Option (SDen Γ sc s)) : (s : Stmt) → Option (SDen Γ sc s)
  | .Try [.Assign [.Tuple ts j tp] (.Call (.Name fn q1) es [] q2) q3] [.ExceptHandler (some (.Name zn np)) none [.Return (some (.Call (.Name an p4) [.Name xn p5] [] cp)) rp] hp] [] [] pos => compTry1 Γ g sc bare hg xn zn an ts es fn j np hp rp cp p4 p5 pos tp q1 q2 q3
  | .Try [.Expr (.Call (.Name fn q1) es [] q2) q3] [.ExceptHandler (some (.Name zn np)) (some en) [.Assign [.Name wn p1] (.BinOp (.Name wn2 p2) .Add (.List [.Call (.Name sn p3) [.Name en2 p4] [] p5] p6) p7) p8] hp] [] [] pos => compTry2 Γ g sc hg zn en en2 wn wn2 sn fn es np hp p1 p2 p3 p4 p5 p6 p7 p8 pos q1 q2 q3
  | .For t it a [] pos => compFor Γ g sc hg c t it a pos
  | s => compS Γ g own sc hg 20 s
noncomputable def compS2 : (m : Nat) → (s : Stmt) → Option (SDen Γ sc s)
  | 0, _ => none
  | m + 1, s => compS2F Γ g own sc bare hg (compS2 m) s
end

end
end Mine
namespace Mine
section
open PySem.Calls
set_option maxRecDepth 100000
noncomputable def gl04 : List (Str × GKind) := [("_DIV_LIMIT", .int 4000 189), ("_div2n1n", .fn 21), ("_div3n2n", .fn 28), ("_int2digits", .fn 35), ("_digits2int", .fn 42), ("_divmod_pos", .fn 49), ("int_divmod", .fn 56), ("_law_cells", .fn 63), ("_law_plain", .fn 70), ("_law_thirds", .fn 77), ("_law_measure", .fn 84),
  ("_law_share", .fn 91), ("_law_common", .fn 98), ("_law_lap", .fn 103), ("_law_triangle", .fn 108), ("_law_drawn", .fn 113), ("_law_mirrored", .fn 118), ("_law_told", .fn 125),
  ("abs", .bi .abs), ("len", .bi .len), ("max", .bi .max), ("sum", .bi .sum), ("divmod", .bi .divmod), ("range", .bi .range), ("reversed", .bi .reversed), ("str", .bi .str), ("ZeroDivisionError", .bi .zde), ("list", .bi .list), ("enumerate", .bi .enumerate)]
noncomputable def g04 (x : Str) : GKind := (gl04.lookup x).getD .no
noncomputable def G04 (x : Str) : Option Value := gVal (g04 x)
noncomputable def g04r (x : Str) : GKind := if x = "rows" then .rows else g04 x
theorem g04r_ok : ∀ x v, gVal (g04r x) = some v → G04 x = some v := fun x v h => by
  unfold g04r at h
  split at h
  · cases h
  · exact h
noncomputable def allB : Nat → (List Value → Prop) → Prop
  | 0, β => β []
  | n + 1, β => ∀ x, allB n fun l => β (x :: l)
theorem bindN {n : Nat} : ∀ {β : List Value → Prop}, allB n β → ∀ vals : List Value, vals.length = n → β vals := by
  induction n with
  | zero => intro β h vals e; rw [List.eq_nil_of_length_eq_zero e]; exact h
  | succ n ih =>
    intro β h vals e
    cases vals with
    | nil => cases e
    | cons x l => exact ih (h x) l (Nat.succ.inj e)
noncomputable section
noncomputable def nm63 : List Str := ["script", "cells", "place", "number"]
noncomputable def e63_1 : MV := dList (lCons (dInt 3) (lCons (dInt 1) (lCons (dInt 5) (lCons (dInt 2) (lCons (dInt 1) (lCons (dInt 2) (lCons (dInt 4) (lCons (dInt 990) (lCons (dInt 0) lNil)))))))))
noncomputable def e63_2 : ML := sEnum (dSlice (bVar 0) pNone (pSome (dInt 60)) pNone)
noncomputable def e63_3 : MV := dBin .Mod (dVar 3) (dBin .Pow (dInt 10) (dInt 6))
noncomputable def b63_4 : SS := sSeq (xAugI 1 .Add (dBin .Mod (dVar 2) (dInt 9)) e63_3) sNil
noncomputable def s63 (Γ : Fx) : SS := sSeq (xOwn 1 e63_1) (sSeq (xFor (.many [2, 3]) e63_2 b63_4) (sSeq (sRetO 1) sNil))
noncomputable def nm70 : List Str := ["x", "y"]
noncomputable def e70_1 : MV := dTup (lCons (dBin .FloorDiv (dVar 0) (dVar 1)) (lCons (dBin .Mod (dVar 0) (dVar 1)) lNil))
noncomputable def s70 (Γ : Fx) : SS := sSeq (xRet e70_1) sNil
noncomputable def nm77 : List Str := ["x", "y", "half", "pad", "divisor", "quotient", "rest", "digit", "part"]
noncomputable def e77_1 : MT := tCmp .Eq (dVar 1) (dInt 0)
noncomputable def e77_2 (Γ : Fx) : MV := dCall Γ 70 (lCons (dVar 0) (lCons (dVar 1) lNil))
noncomputable def e77_3 : MV := dBin .FloorDiv (dBin .Add (dBits (dAbs (dVar 1))) (dInt 1)) (dInt 2)
noncomputable def e77_4 : MV := dBin .Sub (dBin .Mult (dInt 2) (dVar 2)) (dBits (dAbs (dVar 1)))
noncomputable def e77_5 : MV := dBin .LShift (dAbs (dVar 1)) (dVar 3)
noncomputable def e77_6 : MV := dTup (lCons (dInt 0) (lCons (dInt 0) lNil))
noncomputable def e77_7 (Γ : Fx) : ML := sRevd (dCall Γ 35 (lCons (dBin .LShift (dAbs (dVar 0)) (dVar 3)) (lCons (dVar 2) lNil)))
noncomputable def e77_8 (Γ : Fx) : MV := dCall Γ 28 (lCons (dVar 6) (lCons (dVar 7) (lCons (dVar 4) (lCons (dBin .RShift (dVar 4) (dVar 2)) (lCons (dBin .Mod (dVar 4) (dBin .LShift (dInt 1) (dVar 2))) (lCons (dVar 2) lNil))))))
noncomputable def e77_9 : MV := dBin .Add (dBin .LShift (dVar 5) (dVar 2)) (dVar 8)
noncomputable def b77_10 (Γ : Fx) : SS := sSeq (xMany [8, 6] (e77_8 Γ)) (sSeq (xSet 5 e77_9) sNil)
noncomputable def e77_11 : MV := dBin .RShift (dVar 6) (dVar 3)
noncomputable def e77_12 : MT := tCmp .NotEq (dCmp .Lt (dVar 0) (dInt 0)) (dCmp .Lt (dVar 1) (dInt 0))
noncomputable def e77_13 : MV := dIf (tVal (dVar 6)) (dTup (lCons (dBin .Sub (dUn .USub (dVar 5)) (dInt 1)) (lCons (dBin .Sub (dAbs (dVar 1)) (dVar 6)) lNil))) (dTup (lCons (dUn .USub (dVar 5)) (lCons (dInt 0) lNil)))
noncomputable def e77_14 : MV := dTup (lCons (dVar 5) (lCons (dIf (tCmp .Gt (dVar 1) (dInt 0)) (dVar 6) (dUn .USub (dVar 6))) lNil))
noncomputable def s77 (Γ : Fx) : SS := sSeq (xIf e77_1 (sSeq (xRet (e77_2 Γ)) sNil) sNil) (sSeq (xSet 2 e77_3) (sSeq (xSet 3 e77_4) (sSeq (xSet 4 e77_5) (sSeq (xMany [5, 6] e77_6) (sSeq (xFor (.one 7) (e77_7 Γ) (b77_10 Γ)) (sSeq (xSet 6 e77_11) (sSeq (xIf e77_12 (sSeq (xMany [5, 6] e77_13) sNil) sNil) (sSeq (xRet e77_14) sNil))))))))
noncomputable def nm84 : List Str := ["divide", "x", "y", "step", "quotient", "rest"]
noncomputable def e84_1 : ML := sRange (dInt 99)
noncomputable def e84_2 : ML := lCons (dVar 1) (lCons (dVar 2) lNil)
noncomputable def e84_3 : MV := dIf (tAnd (tCmp .Eq (dVar 1) (dBin .Add (dBin .Mult (dVar 4) (dVar 2)) (dVar 5))) (tAnd (tOr (tChain .LtE .Lt (dInt 0) (dVar 5) (dVar 2)) (tOr (tChain .Lt .LtE (dVar 2) (dVar 5) (dInt 0)) tNo)) tYes)) (dTup (lCons (dVar 2) (lCons (dVar 5) lNil))) (dTup (lCons (dInt 0) (lCons (dInt 0) lNil)))
noncomputable def b84_4 (Γ : Fx) (bare : Bool) : SS := sSeq (xTry1 Γ bare [4, 5] 0 e84_2 1) (sSeq (xMany [1, 2] e84_3) sNil)
noncomputable def e84_5 : MV := dInt 0
noncomputable def s84 (Γ : Fx) (bare : Bool) : SS := sSeq (xFor (.one 3) e84_1 (b84_4 Γ bare)) (sSeq (xRet e84_5) sNil)
noncomputable def nm91 : List Str := ["divide", "whole", "part", "turn", "first", "second", "quotient", "rest"]
noncomputable def e91_1 : MV := dTup (lCons (dIf (tVal (dBin .Mod (dVar 3) (dInt 2))) (dUn .USub (dVar 1)) (dVar 1)) (lCons (dIf (tVal (dBin .Mod (dBin .FloorDiv (dVar 3) (dInt 2)) (dInt 2))) (dUn .USub (dVar 2)) (dVar 2)) lNil))
noncomputable def e91_2 (Γ : Fx) : MV := dIf (tVal (dVar 2)) (dCallV Γ 0 (lCons (dVar 4) (lCons (dVar 5) lNil))) (dTup (lCons (dInt 0) (lCons (dInt 1) lNil)))
noncomputable def e91_3 : MV := dIf (tAnd (tCmp .Eq (dVar 7) (dInt 0)) (tAnd (tCmp .Eq (dBin .Mult (dVar 6) (dVar 5)) (dVar 4)) tYes)) (dAbs (dVar 6)) (dInt 0)
noncomputable def s91 (Γ : Fx) : SS := sSeq (xMany [4, 5] e91_1) (sSeq (xMany [6, 7] (e91_2 Γ)) (sSeq (xRet e91_3) sNil))
noncomputable def nm98 : List Str := ["divide", "row", "turn"]
noncomputable def e98_1 (Γ : Fx) : MV := dIf (tCmp .Eq (dLen (bVar 1)) (dInt 2)) (dCall Γ 91 (lCons (dVar 0) (lCons (dBin .Mult (dItem (bVar 1) (dInt 0)) (dItem (bVar 1) (dInt 1))) (lCons (dCall Γ 84 (lCons (dVar 0) (lCons (dItem (bVar 1) (dInt 0)) (lCons (dUn .USub (dItem (bVar 1) (dInt 1))) lNil)))) (lCons (dVar 2) lNil))))) (dItem (bVar 1) (dInt 0))
noncomputable def s98 (Γ : Fx) : SS := sSeq (xRet (e98_1 Γ)) sNil
noncomputable def nm103 : List Str := ["divide", "rows", "whole", "order", "turn", "row", "high", "place", "below", "above", "most"]
noncomputable def e103_1 : ML := sVal true (dVar 3)
noncomputable def e103_2 : ML := sRange (dLen (bRow 1 (dVar 6)))
noncomputable def e103_3 : MV := dIf (tVal (dVar 6)) (dSlice (bRow 1 (dBin .Sub (dVar 6) (dInt 1))) (pSome (dVar 7)) (pSome (dBin .Add (dVar 7) (dInt 2))) pNone) (dList (lCons (dInt 1) lNil))
noncomputable def e103_4 : MV := dIf (tCmp .Lt (dBin .Add (dVar 6) (dInt 1)) (dLen2 1)) (dSlice (bRow 1 (dBin .Add (dVar 6) (dInt 1))) (pSome (dMax (dBin .Sub (dVar 7) (dInt 1)) (dInt 0))) (pSome (dBin .Add (dVar 7) (dInt 1))) pNone) (dList (lCons (dVar 2) lNil))
noncomputable def e103_5 (Γ : Fx) : MV := dIf (tCmp .Eq (dLen (bVar 9)) (dInt 2)) (dCall Γ 84 (lCons (dVar 0) (lCons (dUn .USub (dItem (bVar 9) (dInt 0))) (lCons (dItem (bVar 9) (dInt 1)) lNil)))) (dItem (bVar 9) (dInt 0))
noncomputable def e103_6 (Γ : Fx) : MV := dCall Γ 91 (lCons (dVar 0) (lCons (dBin .Mult (dCall Γ 98 (lCons (dVar 0) (lCons (dVar 8) (lCons (dVar 4) lNil)))) (dVar 10)) (lCons (dItem (bRow 1 (dVar 6)) (dVar 7)) (lCons (dBin .Add (dBin .Add (dVar 4) (dVar 6)) (dVar 7)) lNil))))
noncomputable def b103_7 (Γ : Fx) : SS := sSeq (xSet 8 e103_3) (sSeq (xSet 9 e103_4) (sSeq (xSet 10 (e103_5 Γ)) (sSeq (xPut2 1 (dVar 6) (dVar 7) (e103_6 Γ)) sNil)))
noncomputable def b103_8 (Γ : Fx) : SS := sSeq (xFor (.one 7) e103_2 (b103_7 Γ)) sNil
noncomputable def s103 (Γ : Fx) : SS := sSeq (xMk2 1 [] (.one 5) (sVal true (dVar 1)) tYes (dListS (bVar 5))) (sSeq (xFor (.one 6) e103_1 (b103_8 Γ)) (sSeq (sRet2 1) sNil))
noncomputable def nm108 : List Str := ["figures", "side", "rows", "high", "start", "row"]
noncomputable def e108_1 : MV := dList lNil
noncomputable def e108_2 : ML := sRange (dBin .Sub (dVar 1) (dInt 1))
noncomputable def e108_3 : MV := dSum (dCompN [] (.one 5) [] (sVal true (dVar 2)) tYes (iLast (dLen (bVar 5))))
noncomputable def e108_4 : MV := dBin .Add (dVar 2) (dList (lCons (dSlice (bVar 0) (pSome (dVar 4)) (pSome (dBin .Sub (dBin .Sub (dBin .Add (dVar 4) (dVar 1)) (dInt 1)) (dVar 3))) pNone) lNil))
noncomputable def b108_5 : SS := sSeq (xSet 4 e108_3) (sSeq (xSet 2 e108_4) sNil)
noncomputable def e108_6 : MV := dVar 2
noncomputable def s108 (Γ : Fx) : SS := sSeq (xSet 2 e108_1) (sSeq (xFor (.one 3) e108_2 b108_5) (sSeq (xRet e108_6) sNil))
noncomputable def nm113 : List Str := ["cells", "side", "rows", "cell", "high", "start", "row", "last", "place"]
noncomputable def e113_1 : MV := dList (lCons (dCompN [] (.one 3) [] (sVal true (dSlice (bVar 0) pNone (pSome (dBin .Sub (dVar 1) (dInt 1))) pNone)) tYes (iLast (dBin .Add (dInt 1) (dBin .Mod (dVar 3) (dInt 12))))) lNil)
noncomputable def e113_2 : ML := sRange2 (dInt 1) (dBin .Sub (dVar 1) (dInt 1))
noncomputable def e113_3 : MV := dSum (dCompN [] (.one 6) [] (sVal true (dVar 2)) tYes (iLast (dLen (bVar 6))))
noncomputable def e113_4 : MV := dLast (bVar 2)
noncomputable def e113_5 (Γ : Fx) : MV := dBin .Add (dVar 2) (dList (lCons (dCompN [0, 5, 7] (.one 8) [] (sRange (dBin .Sub (dBin .Sub (dVar 1) (dInt 1)) (dVar 4))) tYes (iLast (dBin .Mult (dCall Γ 98 (lCons (dFn 70) (lCons (dSlice (bVar 7) (pSome (dVar 8)) (pSome (dBin .Add (dVar 8) (dInt 2))) pNone) (lCons (dInt 0) lNil)))) (dBin .Add (dInt 1) (dBin .Mod (dItem (bVar 0) (dBin .Add (dVar 5) (dVar 8))) (dInt 12)))))) lNil))
noncomputable def b113_6 (Γ : Fx) : SS := sSeq (xSet 5 e113_3) (sSeq (xSet 7 e113_4) (sSeq (xSet 2 (e113_5 Γ)) sNil))
noncomputable def e113_7 : MV := dVar 2
noncomputable def s113 (Γ : Fx) : SS := sSeq (xSet 2 e113_1) (sSeq (xFor (.one 4) e113_2 (b113_6 Γ)) (sSeq (xRet e113_7) sNil))
noncomputable def nm118 : List Str := ["rows", "row"]
noncomputable def e118_1 : MV := dCompN [] (.one 1) [] (sVal true (dVar 0)) tYes (iLast (dListRev (dVar 1)))
noncomputable def s118 (Γ : Fx) : SS := sSeq (xRet e118_1) sNil
noncomputable def nm125 : List Str := ["kept", "whole", "laps", "side", "quotient", "rest", "figures", "rows"]
noncomputable def e125_1 (Γ : Fx) : MV := dCall Γ 56 (lCons (dVar 2) (lCons (dVar 3) lNil))
noncomputable def e125_2 (Γ : Fx) : MV := dCall Γ 35 (lCons (dItem (bVar 0) (dBin .Mod (dVar 5) (dVar 3))) (lCons (dBits (dVar 1)) lNil))
noncomputable def e125_3 (Γ : Fx) : MT := tOr (tCmp .NotEq (dVar 2) (dBin .Add (dBin .Mult (dVar 4) (dVar 3)) (dVar 5))) (tOr (tNot (tChain .LtE .Lt (dInt 0) (dVar 5) (dVar 3))) (tOr (tCmp .NotEq (dCall Γ 56 (lCons (dUn .USub (dVar 2)) (lCons (dUn .USub (dVar 3)) lNil))) (dTup (lCons (dVar 4) (lCons (dUn .USub (dVar 5)) lNil)))) (tOr (tCmp .NotEq (dSlice (bVar 6) (pSome (dBin .FloorDiv (dBin .Mult (dVar 3) (dBin .Sub (dVar 3) (dInt 1))) (dInt 2))) pNone pNone) (dList (lCons (dVar 1) lNil))) tNo)))
noncomputable def e125_4 : MV := dList lNil
noncomputable def e125_5 (Γ : Fx) : MV := dCall Γ 108 (lCons (dVar 6) (lCons (dVar 3) lNil))
noncomputable def e125_6 (Γ : Fx) : MV := dIf (tVal (dBin .Mod (dVar 4) (dInt 2))) (dCall Γ 118 (lCons (dVar 7) lNil)) (dVar 7)
noncomputable def s125 (Γ : Fx) : SS := sSeq (xMany [4, 5] (e125_1 Γ)) (sSeq (xSet 6 (e125_2 Γ)) (sSeq (xIf (e125_3 Γ) (sSeq (xRet e125_4) sNil) sNil) (sSeq (xSet 7 (e125_5 Γ)) (sSeq (xRet (e125_6 Γ)) sNil))))
noncomputable def nm130 : List Str := ["script", "cells", "side", "first", "whole", "rows", "kept", "down", "lap", "row", "number", "odd", "high", "place", "lower", "laps", "here", "words"]
noncomputable def e130_1 (Γ : Fx) : MV := dCall Γ 63 (lCons (dVar 0) lNil)
noncomputable def e130_2 : MV := dBin .Add (dInt 3) (dBin .Mod (dSum (dVar 1)) (dInt 2))
noncomputable def e130_3 (Γ : Fx) : MV := dCall Γ 113 (lCons (dVar 1) (lCons (dVar 2) lNil))
noncomputable def e130_4 : MV := dBin .Mult (dItem (bVal (dLast (bVar 3))) (dInt 0)) (dBin .Add (dInt 1) (dBin .Mod (dItem (bVar 1) (dInt 6)) (dInt 12)))
noncomputable def e130_5 : MV := dVar 3
noncomputable def e130_6 : MV := dList lNil
noncomputable def e130_7 : MV := dListR3 (dBin .Sub (dVar 2) (dInt 2)) (dUn .USub (dInt 1)) (dUn .USub (dInt 1))
noncomputable def e130_8 : ML := sRange (dVar 2)
noncomputable def e130_9 (Γ : Fx) : MV := dBin .Add (dVar 6) (dList (lCons (dCall Γ 42 (lCons (dBin .Add (dCompN [] (.one 9) [10] (sVal true (dVar 5)) tYes (iMore (.one 10) [] (sVal true (dVar 9)) tYes (iLast (dVar 10)))) (dList (lCons (dVar 4) lNil))) (lCons (dBits (dVar 4)) lNil))) lNil))
noncomputable def e130_10 (Γ : Fx) : MV := dCall Γ 103 (lCons (dFn 56) (lCons (dVar 5) (lCons (dVar 4) (lCons (dVar 7) (lCons (dVar 8) lNil)))))
noncomputable def e130_11 : MV := dCompN [5] (.one 12) [13, 14] (sRange2 (dInt 1) (dBin .Sub (dVar 2) (dInt 1))) tYes (iMore (.one 13) [14] (sRange (dLen (bVal (dItem (bVar 5) (dVar 12))))) tYes (iMore (.one 14) [] (sVal true (dSlice (bVal (dItem (bVar 5) (dBin .Sub (dVar 12) (dInt 1)))) (pSome (dVar 13)) (pSome (dBin .Add (dVar 13) (dInt 2))) pNone)) (tAnd (tOr (tCmp .Eq (dVar 14) (dInt 0)) (tOr (tVal (dBin .Mod (dItem (bVal (dItem (bVar 5) (dVar 12))) (dVar 13)) (dVar 14))) tNo)) tYes) (iLast (dInt 1))))
noncomputable def e130_12 : MT := tOr (tCmp .NotEq (dVar 11) (dList lNil)) (tOr (tVal (dBin .Mod (dVar 4) (dItem (bVal (dLast (bVar 5))) (dInt 0)))) tNo)
noncomputable def e130_13 : MV := dBool false
noncomputable def b130_14 (Γ : Fx) : SS := sSeq (xSet 6 (e130_9 Γ)) (sSeq (xSet 5 (e130_10 Γ)) (sSeq (xSet 11 e130_11) (sSeq (xIf e130_12 (sSeq (xRet e130_13) sNil) sNil) sNil)))
noncomputable def e130_15 (Γ : Fx) : MT := tCmp .NotEq (dVar 5) (dCall Γ 118 (lCons (dVar 3) lNil))
noncomputable def e130_16 : MV := dBool false
noncomputable def e130_17 : MV := dBin .Sub (dBin .Mod (dItem (bVar 1) (dInt 7)) (dInt 2001)) (dInt 1000)
noncomputable def e130_18 (Γ : Fx) : MV := dCall Γ 125 (lCons (dVar 6) (lCons (dVar 4) (lCons (dVar 15) (lCons (dVar 2) lNil))))
noncomputable def e130_19 (Γ : Fx) : MT := tOr (tCmp .Eq (dVar 16) (dList lNil)) (tOr (tCmp .NotEq (dCall Γ 103 (lCons (dFn 77) (lCons (dVar 16) (lCons (dVar 4) (lCons (dVar 7) (lCons (dInt 2) lNil)))))) (dCall Γ 125 (lCons (dVar 6) (lCons (dVar 4) (lCons (dBin .Add (dVar 15) (dInt 1)) (lCons (dVar 2) lNil)))))) tNo)
noncomputable def e130_20 : MV := dBool false
noncomputable def e130_21 (Γ : Fx) : MT := tCmp .NotEq (dCall Γ 103 (lCons (dFn 70) (lCons (dVar 16) (lCons (dVar 4) (lCons (dListR1 (dBin .Sub (dVar 2) (dInt 1))) (lCons (dInt 0) lNil)))))) (dCall Γ 125 (lCons (dVar 6) (lCons (dVar 4) (lCons (dBin .Sub (dVar 15) (dInt 1)) (lCons (dVar 2) lNil)))))
noncomputable def e130_22 : MV := dBool false
noncomputable def e130_23 : MV := dList lNil
noncomputable def e130_24 : ML := sVal true (dTup (lCons (dVar 4) (lCons (dUn .USub (dVar 4)) (lCons (dInt 0) lNil))))
noncomputable def e130_25 : ML := lCons (dVar 10) (lCons (dInt 0) lNil)
noncomputable def b130_26 (Γ : Fx) : SS := sSeq (xTry2 Γ 56 e130_25 17) sNil
noncomputable def e130_27 (Γ : Fx) : MV := dAnd (dCmp .Eq (dVar 17) (dList (lCons (dStr Str.empty) (lCons (dStr Str.empty) (lCons (dStr Str.empty) lNil))))) (dCmp .Eq (dCall Γ 56 (lCons (dVar 4) (lCons (dVar 2) lNil))) (dCall Γ 70 (lCons (dVar 4) (lCons (dVar 2) lNil))))
noncomputable def s130 (Γ : Fx) : SS := sSeq (xSet 1 (e130_1 Γ)) (sSeq (xSet 2 e130_2) (sSeq (xSet 3 (e130_3 Γ)) (sSeq (xSet 4 e130_4) (sSeq (xSet 5 e130_5) (sSeq (xSet 6 e130_6) (sSeq (xSet 7 e130_7) (sSeq (xFor (.one 8) e130_8 (b130_14 Γ)) (sSeq (xIf (e130_15 Γ) (sSeq (xRet e130_16) sNil) sNil) (sSeq (xSet 15 e130_17) (sSeq (xSet 16 (e130_18 Γ)) (sSeq (xIf (e130_19 Γ) (sSeq (xRet e130_20) sNil) sNil) (sSeq (xIf (e130_21 Γ) (sSeq (xRet e130_22) sNil) sNil) (sSeq (xSet 17 e130_23) (sSeq (xFor (.one 10) e130_24 (b130_26 Γ)) (sSeq (xRet (e130_27 Γ)) sNil)))))))))))))))
end
variable {C : Cx} {P : Params} {X : Addr → List PV → PV}
theorem con63 {D U : Nat} {a r : PV} (hK : C.K = hd.heap_39 P) (hG : GOk C G04) (h64 : 64 ≤ U) (hr : s63 (fxOf C nm63 G04 X hG D U h64) ([.val a] ++ List.replicate 3 .undef) fun fl _ => fl = .ret r) : ConAt C (D + 1) (U + 3) 63 [a] r := by
  refine con_of (Γ := fxOf C nm63 G04 X hG D U h64) (f := 63) (ps := ["script"]) (is := [0]) (st := false) (S := s63 (fxOf C nm63 G04 X hG D U h64)) 3 (by show C.K.lookup 63 = _; rw [hK]; rfl) (by show keepIn C.K _ = _; rw [hK]; rfl) (by show codeIn C.K _ _ = _; rw [hK]; rfl) (by rfl) (by exact bindN fun u => rfl) (by rfl) rfl (good_of (o := compSs _ _ (compS _ g04 [1] _ (fun _ _ e => e) 20) _) (by kernel_rfl)) hr
theorem con70 {D U : Nat} {a b r : PV} (hK : C.K = hd.heap_39 P) (hG : GOk C G04) (h64 : 64 ≤ U) (hr : s70 (fxOf C nm70 G04 X hG D U h64) ([.val a, .val b] ++ List.replicate 0 .undef) fun fl _ => fl = .ret r) : ConAt C (D + 1) (U + 3) 70 [a, b] r := by
  refine con_of (Γ := fxOf C nm70 G04 X hG D U h64) (f := 70) (ps := ["x", "y"]) (is := [0, 1]) (st := true) (S := s70 (fxOf C nm70 G04 X hG D U h64)) 0 (by show C.K.lookup 70 = _; rw [hK]; rfl) (by show keepIn C.K _ = _; rw [hK]; rfl) (by show codeIn C.K _ _ = _; rw [hK]; rfl) (by rfl) (by exact bindN fun u v => rfl) (by rfl) rfl (good_of (o := compSs _ _ (compS _ g04 [] _ (fun _ _ e => e) 20) _) (by kernel_rfl)) hr
theorem con77 {D U : Nat} {a b r : PV} (hK : C.K = hd.heap_39 P) (hG : GOk C G04) (h64 : 64 ≤ U) (hr : s77 (fxOf C nm77 G04 X hG D U h64) ([.val a, .val b] ++ List.replicate 7 .undef) fun fl _ => fl = .ret r) : ConAt C (D + 1) (U + 3) 77 [a, b] r := by
  refine con_of (Γ := fxOf C nm77 G04 X hG D U h64) (f := 77) (ps := ["x", "y"]) (is := [0, 1]) (st := true) (S := s77 (fxOf C nm77 G04 X hG D U h64)) 7 (by show C.K.lookup 77 = _; rw [hK]; rfl) (by show keepIn C.K _ = _; rw [hK]; rfl) (by show codeIn C.K _ _ = _; rw [hK]; rfl) (by rfl) (by exact bindN fun u v => rfl) (by rfl) rfl (good_of (o := compSs _ _ (compS _ g04 [] _ (fun _ _ e => e) 20) _) (by kernel_rfl)) hr
theorem con84 {D U : Nat} {a b c r : PV} (bare : Bool) (hK : C.K = hd.heap_39 P) (hG : GOk C G04) (h64 : 64 ≤ U) (hr : s84 (fxOf C nm84 G04 X hG D U h64) bare ([.val a, .val b, .val c] ++ List.replicate 3 .undef) fun fl _ => fl = .ret r) : ConAt C (D + 1) (U + 3) 84 [a, b, c] r := by
  refine con_of (Γ := fxOf C nm84 G04 X hG D U h64) (f := 84) (ps := ["divide", "x", "y"]) (is := [0, 1, 2]) (st := true) (S := s84 (fxOf C nm84 G04 X hG D U h64) bare) 3 (by show C.K.lookup 84 = _; rw [hK]; rfl) (by show keepIn C.K _ = _; rw [hK]; rfl) (by show codeIn C.K _ _ = _; rw [hK]; rfl) (by rfl) (by exact bindN fun u v w => rfl) (by rfl) rfl (good_of (o := compSs _ _ (compS2 _ g04 [] _ bare (fun _ _ e => e) 20) _) (by kernel_rfl)) hr
theorem con91 {D U : Nat} {a b c d r : PV} (hK : C.K = hd.heap_39 P) (hG : GOk C G04) (h64 : 64 ≤ U) (hr : s91 (fxOf C nm91 G04 X hG D U h64) ([.val a, .val b, .val c, .val d] ++ List.replicate 4 .undef) fun fl _ => fl = .ret r) : ConAt C (D + 1) (U + 3) 91 [a, b, c, d] r := by
  refine con_of (Γ := fxOf C nm91 G04 X hG D U h64) (f := 91) (ps := ["divide", "whole", "part", "turn"]) (is := [0, 1, 2, 3]) (st := true) (S := s91 (fxOf C nm91 G04 X hG D U h64)) 4 (by show C.K.lookup 91 = _; rw [hK]; rfl) (by show keepIn C.K _ = _; rw [hK]; rfl) (by show codeIn C.K _ _ = _; rw [hK]; rfl) (by rfl) (by exact bindN fun u v w x => rfl) (by rfl) rfl (good_of (o := compSs _ _ (compS _ g04 [] _ (fun _ _ e => e) 20) _) (by kernel_rfl)) hr
theorem con98 {D U : Nat} {a b c r : PV} (hK : C.K = hd.heap_39 P) (hG : GOk C G04) (h64 : 64 ≤ U) (hr : s98 (fxOf C nm98 G04 X hG D U h64) ([.val a, .val b, .val c] ++ List.replicate 0 .undef) fun fl _ => fl = .ret r) : ConAt C (D + 1) (U + 3) 98 [a, b, c] r := by
  refine con_of (Γ := fxOf C nm98 G04 X hG D U h64) (f := 98) (ps := ["divide", "row", "turn"]) (is := [0, 1, 2]) (st := true) (S := s98 (fxOf C nm98 G04 X hG D U h64)) 0 (by show C.K.lookup 98 = _; rw [hK]; rfl) (by show keepIn C.K _ = _; rw [hK]; rfl) (by show codeIn C.K _ _ = _; rw [hK]; rfl) (by rfl) (by exact bindN fun u v w => rfl) (by rfl) rfl (good_of (o := compSs _ _ (compS _ g04 [] _ (fun _ _ e => e) 20) _) (by kernel_rfl)) hr
theorem con103 {D U : Nat} {a b c d e r : PV} (hK : C.K = hd.heap_39 P) (hG : GOk C G04) (h64 : 64 ≤ U) (hr : s103 (fxOf C nm103 G04 X hG D U h64) ([.val a, .val b, .val c, .val d, .val e] ++ List.replicate 6 .undef) fun fl _ => fl = .ret r) : ConAt C (D + 1) (U + 3) 103 [a, b, c, d, e] r := by
  refine con_of (Γ := fxOf C nm103 G04 X hG D U h64) (f := 103) (ps := ["divide", "rows", "whole", "order", "turn"]) (is := [0, 1, 2, 3, 4]) (st := false) (S := s103 (fxOf C nm103 G04 X hG D U h64)) 6 (by show C.K.lookup 103 = _; rw [hK]; rfl) (by show keepIn C.K _ = _; rw [hK]; rfl) (by show codeIn C.K _ _ = _; rw [hK]; rfl) (by rfl) (by exact bindN fun u v w x y => rfl) (by rfl) rfl (good_of (o := compSs _ _ (compS _ g04r [] _ g04r_ok 20) _) (by kernel_rfl)) hr
theorem con108 {D U : Nat} {a b r : PV} (hK : C.K = hd.heap_39 P) (hG : GOk C G04) (h64 : 64 ≤ U) (hr : s108 (fxOf C nm108 G04 X hG D U h64) ([.val a, .val b] ++ List.replicate 4 .undef) fun fl _ => fl = .ret r) : ConAt C (D + 1) (U + 3) 108 [a, b] r := by
  refine con_of (Γ := fxOf C nm108 G04 X hG D U h64) (f := 108) (ps := ["figures", "side"]) (is := [0, 1]) (st := true) (S := s108 (fxOf C nm108 G04 X hG D U h64)) 4 (by show C.K.lookup 108 = _; rw [hK]; rfl) (by show keepIn C.K _ = _; rw [hK]; rfl) (by show codeIn C.K _ _ = _; rw [hK]; rfl) (by rfl) (by exact bindN fun u v => rfl) (by rfl) rfl (good_of (o := compSs _ _ (compS _ g04 [] _ (fun _ _ e => e) 20) _) (by kernel_rfl)) hr
theorem con113 {D U : Nat} {a b r : PV} (hK : C.K = hd.heap_39 P) (hG : GOk C G04) (h64 : 64 ≤ U) (hr : s113 (fxOf C nm113 G04 X hG D U h64) ([.val a, .val b] ++ List.replicate 7 .undef) fun fl _ => fl = .ret r) : ConAt C (D + 1) (U + 3) 113 [a, b] r := by
  refine con_of (Γ := fxOf C nm113 G04 X hG D U h64) (f := 113) (ps := ["cells", "side"]) (is := [0, 1]) (st := true) (S := s113 (fxOf C nm113 G04 X hG D U h64)) 7 (by show C.K.lookup 113 = _; rw [hK]; rfl) (by show keepIn C.K _ = _; rw [hK]; rfl) (by show codeIn C.K _ _ = _; rw [hK]; rfl) (by rfl) (by exact bindN fun u v => rfl) (by rfl) rfl (good_of (o := compSs _ _ (compS _ g04 [] _ (fun _ _ e => e) 20) _) (by kernel_rfl)) hr
theorem con118 {D U : Nat} {a r : PV} (hK : C.K = hd.heap_39 P) (hG : GOk C G04) (h64 : 64 ≤ U) (hr : s118 (fxOf C nm118 G04 X hG D U h64) ([.val a] ++ List.replicate 1 .undef) fun fl _ => fl = .ret r) : ConAt C (D + 1) (U + 3) 118 [a] r := by
  refine con_of (Γ := fxOf C nm118 G04 X hG D U h64) (f := 118) (ps := ["rows"]) (is := [0]) (st := true) (S := s118 (fxOf C nm118 G04 X hG D U h64)) 1 (by show C.K.lookup 118 = _; rw [hK]; rfl) (by show keepIn C.K _ = _; rw [hK]; rfl) (by show codeIn C.K _ _ = _; rw [hK]; rfl) (by rfl) (by exact bindN fun u => rfl) (by rfl) rfl (good_of (o := compSs _ _ (compS _ g04 [] _ (fun _ _ e => e) 20) _) (by kernel_rfl)) hr
theorem con125 {D U : Nat} {a b c d r : PV} (hK : C.K = hd.heap_39 P) (hG : GOk C G04) (h64 : 64 ≤ U) (hr : s125 (fxOf C nm125 G04 X hG D U h64) ([.val a, .val b, .val c, .val d] ++ List.replicate 4 .undef) fun fl _ => fl = .ret r) : ConAt C (D + 1) (U + 3) 125 [a, b, c, d] r := by
  refine con_of (Γ := fxOf C nm125 G04 X hG D U h64) (f := 125) (ps := ["kept", "whole", "laps", "side"]) (is := [0, 1, 2, 3]) (st := true) (S := s125 (fxOf C nm125 G04 X hG D U h64)) 4 (by show C.K.lookup 125 = _; rw [hK]; rfl) (by show keepIn C.K _ = _; rw [hK]; rfl) (by show codeIn C.K _ _ = _; rw [hK]; rfl) (by rfl) (by exact bindN fun u v w x => rfl) (by rfl) rfl (good_of (o := compSs _ _ (compS _ g04 [] _ (fun _ _ e => e) 20) _) (by kernel_rfl)) hr

end
end Mine
namespace Mine
section
open PySem.Calls
theorem or_nat (x y : Nat) : Builtin.bitOr (x : Int) (y : Int) = ((x ||| y : Nat) : Int) := by
  have nn : ∀ z : Int, Builtin.bitNot (Builtin.bitNot z) = z := fun z => by rw [bitNot_eq, bitNot_eq]; (first | lia | omega)
  have d : ∀ z : Nat, decide (0 ≤ Builtin.bitNot (z : Int)) = false := fun z => decide_eq_false (by rw [bitNot_eq]; (first | lia | omega))
  unfold Builtin.bitOr Builtin.bitAnd
  rw [d x, d y]
  show Builtin.bitNot (Builtin.bitNot (((Builtin.bitNot (Builtin.bitNot (x : Int))).toNat ||| (Builtin.bitNot (Builtin.bitNot (y : Int))).toNat : Nat) : Int)) = _
  rw [nn, nn, nn, Int.toNat_natCast, Int.toNat_natCast]
theorem or_add {r a : Int} {n : Nat} (hr : 0 ≤ r) (ha : 0 ≤ a) (h : a < 2 ^ n) : Builtin.bitOr (r * 2 ^ n) a = r * 2 ^ n + a := by
  obtain ⟨m, rfl⟩ := Int.eq_ofNat_of_zero_le hr
  obtain ⟨k, rfl⟩ := Int.eq_ofNat_of_zero_le ha
  have e : ((m : Int) * 2 ^ n) = ((m * 2 ^ n : Nat) : Int) := by push_cast; rfl
  have hk : k < 2 ^ n := by exact_mod_cast h
  rw [e, or_nat, ← Nat.shiftLeft_eq, ← Nat.shiftLeft_add_eq_or_of_lt hk m]
  push_cast; rfl
theorem shl_of2 {x : Int} {n m : Nat} (h : bits x ≤ m) (hm : m + n ≤ 134217728) : intOp .LShift x (n : Int) = some (x * 2 ^ n) := by
  show (if 0 ≤ (n : Int) ∧ (bits x : Int) + (n : Int) ≤ 134217728 then some (x * 2 ^ (n : Int).toNat) else none) = _
  rw [if_pos ⟨Int.natCast_nonneg n, show ((bits x + n : Nat) : Int) ≤ ((134217728 : Nat) : Int) from Int.ofNat_le.mpr (Nat.le_trans (Nat.add_le_add_right h n) hm)⟩, Int.toNat_natCast]
theorem k_shrp {a b : MV} {ρ : PEnv} {x : Int} {n : Nat} (p : okI a ρ x) (q : okI b ρ (n : Int)) : okI (dBin .RShift a b) ρ (x / 2 ^ n) := fdiv_p ▸ k_op p q shr_of
section
variable {Γ : Fx} {a12 a3 b b1 b2 : Int} {n : Nat} {Q : Fl → PEnv → Prop}
noncomputable abbrev rho28 (a12 a3 b b1 b2 : Int) (n : Nat) (q r : Bind) : PEnv := [.val (.int a12), .val (.int a3), .val (.int b), .val (.int b1), .val (.int b2), .val (.int n), q, r]
theorem loop28 {A : Int} (hq : ∀ q R, A = q * b + R → 0 ≤ R → R < b → Q .next (rho28 a12 a3 b b1 b2 n (.val (.int q)) (.val (.int R)))) :
    ∀ (m : Nat) (q R : Int), A = q * b + R → R < b → -R ≤ m * b → wh (tCmp .Lt (dVar 7) (dInt 0)).v (tCmp .Lt (dVar 7) (dInt 0)).k w28 (m + 1) (rho28 a12 a3 b b1 b2 n (.val (.int q)) (.val (.int R))) Q := by
  intro m
  induction m with
  | zero =>
    intro q R e h1 h2
    rw [Int.natCast_zero, Int.zero_mul] at h2
    have h0 : ¬ R < 0 := Int.not_lt.mpr (Int.nonneg_of_neg_nonpos h2)
    exact wh_no (decide_eq_false h0 ▸ k_lt (k_var rfl) k_int) (hq q R e (Int.not_lt.mp h0) h1)
  | succ m ih =>
    intro q R e h1 h2
    by_cases h0 : R < 0
    · refine wh_yes (decide_eq_true h0 ▸ k_lt (k_var rfl) k_int) (q_aug rfl k_int rfl (q_aug rfl (k_var rfl) rfl ?_))
      refine ih (q - 1) (R + b) ?_ (by have := Int.add_lt_add_right h0 b; rwa [Int.zero_add] at this) ?_
      · rw [Int.sub_mul, Int.one_mul, e, Int.add_comm R b, ← Int.add_assoc, Int.sub_add_cancel]
      · rw [Int.natCast_succ, Int.add_mul, Int.one_mul] at h2
        rw [Int.neg_add]
        exact Int.sub_right_le_of_le_add h2
    · exact wh_no (decide_eq_false h0 ▸ k_lt (k_var rfl) k_int) (hq q R e (Int.not_lt.mp h0) h1)
noncomputable def t28 : SS := sSeq (xSet 7 (dBin .Sub (dBin .BitOr (dBin .LShift (dVar 7) (dVar 5)) (dVar 1)) (dBin .Mult (dVar 6) (dVar 4)))) (sSeq (xWhile (tCmp .Lt (dVar 7) (dInt 0)) w28) (sSeq (xRet (dTup (lCons (dVar 6) (lCons (dVar 7) lNil)))) sNil))
theorem tail28 {q r : Int} (hn : n ≤ 8000) (hb : b = b1 * 2 ^ n + b2) (hb0 : 0 < b) (h2 : 0 ≤ b2 ∧ b2 < 2 ^ n) (h3 : 0 ≤ a3 ∧ a3 < 2 ^ n) (e : a12 = q * b1 + r) (hr : 0 ≤ r ∧ r < 2 ^ (n + n)) (hq : 0 ≤ q ∧ q < 2 ^ n) (hR : r * 2 ^ n + a3 - q * b2 < b) :
    t28 (rho28 a12 a3 b b1 b2 n (.val (.int q)) (.val (.int r))) fun fl _ => fl = .ret (qr (a12 * 2 ^ n + a3) b) := by
  have br := bits_of_lt hr.1 hr.2
  have bq := bits_of_lt hq.1 hq.2
  have bb := bits_of_lt h2.1 h2.2
  have eA : a12 * 2 ^ n + a3 = q * b + (r * 2 ^ n + a3 - q * b2) := by rw [e, hb, Int.add_mul, Int.mul_add, Int.mul_assoc]; (first | lia | omega)
  refine q_set (k_sub (k_op (k_op (k_var rfl) (k_var rfl) (shl_of2 br (Nat.le_trans (Nat.add_le_add (Nat.add_le_add hn hn) hn) (by decide)))) (k_var rfl) (show intOp .BitOr (r * 2 ^ n) a3 = some (r * 2 ^ n + a3) from congrArg some (or_add hr.1 h3.1 h3.2))) (k_mul (k_var rfl) (k_var rfl) (two_bits bq bb (Nat.le_trans hn (by decide))))) ?_
  have hm : -(r * 2 ^ n + a3 - q * b2) ≤ ((-(r * 2 ^ n + a3 - q * b2)).toNat : Int) * b := by
    have h1 : -(r * 2 ^ n + a3 - q * b2) ≤ ((-(r * 2 ^ n + a3 - q * b2)).toNat : Int) := Int.self_le_toNat _
    have h4 := Int.mul_le_mul_of_nonneg_left (c := ((-(r * 2 ^ n + a3 - q * b2)).toNat : Int)) (show 1 ≤ b from hb0) (Int.natCast_nonneg _)
    rw [Int.mul_one] at h4
    exact Int.le_trans h1 h4
  refine q_while _ (loop28 (A := a12 * 2 ^ n + a3) (fun q' R' e' x0 x1 => ?_) _ q _ eA hR hm)
  refine q_ret (k_tup (k_cons (k_var rfl) (k_cons (k_var rfl) k_nil))) ?_
  obtain ⟨e1, e2⟩ := div_unique hb0 e' x0 x1
  unfold qr
  rw [e1, e2]
theorem r28 (hn : n ≤ 8000) (hb : b = b1 * 2 ^ n + b2) (h1 : 0 < b1 ∧ b1 < 2 ^ n) (h2 : 0 ≤ b2 ∧ b2 < 2 ^ n) (ha : 0 ≤ a12 ∧ a12 < b) (h3 : 0 ≤ a3 ∧ a3 < 2 ^ n)
    (h21 : Γ.K 21 [.int a12, .int b1, .int n] ∧ Γ.V 21 [.int a12, .int b1, .int n] = qr a12 b1) :
    s28 Γ (rho28 a12 a3 b b1 b2 n .undef .undef) fun fl _ => fl = .ret (qr (a12 * 2 ^ n + a3) b) := by
  have hp : (0 : Int) < 2 ^ n := Int.pow_pos (by decide)
  have hb0 : 0 < b := by rw [hb]; exact Int.add_pos_of_pos_of_nonneg (Int.mul_pos h1.1 hp) h2.1
  have bb1 := bits_of_lt (Int.le_of_lt h1.1) h1.2
  have hbb : b < 2 ^ (n + n) := by rw [hb, Int.pow_add]; exact add_mul_lt h2.2 h1.2 (Int.le_of_lt hp)
  have le1 : ∀ {x : Int}, 0 < x → x ≤ x * 2 ^ n := fun h => by have := Int.mul_le_mul_of_nonneg_left (show 1 ≤ (2 : Int) ^ n from hp) (Int.le_of_lt h); rwa [Int.mul_one] at this
  have hs : okI (dBin .RShift (dVar 0) (dVar 5)) (rho28 a12 a3 b b1 b2 n .undef .undef) (a12 / 2 ^ n) := k_shrp (k_var rfl) (k_var rfl)
  by_cases hc : a12 / 2 ^ n = b1
  · refine q_yes (beq_iff_eq.mpr hc ▸ k_eq hs (k_var rfl)) (q_many (k_tup (k_cons (k_sub (k_op k_int (k_var rfl) (shl_of2 (m := 1) (by decide) (Nat.le_trans (Nat.add_le_add_left hn 1) (by decide)))) k_int) (k_cons (k_add (k_sub (k_var rfl) (k_op (k_var rfl) (k_var rfl) (shl_of2 bb1 (two_bits hn hn (by decide))))) (k_var rfl)) k_nil))) rfl (q_end ?_))
    have hge : b1 * 2 ^ n ≤ a12 := by rw [← hc]; exact Int.ediv_mul_le _ (Int.ne_of_gt hp)
    refine tail28 (q := 1 * 2 ^ n - 1) (r := a12 - b1 * 2 ^ n + b1) hn hb hb0 h2 h3 ?_ ⟨Int.add_nonneg (Int.sub_nonneg_of_le hge) (Int.le_of_lt h1.1), ?_⟩ ⟨by rw [Int.one_mul]; exact Int.sub_nonneg_of_le (show (1 : Int) ≤ 2 ^ n from hp), by rw [Int.one_mul]; exact Int.sub_lt_self _ (by decide)⟩ ?_
    · rw [Int.one_mul, Int.sub_mul, Int.one_mul, Int.mul_comm b1]; (first | lia | omega)
    · exact Int.lt_of_le_of_lt (Int.le_trans (Int.add_le_add_left (le1 h1.1) _) (Int.le_of_eq (Int.sub_add_cancel ..))) (Int.lt_trans ha.2 hbb)
    · have e : (a12 - b1 * 2 ^ n + b1) * 2 ^ n + a3 - (1 * 2 ^ n - 1) * b2 = a12 * 2 ^ n + a3 - b * 2 ^ n + b := by
        rw [Int.one_mul, Int.sub_mul _ _ b2, Int.one_mul, Int.add_mul, Int.sub_mul, hb, Int.add_mul, Int.mul_comm b2]
        generalize (2 : Int) ^ n * b2 = X
        generalize b1 * 2 ^ n * 2 ^ n = Z
        generalize a12 * 2 ^ n = U
        omega
      rw [e]
      have := Int.add_lt_add_right (Int.sub_neg_of_lt (add_mul_lt h3.2 ha.2 (Int.le_of_lt hp))) b
      rwa [Int.zero_add] at this
  · refine q_not (beq_eq_false_iff_ne.mpr hc ▸ k_eq hs (k_var rfl)) (q_many (k_call (k_cons (k_var rfl) (k_cons (k_var rfl) (k_cons (k_var rfl) k_nil))) h21.1 h21.2) rfl (q_end ?_))
    obtain ⟨m1, m2⟩ := fmod_pos (x := a12) h1.1
    have e := Int.mul_fdiv_add_fmod a12 b1
    have q0 := (fdiv_pos (x := a12) h1.1 ha.1).1
    have hlt : a12 < b1 * 2 ^ n := by
      have l1 : a12 / 2 ^ n < b1 + 1 := Int.ediv_lt_of_lt_mul hp (by rw [Int.add_mul, Int.one_mul]; exact Int.lt_trans ha.2 (by rw [hb]; exact Int.add_lt_add_left h2.2 _))
      have l2 : a12 / 2 ^ n < b1 := Int.lt_iff_le_and_ne.mpr ⟨Int.le_of_lt_add_one l1, hc⟩
      exact Int.lt_mul_of_ediv_lt hp l2
    have q1 : a12.fdiv b1 < 2 ^ n := by
      rw [Int.fdiv_eq_ediv_of_nonneg _ (Int.le_of_lt h1.1)]
      exact Int.ediv_lt_of_lt_mul h1.1 (by rw [Int.mul_comm]; exact hlt)
    refine tail28 (q := a12.fdiv b1) (r := a12.fmod b1) hn hb hb0 h2 h3 (by rw [Int.mul_comm]; exact e.symm) ⟨m1, ?_⟩ ⟨q0, q1⟩ ?_
    · exact Int.lt_trans m2 (Int.lt_of_lt_of_le h1.2 (by rw [Int.pow_add]; exact le1 hp))
    · exact Int.lt_of_le_of_lt (Int.sub_le_self _ (Int.mul_nonneg q0 h2.1)) (Int.lt_of_lt_of_le (add_mul_lt h3.2 m2 (Int.le_of_lt hp)) (by rw [hb]; exact Int.le_add_of_nonneg_right h2.1))
end
theorem qr_twice {a b : Int} (hb : 0 < b) : (a * 2 ^ 1).fdiv (b * 2 ^ 1) = a.fdiv b ∧ ((a * 2 ^ 1).fmod (b * 2 ^ 1)).fdiv 2 = a.fmod b := by
  obtain ⟨m1, m2⟩ := fmod_pos (x := a) hb
  have e := Int.mul_fdiv_add_fmod a b
  obtain ⟨e1, e2⟩ := div_unique (a := a * 2 ^ 1) (b := b * 2 ^ 1) (q := a.fdiv b) (r := a.fmod b * 2 ^ 1) (Int.mul_pos hb (by decide)) (by rw [Int.mul_comm b] at e; rw [← Int.mul_assoc, ← Int.add_mul, e]) (Int.mul_nonneg m1 (by decide)) (Int.mul_lt_mul_of_pos_right m2 (by decide))
  rw [e1, e2]
  refine ⟨rfl, ?_⟩
  rw [Int.fdiv_eq_ediv_of_nonneg _ (by decide)]
  exact Int.mul_ediv_cancel (a.fmod b) (by decide : (2 : Int) ≠ 0)
section
variable {C : Cx} {G : Str → Option Value} {X : Addr → List PV → PV} {hG : GOk C G}
/-- int_divmod, of numbers that are not long -/
theorem Pylong.divmod (Y : Pylong C G X hG) {a b : Int} (hb : b ≠ 0) (h1 : bits a ≤ 100000) (h2 : bits b ≤ 2000) : ConAt C 26 142 56 [.int a, .int b] (qr a b) :=
  Y.dm hb h1 (Nat.le_refl _) rfl (Nat.le_trans h2 (by decide)) fun b' h0 hbn x x0 x1 => by
    have hu := lt_of_bits (Int.le_of_lt h0) (Nat.le_of_eq hbn)
    have hx : bits x ≤ bits b + bits b := bits_of_lt x0 (Int.lt_of_lt_of_le x1 (by rw [Int.pow_add]; exact Int.mul_le_mul_of_nonneg_right (Int.le_of_lt hu) (Int.pow_nonneg (by decide))))
    exact (Y.c21 (D := 19) (U := 121) (by decide) (r21 (Int.sub_right_le_of_le_add (Int.ofNat_le.mpr (show bits x ≤ 4000 + bits b from Nat.le_trans hx (Nat.add_le_add_right (Nat.le_trans h2 (by decide)) _)))) ⟨Int.ne_of_gt h0, noPl (Nat.le_of_eq hbn) (Nat.le_trans h2 (by decide)) (Int.ne_of_gt h0)⟩)).mono (by decide) (by decide)
end

end
end Mine
namespace Mine
section
open PySem.Calls
set_option maxRecDepth 100000
noncomputable def t41 : Tab := ⟨41, 37, 47, 4, "_digits2int.<locals>.inner"⟩
noncomputable def t34 : Tab := ⟨34, 30, 32, 4, "_int2digits.<locals>.inner"⟩
variable {C : Cx} {P : Params}
noncomputable def freeCheck (scope sc : Scope) : Bool := scope.names.all fun p => !(p.2 == .free) || sc.names.lookup p.1 == some .cell
theorem freeCheck_ok {scope sc : Scope} (h : freeCheck scope sc = true) : ∀ x, (x, NameKind.free) ∈ scope.names → sc.names.lookup x = some .cell := fun x hx => by
  have := List.all_eq_true.mp h _ hx
  simpa using this
theorem d2i (X : Addr → List PV → PV) (hK : C.K = hd.heap_39 P) (ht : t41 ∈ C.tabs) (hu : ∀ t' ∈ C.tabs, t'.P = t41.P → t' = t41) (hG : GOk C G04) {D U w B k : Nat} {M : Int} {ds : List Int} (hw : 0 < w) (hM : 0 ≤ M) (hB : bits M ≤ B) (hds : ∀ d ∈ ds, 0 ≤ d ∧ d ≤ M) (hlen : ds.length ≤ 16777216) (hbb : B + 2 * (w * ds.length) ≤ 100000000)
    (hk : ds.length ≤ 2 ^ k) (hD : k + 1 ≤ D) (hU : 64 + 3 * k + 3 ≤ U) : ConAt C (D + 1) (U + 3) 42 [.lst (zs ds), .int w] (.int (worth w ds)) := by
  refine con_inner (Γ := fxOf C nmD G04 X hG D U (by (first | lia | omega))) (φ := ⟨_, t41.qual, _, _, _, ["L", "R"], [3, 4]⟩) (t := t41) (fa := 42) (ps := ["digits", "n"]) (is := [0, 1]) (iN := 2) (k := k) (V := wD w ds) (κ := kD ds) (b := (tVal (dVar 0)).v) (kt := (tVal (dVar 0)).k) (vs := (lCons (dInt 0) (lCons (dLen (bVar 0)) lNil)).v) (kes := (lCons (dInt 0) (lCons (dLen (bVar 0)) lNil)).k) (v := (dInt 0).v) (kel := (dInt 0).k) (nw := false) (fun f => rhoD ds w f)
    (by show C.K.lookup 42 = _; rw [hK]; rfl) (by show keepIn C.K _ = _; rw [hK]; rfl) (by show codeIn C.K _ _ = _; rw [hK]; rfl) (by rfl) (by exact bindN fun x y => rfl) (by rfl) rfl (fun L => { tab := ht, un := hu, code := rfl, qual := rfl, line := rfl, col := rfl, d0 := rfl, k0 := rfl, ann := rfl, qn := by rfl, tgt := ⟨⟨_, by rfl, .inr rfl⟩, by rfl, by rfl⟩, free := freeCheck_ok (by rfl) })
    { sc := by rfl, bind := fun clos vals doc pm c' ctv => (by revert vals; exact bindN fun x y => rfl), is := by rfl } (fun f i q => ?_) ?_ ?_ ?_ hD hU kD_0 (fun Γ' f k e1 e2 h1 h2 pvs hk => ⟨?_, true, sD Γ', ?_, sD_ok h1 h2 hw hM hB hds hlen hbb hk⟩) fun f => ?_
  · match i, q with
    | 0, _ => exact ⟨rfl, trivial, "digits", rfl, by rfl⟩
    | 1, _ => exact ⟨rfl, trivial, "n", rfl, by rfl⟩
    | 2, _ => exact ⟨rfl, trivial, "inner", rfl, by rfl⟩
    | i + 3, q => exact absurd (get_nil i) q
  · exact good_tst (a := tVal (dVar 0)) (o := comp _ g04 (fun _ _ e => e) 60 _ _) (by rfl)
  · exact good_lst (a := lCons (dInt 0) (lCons (dLen (bVar 0)) lNil)) (o := compL _ (comp _ g04 (fun _ _ e => e) 60) _ _) (by rfl)
  · exact fun ρ A e₀ h₀ env X h _ x s tk => wpAny_Constant_int (T.mk (tk := tk + 1) (.refl _ _) x.act.tab ⟨⟨_, rfl⟩, nofun⟩)
  · obtain ⟨l, r, rfl, _⟩ := hk
    rfl
  · obtain ⟨C', nm', G', V, K, D, U, a1, a2, a3⟩ := Γ'
    have e1 : nm' = nmD := e1
    have e2 : G' = G04 := e2
    subst e1 e2
    exact good_of (o := compSs _ _ (compS _ g04 [] _ (fun _ _ e => e) 20) _) (by rfl)
  · show (True ∧ _) ∧ _
    cases ds with
    | nil => exact ⟨⟨trivial, rfl⟩, trivial, rfl⟩
    | cons d ds =>
      have hl : (zs (d :: ds)).length ≤ 16777216 := by rw [List.length_map]; exact hlen
      refine ⟨⟨trivial, if_pos hl⟩, ⟨trivial, ⟨trivial, hl⟩, trivial⟩, ⟨0, (d :: ds).length, ?_, Nat.succ_pos _, Nat.le_refl _, Nat.succ_ne_zero _, hk⟩, ?_⟩
      · show [PV.int 0, .int ((zs (d :: ds)).length)] = _
        rw [List.length_map]; rfl
      · show worth w (((d :: ds).drop (0 : Int).toNat).take (((zs (d :: ds)).length : Int).toNat - (0 : Int).toNat)) = _
        rw [List.length_map, Int.toNat_natCast]
        show worth w (((d :: ds)).take (d :: ds).length) = _
        rw [List.take_length]
theorem i2d (X : Addr → List PV → PV) (hK : C.K = hd.heap_39 P) (ht : t34 ∈ C.tabs) (hu : ∀ t' ∈ C.tabs, t'.P = t34.P → t' = t34) (hG : GOk C G04) {D U k : Nat} {a w : Int} {ds : List Int} (hD : k ≤ D) (hU : 64 + 3 * k ≤ U) (hd : digP a w k = some ds) : ConAt C (D + 1) (U + 3) 35 [.int a, .int w] (.lst (zs ds)) := by
  refine con_digits (Γ := fxOf C nmI G04 X hG D U (by (first | lia | omega))) (φ := ⟨sInner, t34.qual, _, _, _, ["x", "L", "R"], [3, 4, 5]⟩) (t := t34) (fa := 35) (k := k) (by show C.K.lookup 35 = _; rw [hK]; rfl) (by show keepIn C.K _ = _; rw [hK]; rfl) (by show codeIn C.K _ _ = _; rw [hK]; rfl) (by rfl) (by exact bindN fun x y => rfl) rfl
    ⟨_, _, _, _, _, _, _, _, _, rfl, good_of (o := compSs _ _ (compS _ g04 [0] _ (fun _ _ e => e) 20) _) (by rfl), good_tst (o := comp _ g04 (fun _ _ e => e) 60 _ _) (by rfl), good_lst (o := compL _ (comp _ g04 (fun _ _ e => e) 60) _ _) (by rfl)⟩
    { form := ⟨_, _, _, _, _, _, _, _, _, _, _, _, _, _, _, _, rfl, fun Γ e1 e2 => ?_⟩, free := ⟨by rfl, by rfl, by rfl⟩, kind := by rfl, is := rfl, ps := rfl }
    (fun L => { tab := ht, un := hu, code := rfl, qual := rfl, line := rfl, col := rfl, d0 := rfl, k0 := rfl, ann := rfl, qn := by rfl, tgt := ⟨⟨_, by rfl, .inr rfl⟩, by rfl, by rfl⟩, free := freeCheck_ok (by rfl) })
    { sc := by rfl, bind := fun clos vals doc pm c' ctv => (by revert vals; exact bindN fun x y z => rfl), is := by rfl } ⟨by rfl, ⟨_, by rfl, rfl⟩, by rfl⟩ ⟨by rfl, ⟨_, by rfl, rfl⟩, by rfl⟩ hD hU hd
  obtain ⟨C', nm', G', V, K, D, U, a1, a2, a3⟩ := Γ
  have e1 : nm' = nmI := e1
  have e2 : G' = G04 := e2
  subst e1 e2
  exact ⟨good_tst (o := comp _ g04 (fun _ _ e => e) 60 _ _) (by rfl), good_of (o := compSs _ _ (compS _ g04 [] _ (fun _ _ e => e) 20) _) (by rfl), good_of (o := compSs _ _ (compS _ g04 [] _ (fun _ _ e => e) 20) _) (by rfl),
    good_lst (o := compL _ (comp _ g04 (fun _ _ e => e) 60) _ _) (by rfl), good_lst (o := compL _ (comp _ g04 (fun _ _ e => e) 60) _ _) (by rfl)⟩
variable {X : Addr → List PV → PV}
theorem con21 {D U : Nat} {a b c r : PV} (hK : C.K = hd.heap_39 P) (hG : GOk C G04) (h64 : 64 ≤ U) (hr : s21 (fxOf C nm21 G04 X hG D U h64) ([.val a, .val b, .val c] ++ List.replicate 8 .undef) fun fl _ => fl = .ret r) : ConAt C (D + 1) (U + 3) 21 [a, b, c] r := by
  refine con_of (Γ := fxOf C nm21 G04 X hG D U h64) (f := 21) (ps := ["a", "b", "n"]) (is := [0, 1, 2]) (st := true) (S := s21 (fxOf C nm21 G04 X hG D U h64)) 8 (by show C.K.lookup 21 = _; rw [hK]; rfl) (by show keepIn C.K _ = _; rw [hK]; rfl) (by show codeIn C.K _ _ = _; rw [hK]; rfl) (by rfl) (by exact bindN fun x y z => rfl) (by rfl) rfl (good_of (o := compSs _ _ (compS _ g04 [] _ (fun _ _ e => e) 20) _) (by kernel_rfl)) hr
theorem con28 {D U : Nat} {a b c d e f r : PV} (hK : C.K = hd.heap_39 P) (hG : GOk C G04) (h64 : 64 ≤ U) (hr : s28 (fxOf C nm28 G04 X hG D U h64) ([.val a, .val b, .val c, .val d, .val e, .val f] ++ List.replicate 2 .undef) fun fl _ => fl = .ret r) : ConAt C (D + 1) (U + 3) 28 [a, b, c, d, e, f] r := by
  refine con_of (Γ := fxOf C nm28 G04 X hG D U h64) (f := 28) (ps := ["a12", "a3", "b", "b1", "b2", "n"]) (is := [0, 1, 2, 3, 4, 5]) (st := true) (S := s28 (fxOf C nm28 G04 X hG D U h64)) 2 (by show C.K.lookup 28 = _; rw [hK]; rfl) (by show keepIn C.K _ = _; rw [hK]; rfl) (by show codeIn C.K _ _ = _; rw [hK]; rfl) (by rfl) (by exact bindN fun a b c d e f => rfl) (by rfl) rfl (good_of (o := compSs _ _ (compS _ g04 [] _ (fun _ _ e => e) 20) _) (by kernel_rfl)) hr
theorem con49 {D U : Nat} {a b r : PV} (hK : C.K = hd.heap_39 P) (hG : GOk C G04) (h64 : 64 ≤ U) (hr : s49 (fxOf C nm49 G04 X hG D U h64) ([.val a, .val b] ++ List.replicate 7 .undef) fun fl _ => fl = .ret r) : ConAt C (D + 1) (U + 3) 49 [a, b] r := by
  refine con_of (Γ := fxOf C nm49 G04 X hG D U h64) (f := 49) (ps := ["a", "b"]) (is := [0, 1]) (st := false) (S := s49 (fxOf C nm49 G04 X hG D U h64)) 7 (by show C.K.lookup 49 = _; rw [hK]; rfl) (by show keepIn C.K _ = _; rw [hK]; rfl) (by show codeIn C.K _ _ = _; rw [hK]; rfl) (by rfl) (by exact bindN fun x y => rfl) (by rfl) rfl (good_of (o := compSs _ _ (compS _ g04 [5] _ (fun _ _ e => e) 20) _) (by rfl)) hr
theorem con56 {D U : Nat} {a b r : PV} (hK : C.K = hd.heap_39 P) (hG : GOk C G04) (h64 : 64 ≤ U) (hr : s56 (fxOf C nm56 G04 X hG D U h64) [.val a, .val b] fun fl _ => fl = .ret r) : ConAt C (D + 1) (U + 3) 56 [a, b] r := by
  refine con_of (Γ := fxOf C nm56 G04 X hG D U h64) (f := 56) (ps := ["a", "b"]) (is := [0, 1]) (st := true) (S := s56 (fxOf C nm56 G04 X hG D U h64)) 0 (by show C.K.lookup 56 = _; rw [hK]; rfl) (by show keepIn C.K _ = _; rw [hK]; rfl) (by show codeIn C.K _ _ = _; rw [hK]; rfl) (by rfl) (by exact bindN fun x y => rfl) (by rfl) rfl (good_of (o := compSs _ _ (compS _ g04 [] _ (fun _ _ e => e) 20) _) (by rfl)) hr
theorem pylong04 (hK : C.K = hd.heap_39 P) (h41 : t41 ∈ C.tabs) (h34 : t34 ∈ C.tabs) (hu : ∀ t ∈ C.tabs, ∀ t' ∈ C.tabs, t'.P = t.P → t' = t) (hG : GOk C G04) : Pylong C G04 X hG where
  c35 := fun hD hU hd => i2d X hK h34 (fun t' h => hu _ h34 t' h) hG hD hU hd
  c42 := fun hw hM hB hds hlen hbb hk hD hU => d2i X hK h41 (fun t' h => hu _ h41 t' h) hG hw hM hB hds hlen hbb hk hD hU
  c21 := fun h64 hr => con21 hK hG h64 hr
  c28 := fun h64 hr => con28 hK hG h64 hr
  c49 := fun h64 hr => con49 hK hG h64 hr
  c56 := fun h64 hr => con56 hK hG h64 hr
-- nought refused
section
variable {Γ : Fx} {h₀ h h' : Heap} {A : Around} {sc : Scope} {e : Env} {ρ : PEnv} {X₀ Y : List Addr} {t : PEnv → Bool} {k ka kb kc : PEnv → Prop} {va vb : PEnv → PV} {na nb : Bool}
/-- a body that begins with: if test: raise ZeroDivisionError -/
theorem raise_if {l : PySem.Expr} {els rest : List Stmt} {x : Str} {np rp ip : Pos} (ht : GoodT Γ sc l t k) (hx : IsGlob Γ sc x (.type "ZeroDivisionError")) (hk : k ρ) (htr : t ρ = true) (S : ST Γ A e h₀ sc X₀ Y ρ h) (s : Shared) (tk : Nat) :
    wpAny Γ.C.M A (execs (.If l [.Raise (some (.Name x np)) none rp] els ip :: rest) e) (fun _ _ => False) (fun x s' => ∃ h' tk', s' = Sh s h' tk' ∧ Thrown Γ.C A e h true x h') (Sh s h tk) :=
  wpAny_execs_cons (wpAny_If ((ht ρ A e h₀ e Y h hk S.xc).go fun c h1 tk1 k1 t1 r => by
    rw [show c = true from r.trans htr]
    refine wpAny_execs_cons (raise_cls S.xc.act.hh PySem.F.excCall_ZeroDivisionError PyProof.Rows.excClass_ZeroDivisionError PySem.F.self_ZeroDivisionError (wpAny_mono (name_glob (Q := fun v s₁ => v = .type "ZeroDivisionError" ∧ s₁ = Sh s h1 tk1) hx (S.xc.step k1 t1) ⟨rfl, rfl⟩) (fun v s₁ z => ⟨z.1, tk1, z.2⟩) fun _ _ f => f.elim) fun h' a tk2 mk => ?_)
    obtain ⟨u, e1, e2, e3⟩ := mk.there
    exact ⟨h', tk2, rfl, a, h1, rfl, k1, t1, .inl ⟨.ref u, _, mk.keeps, mk.new, e1, rfl, rfl, fun _ => ⟨u, rfl, _, _, e3, rfl, rfl⟩⟩⟩))
/-- a body that is: return (a // b, …), where b is nought -/
theorem raise_div {l r : PySem.Expr} {es : List PySem.Expr} {j : Nat} {p tp ip : Pos} (ha : ∃ n, Good Γ sc l n va ka) (hb : ∃ n, Good Γ sc r n vb kb) {x : Int} (h1 : ka ρ) (h2 : kb ρ) (e1 : va ρ = .int x) (e2 : vb ρ = .int 0) (S : ST Γ A e h₀ sc X₀ Y ρ h) (s : Shared) (tk : Nat) :
    wpAny Γ.C.M A (execs [.Return (some (.Tuple (.BinOp l .FloorDiv r p :: es) j tp)) ip] e) (fun _ _ => False) (fun x s' => ∃ h' tk', s' = Sh s h' tk' ∧ Thrown Γ.C A e h false x h') (Sh s h tk) :=
  wpAny_execs_cons (wpAny_Return_some (wpAny_Tuple (by
    obtain ⟨_, ha⟩ := ha
    obtain ⟨_, hb⟩ := hb
    rw [starEach_cons (fun _ _ q => by cases q)]
    refine Calls.spliced_cons (wpAny_BinOp ((ha ρ A e h₀ e Y h h1 S.xc).go fun v h3 tk3 k3 t3 r3 => (hb ρ A e h₀ e Y h3 h2 (S.xc.step k3 t3)).go fun u h4 tk4 k4 t4 r4 => ?_))
    have r3 := r3.1
    have r4 := r4.1
    rw [e1] at r3
    rw [e2] at r4
    obtain ⟨t5, rfl⟩ := r3
    obtain ⟨t6, rfl⟩ := r4
    refine AutoIntOps.floordiv_0 rfl ⟨S.xc.act.hh, fun h' tk' a mk => ?_⟩
    obtain ⟨ob, u, q1, q2, q3⟩ := mk.there
    exact ⟨h', tk', rfl, a, h4, rfl, k3.trans k4, t4, .inl ⟨u, ob, mk.keeps, mk.new, q1, q2, q3, fun q => by cases q⟩⟩)))
/-- a body that begins with: if test: return f(…), where f gives an error -/
theorem raise_call {l : PySem.Expr} {els rest : List Stmt} {es : List PySem.Expr} {vs : PEnv → List PV} {fn : Str} {p cp rp ip : Pos} {bare : Bool} (ht : GoodT Γ sc l t k) (ha : ∃ n, Good Γ sc (.Name fn p) n va ka) (hl : GoodL Γ sc es vs kc) (hk : k ρ) (htr : t ρ = true) (h1 : ka ρ) (h2 : isF (va ρ)) (h3 : kc ρ) (R : RaisesAt Γ.C Γ.D Γ.U (fnA (va ρ)) (vs ρ) bare) (S : ST Γ A e h₀ sc X₀ Y ρ h) (s : Shared) (tk : Nat) :
    wpAny Γ.C.M A (execs (.If l [.Return (some (.Call (.Name fn p) es [] cp)) rp] els ip :: rest) e) (fun _ _ => False) (fun x s' => ∃ h' tk', s' = Sh s h' tk' ∧ Thrown Γ.C A e h bare x h') (Sh s h tk) :=
  wpAny_execs_cons (wpAny_If ((ht ρ A e h₀ e Y h hk S.xc).go fun c h1' tk1 k1 t1 r => by
    rw [show c = true from r.trans htr]
    obtain ⟨_, ha⟩ := ha
    refine wpAny_execs_cons (wpAny_Return_some (wpAny_mono (r_call (Q := fun _ _ => False) ha hl h1 h2 h3 R (S.xc.step k1 t1) s tk1) (fun _ _ f => f.elim) fun x s' ⟨a, a0, B, h', tk', outer, ex, es', hfr, F⟩ => ?_))
    exact ⟨h', tk', es', a, h1', ex, k1, t1, .inr ⟨outer, a0, B, hfr, F⟩⟩))
end
theorem raise56 {D U : Nat} (h64 : 64 ≤ U) (hr : C.rb = C.base) (hK : C.K = hd.heap_39 P) (hG : GOk C G04) (a : Int) : RaisesAt C (D + 1) (U + 3) 56 [.int a, .int 0] true := by
  refine raises_by (Γ := fxOf C nm56 G04 (fun _ _ => .none) hG D U h64) (f := 56) (ps := ["a", "b"]) (is := [0, 1]) hr (by show C.K.lookup 56 = _; rw [hK]; rfl) (by show keepIn C.K _ = _; rw [hK]; rfl) (by show codeIn C.K _ _ = _; rw [hK]; rfl) (by rfl) (by exact bindN fun x y => rfl) (by rfl) rfl fun A L g X' h S s tk => ?_
  have h0 : okT (tCmp .Eq (dVar 1) (dInt 0)) [.val (.int a), .val (.int 0)] true := k_eq (x := 0) (y := 0) (k_var rfl) k_int
  exact raise_if (t := (tCmp .Eq (dVar 1) (dInt 0)).v) (k := (tCmp .Eq (dVar 1) (dInt 0)).k) (good_tst (o := comp _ g04 (fun _ _ e => e) 60 _ _) (by rfl)) ⟨by rfl, by rfl, by rfl⟩ h0.1 h0.2 S s tk
theorem raise70 {D U : Nat} (h64 : 64 ≤ U) (hr : C.rb = C.base) (hK : C.K = hd.heap_39 P) (hG : GOk C G04) (a : Int) : RaisesAt C (D + 1) (U + 3) 70 [.int a, .int 0] false := by
  refine raises_by (Γ := fxOf C nm70 G04 (fun _ _ => .none) hG D U h64) (f := 70) (ps := ["x", "y"]) (is := [0, 1]) hr (by show C.K.lookup 70 = _; rw [hK]; rfl) (by show keepIn C.K _ = _; rw [hK]; rfl) (by show codeIn C.K _ _ = _; rw [hK]; rfl) (by rfl) (by exact bindN fun x y => rfl) (by rfl) rfl fun A L g X' h S s tk => ?_
  exact raise_div (ρ := [.val (.int a), .val (.int 0)]) (x := a) (va := (dVar 0).v) (ka := (dVar 0).k) (vb := (dVar 1).v) (kb := (dVar 1).k) (good_val (a := dVar 0) (o := comp _ g04 (fun _ _ e => e) 60 _ _) (by rfl)) (good_val (a := dVar 1) (o := comp _ g04 (fun _ _ e => e) 60 _ _) (by rfl)) trivial trivial rfl rfl S s tk
theorem raise77 {D U : Nat} (h64 : 64 ≤ U) (hr : C.rb = C.base) (hK : C.K = hd.heap_39 P) (hG : GOk C G04) (a : Int) : RaisesAt C (D + 1 + 1) (U + 3 + 3) 77 [.int a, .int 0] false := by
  refine raises_by (Γ := fxOf C nm77 G04 (fun _ _ => .none) hG (D + 1) (U + 3) (by (first | lia | omega))) (f := 77) (ps := ["x", "y"]) (is := [0, 1]) hr (by show C.K.lookup 77 = _; rw [hK]; rfl) (by show keepIn C.K _ = _; rw [hK]; rfl) (by show codeIn C.K _ _ = _; rw [hK]; rfl) (by rfl) (by exact bindN fun x y => rfl) (by rfl) rfl fun A L g X' h S s tk => ?_
  have h0 : okT e77_1 [.val (.int a), .val (.int 0)] true := k_eq (x := 0) (y := 0) (k_var rfl) k_int
  exact raise_call (t := e77_1.v) (k := e77_1.k) (good_tst (o := comp _ g04 (fun _ _ e => e) 60 _ _) (by rfl)) (va := (dFn 70).v) (ka := (dFn 70).k) (good_val (a := dFn 70) (o := comp _ g04 (fun _ _ e => e) 60 _ _) (by rfl)) (good_lst (a := lCons (dVar 0) (lCons (dVar 1) lNil)) (o := compL _ (comp _ g04 (fun _ _ e => e) 60) _ _) (by rfl)) h0.1 h0.2 trivial trivial ⟨trivial, trivial, trivial⟩ (raise70 h64 hr hK hG a) S s tk

end
end Mine
namespace Mine
section
open PySem.Calls
noncomputable def gcdI (x y : Int) : Int := (Int.gcd x y : Nat)
noncomputable def SS2 (x y : Int) : Prop := (0 < x ∧ 0 < y) ∨ (x < 0 ∧ y < 0)
theorem fmod_neg (x y : Int) : x.fmod y = -((-x).fmod (-y)) := by rw [Int.neg_fmod_neg, Int.neg_neg]
theorem fm_sign {x y : Int} (h : y ≠ 0) : (0 ≤ x.fmod y ∧ x.fmod y < y) ∨ (y < x.fmod y ∧ x.fmod y ≤ 0) := by
  rcases Int.lt_or_gt_of_ne h with h | h
  · have := fmod_pos (x := -x) (b := -y) (Int.neg_pos_of_neg h)
    rw [fmod_neg x y]
    exact .inr ⟨Int.lt_neg_of_lt_neg this.2, Int.neg_nonpos_of_nonneg this.1⟩
  · exact .inl (fmod_pos h)
theorem fm_lt {x y : Int} (h : y ≠ 0) : (x.fmod y).natAbs < y.natAbs := by
  rcases Int.lt_or_gt_of_ne h with h | h
  · have := fmod_pos (x := -x) (b := -y) (Int.neg_pos_of_neg h)
    rw [fmod_neg, Int.natAbs_neg, ← Int.natAbs_neg y]
    exact Int.natAbs_lt_natAbs_of_nonneg_of_lt this.1 this.2
  · exact Int.natAbs_lt_natAbs_of_nonneg_of_lt (fmod_pos h).1 (fmod_pos h).2
theorem fm_ss {x y : Int} (h : y ≠ 0) : x.fmod y = 0 ∨ SS2 y (x.fmod y) := by
  rcases fm_sign (x := x) h with ⟨q1, q2⟩ | ⟨q1, q2⟩
  · exact (Int.lt_or_eq_of_le q1).elim (fun q => .inr (.inl ⟨Int.lt_of_le_of_lt q1 q2, q⟩)) fun q => .inl q.symm
  · exact (Int.lt_or_eq_of_le q2).elim (fun q => .inr (.inr ⟨Int.lt_of_lt_of_le q1 q2, q⟩)) .inl
theorem fm_abs {x y : Int} (h : SS2 x y) : (x.fmod y).natAbs = x.natAbs % y.natAbs := by
  have key : ∀ {x y : Int}, 0 < x → 0 < y → (x.fmod y).natAbs = x.natAbs % y.natAbs := fun {x y} hx hy => by
    obtain ⟨m, rfl⟩ := Int.eq_ofNat_of_zero_le (Int.le_of_lt hx)
    obtain ⟨n, rfl⟩ := Int.eq_ofNat_of_zero_le (Int.le_of_lt hy)
    rw [Int.fmod_eq_emod_of_nonneg _ (Int.natCast_nonneg n), ← Int.natCast_emod]
    rfl
  rcases h with ⟨h1, h2⟩ | ⟨h1, h2⟩
  · exact key h1 h2
  · rw [fmod_neg, Int.natAbs_neg, key (Int.neg_pos_of_neg h1) (Int.neg_pos_of_neg h2), Int.natAbs_neg, Int.natAbs_neg]
theorem SS2.pos {x y : Int} (h : SS2 x y) : 0 < x.natAbs ∧ 0 < y.natAbs := by
  rcases h with ⟨h1, h2⟩ | ⟨h1, h2⟩
  · exact ⟨Int.natAbs_pos.mpr (Int.ne_of_gt h1), Int.natAbs_pos.mpr (Int.ne_of_gt h2)⟩
  · exact ⟨Int.natAbs_pos.mpr (Int.ne_of_lt h1), Int.natAbs_pos.mpr (Int.ne_of_lt h2)⟩
theorem half_prod {a b k : Nat} (hb : 0 < b) (h : b ≤ a) (hk : a * b < 2 ^ (k + 1)) : b * (a % b) < 2 ^ k := by
  have h3 : b ≤ b * (a / b) := Nat.le_mul_of_pos_right _ ((Nat.one_le_div_iff hb).mpr h)
  have h4 : a % b * 2 ≤ a := by
    rw [Nat.mul_two]
    exact Nat.le_trans (Nat.add_le_add_right (Nat.le_trans (Nat.le_of_lt (Nat.mod_lt a hb)) h3) _) (Nat.le_of_eq (Nat.div_add_mod a b))
  rw [Nat.pow_succ] at hk
  rw [Nat.mul_comm b]
  exact Nat.lt_of_mul_lt_mul_right (a := 2) (Nat.lt_of_le_of_lt (Nat.mul_right_comm .. ▸ Nat.mul_le_mul_right b h4) hk)
theorem gcd_step (x y : Int) : gcdI y (x.fmod y) = gcdI x y := by
  have e := Int.mul_fdiv_add_fmod x y
  have := Int.gcd_add_mul_left_left y (x.fmod y) (x.fdiv y)
  rw [Int.add_comm, e] at this
  unfold gcdI
  rw [this, Int.gcd_comm]
theorem ab_nat (x : Int) : ab x = (x.natAbs : Int) := by
  unfold ab
  split
  · rename_i h; exact (Int.ofNat_natAbs_of_nonpos (Int.le_of_lt h)).symm
  · rename_i h; exact Int.eq_natAbs_of_nonneg (Int.not_lt.mp h)
theorem gcd_nought (x : Int) : ab x = gcdI x 0 := by
  unfold gcdI
  rw [Int.gcd_zero, ab_nat]
theorem fd_abs {x y : Int} (h : y ≠ 0) : (x.fdiv y).natAbs ≤ x.natAbs + 1 := by
  refine Nat.le_succ_of_le ?_
  rcases Int.lt_or_gt_of_ne h with h | h
  · rw [← Int.neg_fdiv_neg, Int.fdiv_eq_ediv_of_nonneg _ (Int.le_of_lt (Int.neg_pos_of_neg h)), ← Int.natAbs_neg x]
    exact Int.natAbs_ediv_le_natAbs ..
  · rw [Int.fdiv_eq_ediv_of_nonneg _ (Int.le_of_lt h)]
    exact Int.natAbs_ediv_le_natAbs ..
theorem bits_abs {x : Int} {B : Nat} (h : x.natAbs < 2 ^ B) : bits x ≤ B := bits_le.mpr h
section
variable {Γ : Fx} {f : Addr} {bare : Bool} {Q : Fl → PEnv → Prop}
noncomputable abbrev rho84 (f : Addr) (x y : Int) (b3 b4 b5 : Bind) : PEnv := [.val (.fn f), .val (.int x), .val (.int y), b3, b4, b5]
/-- what a division within a bound is to give -/
structure Dv (Γ : Fx) (f : Addr) (bare : Bool) (n : Nat) : Prop where
  d : ∀ x y : Int, y ≠ 0 → x.natAbs < 2 ^ n → y.natAbs < 2 ^ n → Γ.K f [.int x, .int y] ∧ Γ.V f [.int x, .int y] = qr x y
  z : ∀ x : Int, x.natAbs < 2 ^ n → RaisesAt Γ.C Γ.D Γ.U f [.int x, .int 0] bare
theorem step84 {n : Nat} (hn : n ≤ 1000) (H : Dv Γ f bare n) {x y d : Int} {L : List Int} {b3 b4 b5 : Bind} (hy : y ≠ 0) (h1 : x.natAbs < 2 ^ n) (h2 : y.natAbs < 2 ^ n) (h : fe (.one 3) (b84_4 Γ bare) (zs L) (rho84 f y (x.fmod y) (.val (.int d)) (.val (.int (x.fdiv y))) (.val (.int (x.fmod y)))) Q) : fe (.one 3) (b84_4 Γ bare) (zs (d :: L)) (rho84 f x y b3 b4 b5) Q := by
  obtain ⟨k, v⟩ := H.d x y hy h1 h2
  have e := Int.mul_fdiv_add_fmod x y
  rw [Int.mul_comm] at e
  have bq : bits (x.fdiv y) ≤ n + 1 := bits_abs (Nat.lt_of_le_of_lt (Nat.le_trans (fd_abs hy) h1) (Nat.pow_lt_pow_right (by decide) (Nat.lt_succ_self n)))
  have by' : bits y ≤ n := bits_abs h2
  refine ⟨trivial, q_try1 rfl (k_cons (k_var rfl) (k_cons (k_var rfl) k_nil)) k v rfl (q_many (us := [.int y, .int (x.fmod y)]) (k_ift ?_ (k_tup (k_cons (k_var rfl) (k_cons (k_var rfl) k_nil)))) rfl h)⟩
  refine k_tand (beq_iff_eq.mpr e.symm ▸ k_eq (k_var rfl) (k_add (k_mul (k_var rfl) (k_var rfl) (Nat.le_trans (Nat.add_le_add bq by') (Nat.le_trans (Nat.add_le_add (Nat.succ_le_succ hn) hn) (by decide)))) (k_var rfl))) (k_tand ?_ k_yes)
  rcases fm_sign (x := x) hy with ⟨q1, q2⟩ | ⟨q1, q2⟩
  · exact k_ort (k_chI (q1 := true) (q2 := true) k_int (k_var rfl) (k_var rfl) (congrArg some (decide_eq_true q1)) (congrArg some (decide_eq_true q2)))
  · refine k_or (Bool.and_false _ ▸ k_chI (q2 := false) k_int (k_var rfl) (k_var rfl) rfl (congrArg some (decide_eq_false (Int.not_lt.mpr (Int.le_of_lt q1))))) (k_ort (k_chI (q1 := true) (q2 := true) (k_var rfl) (k_var rfl) k_int (congrArg some (decide_eq_true q1)) (congrArg some (decide_eq_true q2))))
theorem loop84 {n : Nat} (hn : n ≤ 1000) (H : Dv Γ f bare n) {g : Int} (hQ : ∀ ρ, Q (.ret (.int g)) ρ) : ∀ (k : Nat) (L : List Int) (x y : Int) (b3 b4 b5 : Bind), x.natAbs < 2 ^ n → y.natAbs < 2 ^ n → (y = 0 ∨ (SS2 x y ∧ y.natAbs ≤ x.natAbs)) → x.natAbs * y.natAbs < 2 ^ k → k + 1 ≤ L.length → gcdI x y = g → fe (.one 3) (b84_4 Γ bare) (zs L) (rho84 f x y b3 b4 b5) Q := by
  intro k
  induction k with
  | zero =>
    intro L x y b3 b4 b5 h1 h2 hs hk hl hg
    have hy : y = 0 := by
      rcases hs with q | ⟨q, _⟩
      · exact q
      · exact absurd (Nat.lt_one_iff.mp hk) (Nat.ne_of_gt (Nat.mul_pos q.pos.1 q.pos.2))
    subst hy
    cases L with
    | nil => cases hl
    | cons d L => exact ⟨trivial, q_try1z rfl (k_cons (k_var rfl) (k_cons (k_var rfl) k_nil)) (H.z x h1) rfl (by rw [gcd_nought, hg]; exact hQ _)⟩
  | succ k ih =>
    intro L x y b3 b4 b5 h1 h2 hs hk hl hg
    cases L with
    | nil => cases hl
    | cons d L =>
      by_cases hy : y = 0
      · subst hy
        exact ⟨trivial, q_try1z rfl (k_cons (k_var rfl) (k_cons (k_var rfl) k_nil)) (H.z x h1) rfl (by rw [gcd_nought, hg]; exact hQ _)⟩
      · obtain ⟨q, hle⟩ := hs.resolve_left hy
        have hlt := fm_lt (x := x) hy
        refine step84 hn H hy h1 h2 (ih L _ _ _ _ _ h2 (Nat.lt_trans hlt h2) ((fm_ss hy).imp id fun z => ⟨z, Nat.le_of_lt hlt⟩) ?_ (by simpa using hl) (by rw [gcd_step]; exact hg))
        rw [fm_abs q]
        exact half_prod q.pos.2 hle hk
/-- Euclid's run -/
theorem r84 {n : Nat} (hn : n ≤ 48) (H : Dv Γ f bare n) {x y : Int} (h1 : x.natAbs < 2 ^ n) (h2 : y.natAbs < 2 ^ n) : s84 Γ bare ([.val (.fn f), .val (.int x), .val (.int y)] ++ List.replicate 3 .undef) fun fl _ => fl = .ret (.int (gcdI x y)) := by
  refine q_for (k_range k_int ⟨by decide, by decide⟩) ?_
  have e : rng 0 1 (Builtin.Range.rangeSize 0 99 1).toNat = 0 :: (rng 0 1 (Builtin.Range.rangeSize 0 99 1).toNat).drop 1 := by decide
  rw [e]
  by_cases hy : y = 0
  · subst hy
    exact ⟨trivial, q_try1z rfl (k_cons (k_var rfl) (k_cons (k_var rfl) k_nil)) (H.z x h1) rfl (by rw [gcd_nought]; exact rfl)⟩
  · have hlt := fm_lt (x := x) hy
    refine step84 (Nat.le_trans hn (by decide)) H hy h1 h2 (loop84 (Nat.le_trans hn (by decide)) H (g := gcdI x y) (fun _ => rfl) (n + n) _ _ _ _ _ _ h2 (Nat.lt_trans hlt h2) ((fm_ss hy).imp id fun z => ⟨z, Nat.le_of_lt hlt⟩) ?_ ?_ (gcd_step x y))
    · rw [Nat.pow_add]
      exact Nat.mul_lt_mul'' h2 (Nat.lt_trans hlt h2)
    · have : ((rng 0 1 (Builtin.Range.rangeSize 0 99 1).toNat).drop 1).length = 98 := by decide
      rw [this]; exact Nat.le_trans (Nat.succ_le_succ (Nat.add_le_add hn hn)) (by decide)
end

end
end Mine
namespace Mine
section
open PySem.Calls
set_option backward.match.sparseCases false
theorem slc_map {α β : Type} (f : α → β) (l : List α) (lo hi st : Option Int) : slc (l.map f) lo hi st = (slc l lo hi st).map f := by
  unfold slc
  rw [List.length_map]
  generalize sliceRange (sliceBounds lo hi st l.length).1 (sliceBounds lo hi st l.length).2.1 (sliceBounds lo hi st l.length).2.2 = r
  induction r with
  | nil => rfl
  | cons i r ih =>
    rw [List.filterMap_cons, List.filterMap_cons, List.getElem?_map]
    cases l[i]? with
    | none => exact ih
    | some x => exact congrArg (f x :: ·) ih
noncomputable abbrev nz (l : List Nat) : List Int := l.map fun (n : Nat) => (n : Int)
noncomputable abbrev nzs (l : List Nat) : List PV := zs (nz l)
noncomputable def rowsP (rs : List (List Nat)) : List PV := rs.map fun r => .lst (nzs r)
noncomputable def natL (l : List PV) : List Nat := l.map fun v => (asI v).toNat
theorem natL_nzs : ∀ l : List Nat, natL (nzs l) = l
  | [] => rfl
  | n :: l => congrArg (n :: ·) (natL_nzs l)
noncomputable def natR (l : List PV) : List (List Nat) := l.map fun r => natL (asL r)
theorem natR_rowsP : ∀ rs : List (List Nat), natR (rowsP rs) = rs
  | [] => rfl
  | r :: rs => by
    show natL (nzs r) :: natR (rowsP rs) = _
    rw [natL_nzs, natR_rowsP rs]
noncomputable def commN : List Nat → Nat
  | [a, b] => Nat.lcm a b
  | [a] => a
  | _ => 0
noncomputable def measN : List Nat → Nat
  | [a, b] => Nat.gcd a b
  | [a] => a
  | _ => 0
noncomputable def bel (rs : List (List Nat)) (h p : Nat) : List Nat := if h = 0 then [1] else slc (rs.getD (h - 1) []) (some (p : Int)) (some ((p : Int) + 2)) none
noncomputable def abv (rs : List (List Nat)) (w h p : Nat) : List Nat := if h + 1 < rs.length then slc (rs.getD (h + 1) []) (some (mx ((p : Int) - 1) 0)) (some ((p : Int) + 1)) none else [w]
noncomputable def tog (rs : List (List Nat)) (w h p : Nat) : List (List Nat) := rs.set h ((rs.getD h []).set p (commN (bel rs h p) * measN (abv rs w h p) / (rs.getD h []).getD p 0))
noncomputable def lapF (rs : List (List Nat)) (w : Nat) (order : List Nat) : List (List Nat) := order.foldl (fun rs h => (List.range (rs.getD h []).length).foldl (fun rs p => tog rs w h p) rs) rs
noncomputable section
noncomputable def V84 : List PV → PV
  | [_, .int x, .int y] => .int (gcdI x y)
  | _ => .none
noncomputable def V91 : List PV → PV
  | [_, .int w, .int p, _] => .int (w / p)
  | _ => .none
noncomputable def V98 : List PV → PV
  | [_, .lst row, _] => .int (commN (natL row) : Nat)
  | _ => .none
noncomputable def V103 : List PV → PV
  | [_, .lst rows, .int w, .lst order, _] => .lst (rowsP (lapF (natR rows) w.toNat (natL order)))
  | _ => .none
/-- rows out of a list of figures -/
noncomputable def triF {α : Type} : Nat → List α → List (List α)
  | 0, _ => []
  | m + 1, l => l.take (m + 1) :: triF m (l.drop (m + 1))
noncomputable def V108 : List PV → PV
  | [.lst l, .int side] => .lst ((triF (side - 1).toNat l).map .lst)
  | _ => .none
noncomputable def V118 : List PV → PV
  | [.lst rows] => .lst (rows.map fun r => .lst (asL r).reverse)
  | _ => .none
/-- the law's functions; c, d: the cells and the triangle drawn from them; o: what is told -/
noncomputable def X04 (c d : PV) (o : Int → PV) (f : Addr) (l : List PV) : PV :=
  if f = 70 then Vqr l else if f = 77 then Vqr l else if f = 84 then V84 l else if f = 91 then V91 l else if f = 98 then V98 l else if f = 103 then V103 l else if f = 108 then V108 l else if f = 118 then V118 l else
  if f = 63 then c else if f = 113 then d else if f = 125 then (match l with
    | [_, _, .int k, _] => o k
    | _ => .none) else .none
end
section
variable {Γ : Fx} {f : Addr} {bare : Bool} {Q : Fl → PEnv → Prop}
theorem sgn_div {w p F S : Int} (hw : 0 ≤ w) (hp : 0 < p) (hd : p ∣ w) (hF : F = w ∨ F = -w) (hS : S = p ∨ S = -p) : ∃ q, qr F S = .tup [.int q, .int 0] ∧ q * S = F ∧ ab q = w / p := by
  obtain ⟨k, rfl⟩ := hd
  have hk : 0 ≤ k := Int.le_of_mul_le_mul_left (a := p) (by rw [Int.mul_zero]; exact hw) hp
  have e : p * k / p = k := Int.mul_ediv_cancel_left k (Int.ne_of_gt hp)
  have key : ∀ q, q * S = F → ab q = k → ∃ q, qr F S = .tup [.int q, .int 0] ∧ q * S = F ∧ ab q = p * k / p := fun q h1 h2 => by
    have hS0 : S ≠ 0 := by
      rcases hS with rfl | rfl
      · exact Int.ne_of_gt hp
      · exact Int.neg_ne_zero.mpr (Int.ne_of_gt hp)
    refine ⟨q, ?_, h1, by rw [e]; exact h2⟩
    unfold qr
    rw [← h1, Int.mul_fdiv_cancel q hS0, Int.mul_fmod_left]
  have a1 : ab k = k := (ab_nat k).trans (Int.natAbs_of_nonneg hk)
  have a2 : ab (-k) = k := (ab_nat _).trans (by rw [Int.natAbs_neg]; exact Int.natAbs_of_nonneg hk)
  rcases hF with rfl | rfl <;> rcases hS with rfl | rfl
  · exact key k (Int.mul_comm ..) a1
  · exact key (-k) (by rw [Int.neg_mul_neg, Int.mul_comm]) a2
  · exact key (-k) (by rw [Int.neg_mul, Int.mul_comm]) a2
  · exact key k (by rw [Int.mul_neg, Int.mul_comm]) a1
theorem fmod2 (t : Int) : t.fmod 2 = 0 ∨ t.fmod 2 = 1 := Int.fmod_two_eq t
theorem pm_abs {F : Int} {w : Nat} (h : F = w ∨ F = -w) : F.natAbs = w := by
  rcases h with rfl | rfl
  · exact Int.natAbs_natCast w
  · rw [Int.natAbs_neg, Int.natAbs_natCast]
/-- a number, turned below nought or not -/
theorem k_turn {ρ : PEnv} {a b : MV} {t x : Int} (p : okI a ρ t) (q : okI b ρ x) : ∃ F, okI (dIf (tVal (dBin .Mod a (dInt 2))) (dUn .USub b) b) ρ F ∧ (F = x ∨ F = -x) := by
  have h := k_tint (k_mod p (k_int (x := 2)) (by decide))
  rcases fmod2 t with z | z <;> rw [z] at h
  · exact ⟨x, k_iff h q, .inl rfl⟩
  · exact ⟨-x, k_ift h (k_neg q), .inr rfl⟩
/-- a share -/
theorem r91 {n : Nat} (hn : n ≤ 1000) (H : Dv Γ f bare n) {w p : Nat} {t : Int} (hp : 0 < p) (hd : p ∣ w) (h1 : w < 2 ^ n) (h2 : p < 2 ^ n) : s91 Γ ([.val (.fn f), .val (.int w), .val (.int p), .val (.int t)] ++ List.replicate 4 .undef) fun fl _ => fl = .ret (.int ((w : Int) / (p : Int))) := by
  obtain ⟨F, k1, e1⟩ := k_turn (ρ := [.val (.fn f), .val (.int w), .val (.int p), .val (.int t)] ++ List.replicate 4 .undef) (a := dVar 3) (b := dVar 1) (k_var rfl) (k_var rfl)
  obtain ⟨S, k2, e2⟩ := k_turn (ρ := [.val (.fn f), .val (.int w), .val (.int p), .val (.int t)] ++ List.replicate 4 .undef) (a := dBin .FloorDiv (dVar 3) (dInt 2)) (b := dVar 2) (k_fdiv (k_var rfl) (k_int (x := 2)) ⟨by decide, noPl (B := 2) (by decide) (by decide) (by decide)⟩) (k_var rfl)
  obtain ⟨q, d1, d2, d3⟩ := sgn_div (w := w) (p := p) (F := F) (S := S) (Int.natCast_nonneg _) (Int.natCast_pos.mpr hp) (Int.natCast_dvd_natCast.mpr hd) e1 e2
  have hS0 : S ≠ 0 := Int.natAbs_pos.mp (by rw [pm_abs e2]; exact hp)
  obtain ⟨kk, kv⟩ := H.d F S hS0 (by rw [pm_abs e1]; exact h1) (by rw [pm_abs e2]; exact h2)
  rw [d1] at kv
  have eq : q.natAbs * p = w := by rw [← pm_abs e1, ← d2, Int.natAbs_mul, pm_abs e2]
  have hq : q.natAbs ≤ w := eq ▸ Nat.le_mul_of_pos_right q.natAbs hp
  refine q_many (us := [.int F, .int S]) (k_tup (k_cons k1 (k_cons k2 k_nil))) rfl (q_many (us := [.int q, .int 0]) (k_ift ?_ (k_callV rfl (k_cons (k_var rfl) (k_cons (k_var rfl) k_nil)) kk kv)) rfl (q_ret (k_ift (k_tand (k_eq (x := 0) (y := 0) (k_var rfl) k_int) (k_tand (beq_iff_eq.mpr d2 ▸ k_eq (k_mul (k_var rfl) (k_var rfl) ?_) (k_var rfl)) k_yes)) (k_abs (k_var rfl))) ?_))
  · have h := k_tint (ρ := puts ([.val (.fn f), .val (.int w), .val (.int p), .val (.int t)] ++ List.replicate 4 .undef) [4, 5] [.int F, .int S]) (a := dVar 2) (x := (p : Int)) (k_var rfl)
    rwa [show ((p : Int) != 0) = true from bne_iff_ne.mpr (Int.ne_of_gt (Int.natCast_pos.mpr hp))] at h
  · exact two_bits (bits_abs (Nat.lt_of_le_of_lt hq h1)) (bits_abs (by rw [pm_abs e2]; exact h2)) (Nat.le_trans hn (by decide))
  · rw [d3]
/-- the common multiple of a row of one or two -/
structure Row1 (l : List Nat) (c : Nat) : Prop where
  one : (∃ x, l = [x]) ∨ ∃ x y, l = [x, y]
  pos : ∀ x ∈ l, 0 < x ∧ x < c
theorem two_pow_lt {a b m n : Nat} (h1 : a < 2 ^ m) (h2 : b < 2 ^ n) : a * b < 2 ^ (m + n) := by rw [Nat.pow_add]; exact Nat.mul_lt_mul'' h1 h2
theorem gcd_cast (x y : Nat) : gcdI (x : Int) (-(y : Int)) = ((Nat.gcd x y : Nat) : Int) := by
  unfold gcdI
  rw [Int.gcd_neg]; rfl
theorem gcd_cast' (x y : Nat) : gcdI (-(x : Int)) (y : Int) = ((Nat.gcd x y : Nat) : Int) := by
  unfold gcdI
  rw [Int.neg_gcd]; rfl
theorem share_lcm {x y : Nat} : ((x : Int) * (y : Int)) / ((Nat.gcd x y : Nat) : Int) = ((Nat.lcm x y : Nat) : Int) := by
  rw [← Int.natCast_mul, ← Int.natCast_ediv]; rfl
/-- the calls that are asked of a row's measure and multiple -/
structure Cm (Γ : Fx) (f : Addr) (n : Nat) : Prop where
  m : ∀ x y : Int, x.natAbs < 2 ^ n → y.natAbs < 2 ^ n → Γ.K 84 [.fn f, .int x, .int y] ∧ Γ.V 84 [.fn f, .int x, .int y] = .int (gcdI x y)
  s : ∀ (w p : Nat) (t : Int), 0 < p → p ∣ w → w < 2 ^ (n + n) → p < 2 ^ n → Γ.K 91 [.fn f, .int w, .int p, .int t] ∧ Γ.V 91 [.fn f, .int w, .int p, .int t] = .int ((w : Int) / (p : Int))
theorem k_row_len {ρ : PEnv} {i : Nat} {l : List Nat} (h : get ρ i = .val (.lst (nzs l))) (hl : l.length ≤ 2) : okT (tCmp .Eq (dLen (bVar i)) (dInt 2)) ρ ((l.length : Int) == 2) := by
  have := k_eq (k_len (k_bvar h) (by rw [List.length_map, List.length_map]; exact Nat.le_trans hl (by decide))) (k_int (x := 2))
  rw [List.length_map, List.length_map] at this
  exact this
theorem r98 {n : Nat} (hn : n ≤ 1000) (H : Cm Γ f n) {l : List Nat} {t : Int} (hl : Row1 l (2 ^ n)) : s98 Γ [.val (.fn f), .val (.lst (nzs l)), .val (.int t)] fun fl _ => fl = .ret (.int (commN l : Nat)) := by
  have i0 : ∀ {ρ : PEnv} {x : Nat} {l : List Nat}, get ρ 1 = .val (.lst (nzs (x :: l))) → okI (dItem (bVar 1) (dInt 0)) ρ (x : Int) := fun h => k_item (k_bvar h) k_int (j := 0) (idx_nat' (i := 0) (Nat.succ_pos _) (by decide)) rfl
  have i1 : ∀ {ρ : PEnv} {x y : Nat} {l : List Nat}, get ρ 1 = .val (.lst (nzs (x :: y :: l))) → okI (dItem (bVar 1) (dInt 1)) ρ (y : Int) := fun h => k_item (k_bvar h) k_int (j := 1) (idx_nat' (i := 1) (Nat.succ_lt_succ (Nat.succ_pos _)) (by decide)) rfl
  rcases hl.one with ⟨x, rfl⟩ | ⟨x, y, rfl⟩
  · exact q_ret (k_iff (k_row_len (l := [x]) rfl (by simp)) (i0 rfl)) rfl
  · obtain ⟨x0, x1⟩ := hl.pos x (.head _)
    obtain ⟨y0, y1⟩ := hl.pos y (.tail _ (.head _))
    obtain ⟨m1, m2⟩ := H.m (x : Int) (-(y : Int)) x1 (by rw [Int.natAbs_neg]; exact y1)
    rw [gcd_cast] at m2
    have g0 : 0 < Nat.gcd x y := Nat.gcd_pos_of_pos_left _ x0
    obtain ⟨s1, s2⟩ := H.s (x * y) (Nat.gcd x y) t g0 (Nat.dvd_trans (Nat.gcd_dvd_left x y) (Nat.dvd_mul_right x y)) (two_pow_lt x1 y1) (Nat.lt_of_le_of_lt (Nat.le_of_dvd x0 (Nat.gcd_dvd_left x y)) x1)
    rw [Int.natCast_mul] at s1 s2
    rw [share_lcm] at s2
    refine q_ret (k_ift (k_row_len (l := [x, y]) rfl (by simp)) (k_call (k_cons (k_var rfl) (k_cons (k_mul (i0 rfl) (i1 rfl) ?_) (k_cons (k_call (k_cons (k_var rfl) (k_cons (i0 rfl) (k_cons (k_neg (i1 rfl)) k_nil))) m1 m2) (k_cons (k_var rfl) k_nil)))) s1 s2)) rfl
    exact two_bits (bits_natc x1) (bits_natc y1) (Nat.le_trans hn (by decide))
end

end
end Mine
namespace Mine
section
open PySem.Calls
/-- a number of the triangle beside those below and above it, that may be turned -/
structure TogOk (n : Nat) (bl al : List Nat) (old : Nat) : Prop where
  b : Row1 bl (2 ^ n)
  a : Row1 al (2 ^ n)
  o : 0 < old ∧ old < 2 ^ n
  d : old ∣ commN bl * measN al
  c : commN bl < 2 ^ n
  m : measN al < 2 ^ n
noncomputable abbrev rho103 (f : Addr) (b1 : Bind) (w : Nat) (od : List PV) (t : Int) (b5 b6 b7 b8 b9 b10 : Bind) : PEnv := [.val (.fn f), b1, .val (.int w), .val (.lst od), .val (.int t), b5, b6, b7, b8, b9, b10]
noncomputable abbrev own2N (rs : List (List Nat)) : Bind := .own2 (rs.map nz)
section
variable {Γ : Fx} {f : Addr} {Q : Fl → PEnv → Prop} {rs : List (List Nat)} {w h p n : Nat} {t : Int} {od : List PV} {b5 b8 b9 b10 : Bind}
theorem getD_some {α : Type} {l : List α} {i : Nat} {x d : α} (h : l[i]? = some x) : l.getD i d = x := by rw [List.getD_eq_getElem?_getD, h]; rfl
theorem k_prev {ρ : PEnv} {a : MV} {k : Nat} (q : okI a ρ ((k + 1 : Nat) : Int)) : okI (dBin .Sub a (dInt 1)) ρ (k : Int) := by
  have := k_sub q (k_int (x := 1))
  rwa [show ((k + 1 : Nat) : Int) - 1 = (k : Int) from Int.add_sub_cancel (k : Int) 1] at this
theorem k_below {ρ : PEnv} (h1 : get ρ 1 = own2N rs) (h6 : get ρ 6 = .val (.int h)) (h7 : get ρ 7 = .val (.int p)) (hh : h < rs.length) (hl : rs.length ≤ 16) (hr : ∀ r ∈ rs, r.length ≤ 16) : ok e103_3 ρ (.lst (nzs (bel rs h p))) := by
  have t6 := k_tint (k_var h6)
  cases h with
  | zero => exact k_iff t6 (k_list (k_cons (k_int (x := 1)) k_nil))
  | succ k =>
    obtain ⟨ys, hy⟩ : ∃ ys, rs[k]? = some ys := ⟨_, List.getElem?_eq_getElem (Nat.lt_of_succ_lt hh)⟩
    have hy' : (rs.map nz)[k]? = some (nz ys) := by rw [List.getElem?_map, hy]; rfl
    have hlen := hr ys (List.mem_of_getElem? hy)
    rw [show (((k + 1 : Nat) : Int) != 0) = true from bne_iff_ne.mpr (Int.ne_of_gt (Int.natCast_pos.mpr (Nat.succ_pos k)))] at t6
    have := k_slice (k_row h1 (k_prev (k_var h6)) hy' (by rw [List.length_map]; exact b16 hl)) (k_psome (k_var h7)) (k_psome (k_add (k_var h7) (k_int (x := 2)))) k_pnone (by nofun) (by rw [List.length_map, List.length_map]; exact b16 hlen)
    rw [show zs (nz ys) = nzs ys from rfl, show nzs ys = (ys.map (fun (n : Nat) => (n : Int))).map PV.int from rfl, slc_map, slc_map] at this
    have e : bel rs (k + 1) p = slc ys (some (p : Int)) (some ((p : Int) + 2)) none := by unfold bel; rw [if_neg (Nat.succ_ne_zero k), show k + 1 - 1 = k from rfl, getD_some hy]
    rw [e]
    exact k_ift t6 this
theorem k_above {ρ : PEnv} (h1 : get ρ 1 = own2N rs) (h2 : get ρ 2 = .val (.int w)) (h6 : get ρ 6 = .val (.int h)) (h7 : get ρ 7 = .val (.int p)) (hl : rs.length ≤ 16) (hr : ∀ r ∈ rs, r.length ≤ 16) : ok e103_4 ρ (.lst (nzs (abv rs w h p))) := by
  have hl' : (rs.map nz).length ≤ 16777216 := by rw [List.length_map]; exact b16 hl
  have t6 := k_lt (k_add (k_var h6) (k_int (x := 1))) (k_len2 h1 hl')
  rw [List.length_map] at t6
  unfold abv
  by_cases hc : h + 1 < rs.length
  · obtain ⟨ys, hy⟩ : ∃ ys, rs[h + 1]? = some ys := ⟨_, List.getElem?_eq_getElem hc⟩
    have hy' : (rs.map nz)[h + 1]? = some (nz ys) := by rw [List.getElem?_map, hy]; rfl
    have hlen := hr ys (List.mem_of_getElem? hy)
    rw [decide_eq_true (show (h : Int) + 1 < (rs.length : Int) from Int.ofNat_lt.mpr hc)] at t6
    have := k_slice (k_row (n := h + 1) h1 (k_add (k_var h6) (k_int (x := 1))) hy' hl') (k_psome (k_max (k_sub (k_var h7) (k_int (x := 1))) (k_int (x := 0)))) (k_psome (k_add (k_var h7) (k_int (x := 1)))) k_pnone (by nofun) (by rw [List.length_map, List.length_map]; exact b16 hlen)
    rw [show zs (nz ys) = nzs ys from rfl, show nzs ys = (ys.map (fun (n : Nat) => (n : Int))).map PV.int from rfl, slc_map, slc_map] at this
    rw [if_pos hc, getD_some hy]
    exact k_ift t6 this
  · rw [decide_eq_false (show ¬ (h : Int) + 1 < (rs.length : Int) from (fun q => hc (Int.ofNat_lt.mp q)))] at t6
    rw [if_neg hc]
    exact k_iff t6 (k_list (k_cons (k_var h2) k_nil))
theorem k_most {ρ : PEnv} {al : List Nat} (H : Cm Γ f n) (h0 : get ρ 0 = .val (.fn f)) (h9 : get ρ 9 = .val (.lst (nzs al))) (ha : Row1 al (2 ^ n)) : okI (e103_5 Γ) ρ (measN al : Nat) := by
  have i0 : ∀ {x : Nat} {l : List Nat}, get ρ 9 = .val (.lst (nzs (x :: l))) → okI (dItem (bVar 9) (dInt 0)) ρ (x : Int) := fun h => k_item (k_bvar h) k_int (j := 0) (idx_nat' (i := 0) (Nat.succ_pos _) (by decide)) rfl
  have i1 : ∀ {x y : Nat} {l : List Nat}, get ρ 9 = .val (.lst (nzs (x :: y :: l))) → okI (dItem (bVar 9) (dInt 1)) ρ (y : Int) := fun h => k_item (k_bvar h) k_int (j := 1) (idx_nat' (i := 1) (Nat.succ_lt_succ (Nat.succ_pos _)) (by decide)) rfl
  rcases ha.one with ⟨x, rfl⟩ | ⟨x, y, rfl⟩
  · exact k_iff (k_row_len (l := [x]) h9 (by simp)) (i0 h9)
  · obtain ⟨x0, x1⟩ := ha.pos x (.head _)
    obtain ⟨y0, y1⟩ := ha.pos y (.tail _ (.head _))
    obtain ⟨m1, m2⟩ := H.m (-(x : Int)) (y : Int) (by rw [Int.natAbs_neg]; exact x1) (y1)
    rw [gcd_cast'] at m2
    exact k_ift (k_row_len (l := [x, y]) h9 (by simp)) (k_call (k_cons (k_var h0) (k_cons (k_neg (i0 h9)) (k_cons (i1 h9) k_nil))) m1 m2)
/-- what a row's multiple is asked -/
noncomputable def H98 (Γ : Fx) (f : Addr) (n : Nat) : Prop := ∀ (l : List Nat) (t : Int), Row1 l (2 ^ n) → Γ.K 98 [.fn f, .lst (nzs l), .int t] ∧ Γ.V 98 [.fn f, .lst (nzs l), .int t] = .int (commN l : Nat)
/-- one number turned -/
theorem body103 (hn : n ≤ 1000) (H : Cm Γ f n) (H2 : H98 Γ f n) {xs : List Nat} {old : Nat} (hx : rs[h]? = some xs) (ho : xs[p]? = some old) (T : TogOk n (bel rs h p) (abv rs w h p) old) (hl : rs.length ≤ 16) (hr : ∀ r ∈ rs, r.length ≤ 16)
    (hq : ∀ b8 b9 b10, Q .next (rho103 f (own2N (tog rs w h p)) w od t b5 (.val (.int h)) (.val (.int p)) b8 b9 b10)) : b103_7 Γ (rho103 f (own2N rs) w od t b5 (.val (.int h)) (.val (.int p)) b8 b9 b10) Q := by
  have hh : h < rs.length := (List.getElem?_eq_some_iff.mp hx).1
  have hp : p < xs.length := (List.getElem?_eq_some_iff.mp ho).1
  have hlen := hr xs (List.mem_of_getElem? hx)
  have hx' : (rs.map nz)[h]? = some (nz xs) := by rw [List.getElem?_map, hx]; rfl
  have hl' : (rs.map nz).length ≤ 16777216 := by rw [List.length_map]; exact b16 hl
  obtain ⟨c1, c2⟩ := H2 (bel rs h p) t T.b
  obtain ⟨s1, s2⟩ := H.s (commN (bel rs h p) * measN (abv rs w h p)) old (t + h + p) T.o.1 T.d (two_pow_lt T.c T.m) T.o.2
  rw [← Int.natCast_ediv] at s2
  have bc : bits (commN (bel rs h p) : Int) ≤ n := bits_natc T.c
  have bm : bits (measN (abv rs w h p) : Int) ≤ n := bits_natc T.m
  refine q_set (k_below rfl rfl rfl hh hl hr) (q_set (k_above rfl rfl rfl rfl hl hr) (q_set (k_most (n := n) H rfl rfl T.a) (q_put2 (n := h) (m := p) (xs := nz xs) (z := ((commN (bel rs h p) * measN (abv rs w h p) / old : Nat) : Int)) rfl (k_var rfl) (k_var rfl) ?_ hx' (by rw [List.length_map]; exact hp) hl' (by rw [List.length_map]; exact b16 hlen) ?_)))
  · refine k_call (k_cons (k_var rfl) (k_cons ?_ (k_cons (k_item (k_row (n := h) rfl (k_var rfl) hx' hl') (k_var rfl) (j := p) ?_ ?_) (k_cons (k_add (k_add (k_var rfl) (k_var rfl)) (k_var rfl)) k_nil)))) s1 s2
    · have := k_mul (k_call (k_cons (k_var (i := 0) rfl) (k_cons (k_var (i := 8) rfl) (k_cons (k_var (i := 4) rfl) k_nil))) c1 c2) (k_var (i := 10) rfl) (ρ := put (put (put (rho103 f (own2N rs) w od t b5 (.val (.int h)) (.val (.int p)) b8 b9 b10) 8 (.val (.lst (nzs (bel rs h p))))) 9 (.val (.lst (nzs (abv rs w h p))))) 10 (.val (.int (measN (abv rs w h p) : Nat)))) (two_bits bc bm (Nat.le_trans hn (by decide)))
      rwa [← Int.natCast_mul] at this
    · exact idx_nat' (by rw [List.length_map, List.length_map]; exact hp) (b16 (Nat.le_trans (Nat.le_of_lt hp) hlen))
    · rw [List.getElem?_map, List.getElem?_map, ho]; rfl
  · have e : (rs.map nz).set h ((nz xs).set p ((commN (bel rs h p) * measN (abv rs w h p) / old : Nat) : Int)) = (tog rs w h p).map nz := by
      unfold tog
      rw [getD_some hx, getD_some ho, List.map_set, ← List.map_set]
    rw [e]
    exact hq _ _ _
/-- what holds of a triangle throughout a lap -/
structure Inv (n w : Nat) (I : List (List Nat) → Prop) : Prop where
  len : ∀ rs, I rs → rs.length ≤ 16 ∧ ∀ r ∈ rs, r.length ≤ 16
  tog : ∀ rs, I rs → ∀ h p xs old, rs[h]? = some xs → xs[p]? = some old → TogOk n (bel rs h p) (abv rs w h p) old ∧ I (tog rs w h p)
theorem tog_len (rs : List (List Nat)) (w h p : Nat) : (tog rs w h p).length = rs.length := List.length_set ..
theorem tog_row {rs : List (List Nat)} {w h p : Nat} {xs : List Nat} (hx : rs[h]? = some xs) : ∃ ys, (tog rs w h p)[h]? = some ys ∧ ys.length = xs.length := by
  have hh : h < rs.length := (List.getElem?_eq_some_iff.mp hx).1
  unfold tog
  rw [List.getElem?_set_self hh]
  exact ⟨_, rfl, by rw [List.length_set, getD_some hx]⟩
theorem places103 {I : List (List Nat) → Prop} (hn : n ≤ 1000) (H : Cm Γ f n) (H2 : H98 Γ f n) (hI : Inv n w I) : ∀ (ps : List Nat) (rs : List (List Nat)) (xs : List Nat) (b7 b8 b9 b10 : Bind), I rs → rs[h]? = some xs → (∀ p ∈ ps, p < xs.length) →
    (∀ b7 b8 b9 b10, I (ps.foldl (fun rs p => tog rs w h p) rs) → (ps.foldl (fun rs p => tog rs w h p) rs).length = rs.length → Q .next (rho103 f (own2N (ps.foldl (fun rs p => tog rs w h p) rs)) w od t b5 (.val (.int h)) b7 b8 b9 b10)) →
    fe (.one 7) (b103_7 Γ) (nzs ps) (rho103 f (own2N rs) w od t b5 (.val (.int h)) b7 b8 b9 b10) Q
  | [], rs, xs, b7, b8, b9, b10, i, _, _, q => q b7 b8 b9 b10 i rfl
  | p :: ps, rs, xs, b7, b8, b9, b10, i, hx, hp, q => by
    obtain ⟨old, ho⟩ : ∃ old, xs[p]? = some old := ⟨_, List.getElem?_eq_getElem (hp p (.head _))⟩
    obtain ⟨T, i2⟩ := hI.tog rs i h p xs old hx ho
    obtain ⟨l1, l2⟩ := hI.len rs i
    obtain ⟨ys, hy, hyl⟩ := tog_row (w := w) (p := p) hx
    refine ⟨trivial, body103 hn H H2 hx ho T l1 l2 fun c8 c9 c10 => ?_⟩
    exact places103 hn H H2 hI ps (tog rs w h p) ys _ _ _ _ i2 hy (fun z hz => by rw [hyl]; exact hp z (.tail _ hz)) fun d7 d8 d9 d10 i3 l3 => q d7 d8 d9 d10 i3 (l3.trans (tog_len ..))
theorem range_zs (m : Nat) (hm : m ≤ 16) : krange (m : Int) ∧ zs (rng 0 1 (Builtin.Range.rangeSize 0 (m : Int) 1).toNat) = nzs (List.range m) := by
  have : ∀ m : Nat, m ≤ 16 → (Builtin.Range.small 0 (m : Int) 1 = true ∧ 0 ≤ Builtin.Range.rangeSize 0 (m : Int) 1) ∧ rng 0 1 (Builtin.Range.rangeSize 0 (m : Int) 1).toNat = nz (List.range m) := by decide
  exact ⟨(this m hm).1, congrArg zs (this m hm).2⟩
theorem orders103 {I : List (List Nat) → Prop} (hn : n ≤ 1000) (H : Cm Γ f n) (H2 : H98 Γ f n) (hI : Inv n w I) : ∀ (hs : List Nat) (rs : List (List Nat)) (b6 b7 b8 b9 b10 : Bind), I rs → (∀ h ∈ hs, h < rs.length) →
    (∀ b6 b7 b8 b9 b10, I (lapF rs w hs) → Q .next (rho103 f (own2N (lapF rs w hs)) w od t b5 b6 b7 b8 b9 b10)) →
    fe (.one 6) (b103_8 Γ) (nzs hs) (rho103 f (own2N rs) w od t b5 b6 b7 b8 b9 b10) Q
  | [], rs, b6, b7, b8, b9, b10, i, _, q => q b6 b7 b8 b9 b10 i
  | h :: hs, rs, b6, b7, b8, b9, b10, i, hh, q => by
    obtain ⟨xs, hx⟩ : ∃ xs, rs[h]? = some xs := ⟨_, List.getElem?_eq_getElem (hh h (.head _))⟩
    obtain ⟨l1, l2⟩ := hI.len rs i
    have hxl := l2 xs (List.mem_of_getElem? hx)
    have hx' : (rs.map nz)[h]? = some (nz xs) := by rw [List.getElem?_map, hx]; rfl
    obtain ⟨r1, r2⟩ := range_zs xs.length hxl
    have kl := k_len (k_row (ρ := rho103 f (own2N rs) w od t b5 (.val (.int h)) b7 b8 b9 b10) (i := 1) (n := h) (a := dVar 6) rfl (k_var rfl) hx' (by rw [List.length_map]; exact b16 l1)) (by rw [List.length_map, List.length_map]; exact b16 hxl)
    rw [List.length_map, List.length_map] at kl
    refine ⟨trivial, q_for (r2 ▸ k_range kl r1) ?_⟩
    refine places103 hn H H2 hI (List.range xs.length) rs xs b7 b8 b9 b10 i hx (fun p hp => List.mem_range.mp hp) fun c7 c8 c9 c10 i2 l3 => ?_
    have e : lapF rs w (h :: hs) = lapF ((List.range xs.length).foldl (fun rs p => tog rs w h p) rs) w hs := by
      unfold lapF
      rw [List.foldl_cons, getD_some hx]
    rw [e] at q
    exact orders103 hn H H2 hI hs _ _ _ _ _ _ i2 (fun z hz => by rw [l3]; exact hh z (.tail _ hz)) q
/-- a lap -/
theorem r103 {I : List (List Nat) → Prop} (hn : n ≤ 1000) (H : Cm Γ f n) (H2 : H98 Γ f n) (hI : Inv n w I) {hs : List Nat} (i : I rs) (hh : ∀ h ∈ hs, h < rs.length) : s103 Γ ([.val (.fn f), .val (.lst (rowsP rs)), .val (.int w), .val (.lst (nzs hs)), .val (.int t)] ++ List.replicate 6 .undef) fun fl _ => fl = .ret (.lst (rowsP (lapF rs w hs))) := by
  obtain ⟨l1, l2⟩ := hI.len rs i
  have hmem : ∀ x ∈ rowsP rs, ∃ r, r ∈ rs ∧ x = .lst (nzs r) := fun x hx => let ⟨r, h1, h2⟩ := List.mem_map.mp hx; ⟨r, h1, h2.symm⟩
  refine q_mk2 (xss := rs.map nz) (k_sval (k_var rfl)) (fun _ _ => trivial) id (fun x hx => ?_) ?_ (by unfold rowsP; rw [List.length_map]; exact b16 l1) (fun j => ?_) (q_for (k_sval (k_var rfl)) ?_)
  · obtain ⟨r, hr, rfl⟩ := hmem x hx
    exact ⟨k_listS (k_bvar rfl) (by rw [List.length_map, List.length_map]; have := l2 r hr; exact b16 this), trivial⟩
  · rw [List.map_id, List.map_map]; rfl
  · match j with
    | 0 => exact id
    | 1 => exact id
    | 2 => exact id
    | 3 => exact id
    | 4 => exact id
    | 5 => exact id
    | 6 => exact id
    | 7 => exact id
    | 8 => exact id
    | 9 => exact id
    | 10 => exact id
    | j + 11 => exact id
  · refine orders103 hn H H2 hI hs rs _ _ _ _ _ i hh fun b6 b7 b8 b9 b10 _ => q_ret2 rfl ?_
    rw [List.map_map]; rfl
end

end
end Mine
namespace Mine
section
open PySem.Calls
section
variable {Γ : Fx} {ρ : PEnv} {a b : MV}
theorem k_neb {q r : Bool} (p : ok a ρ (.bool q)) (p' : ok b ρ (.bool r)) : okT (tCmp .NotEq a b) ρ (q != r) := by
  have := k_cmp (op := .NotEq) p p' (by cases q <;> cases r <;> rfl)
  have e : vcmp .NotEq (.bool q) (.bool r) = (q != r) := by cases q <;> cases r <;> rfl
  rwa [e] at this
theorem r70 {x y : Int} {n : Nat} (hn : n ≤ 8999) (hy : y ≠ 0) (h2 : y.natAbs < 2 ^ n) : s70 Γ [.val (.int x), .val (.int y)] fun fl _ => fl = .ret (qr x y) :=
  q_ret (k_tup (k_cons (k_fdiv (k_var rfl) (k_var rfl) ⟨hy, noPl (bits_abs h2) hn hy⟩) (k_cons (k_mod (k_var rfl) (k_var rfl) hy) k_nil))) rfl
theorem div_unique' {a b q r : Int} (hb : b < 0) (e : a = q * b + r) (h0 : r ≤ 0) (h1 : b < r) : a.fdiv b = q ∧ a.fmod b = r := by
  obtain ⟨e1, e2⟩ := div_unique (a := -a) (b := -b) (q := q) (r := -r) (Int.neg_pos_of_neg hb) (by rw [Int.mul_neg, ← Int.neg_add, e]) (Int.neg_nonneg_of_nonpos h0) (Int.neg_lt_neg h1)
  rw [Int.neg_fdiv_neg] at e1
  exact ⟨e1, by rw [fmod_neg, e2, Int.neg_neg]⟩
/-- the quotient and the rest of the sizes, with their signs -/
theorem thirds_end {x y q r : Int} (hy : y ≠ 0) (hq : ab x = q * ab y + r) (h0 : 0 ≤ r) (h1 : r < ab y) :
    (decide (x < 0) != decide (y < 0)) = false ∧ qr x y = .tup [.int q, .int (if 0 < y then r else -r)] ∨
    (decide (x < 0) != decide (y < 0)) = true ∧ (r = 0 ∧ qr x y = .tup [.int (-q), .int (if 0 < y then 0 else -0)] ∨ r ≠ 0 ∧ qr x y = .tup [.int (-q - 1), .int (if 0 < y then ab y - r else -(ab y - r))]) := by
  have fin : ∀ {u v : Int}, (0 < y ∧ x = u * y + v ∧ 0 ≤ v ∧ v < y) ∨ (y < 0 ∧ x = u * y + v ∧ v ≤ 0 ∧ y < v) → qr x y = .tup [.int u, .int v] := fun h => by
    unfold qr
    rcases h with ⟨z, e, p, p'⟩ | ⟨z, e, p, p'⟩
    · obtain ⟨e1, e2⟩ := div_unique z e p p'
      rw [e1, e2]
    · obtain ⟨e1, e2⟩ := div_unique' z e p p'
      rw [e1, e2]
  have r1 : r ≠ 0 → 0 < r := fun q => Int.lt_iff_le_and_ne.mpr ⟨h0, Ne.symm q⟩
  unfold ab at hq h1 ⊢
  by_cases yx : y < 0
  · have yn : ¬ 0 < y := Int.not_lt.mpr (Int.le_of_lt yx)
    rw [if_pos yx] at hq h1 ⊢
    rw [if_neg yn, if_neg yn, if_neg yn, decide_eq_true yx]
    rw [Int.mul_neg] at hq
    by_cases xx : x < 0
    · rw [if_pos xx] at hq
      rw [decide_eq_true xx]
      exact .inl ⟨rfl, fin (.inr ⟨yx, by rw [← Int.neg_neg x, hq, Int.neg_add, Int.neg_neg], Int.neg_nonpos_of_nonneg h0, Int.lt_neg_of_lt_neg h1⟩)⟩
    · rw [if_neg xx] at hq
      rw [decide_eq_false xx]
      refine .inr ⟨rfl, ?_⟩
      by_cases r0 : r = 0
      · exact .inl ⟨r0, fin (.inr ⟨yx, by rw [hq, r0, Int.neg_mul]; rfl, Int.le_refl _, yx⟩)⟩
      · exact .inr ⟨r0, fin (.inr ⟨yx, by rw [hq, Int.sub_mul, Int.neg_mul, Int.one_mul, Int.neg_sub, Int.sub_neg, Int.add_comm r y, ← Int.add_assoc, Int.sub_add_cancel], Int.neg_nonpos_of_nonneg (Int.sub_nonneg_of_le (Int.le_of_lt h1)), Int.lt_neg_of_lt_neg (Int.sub_lt_self _ (r1 r0))⟩)⟩
  · have yp : 0 < y := Int.lt_iff_le_and_ne.mpr ⟨Int.not_lt.mp yx, Ne.symm hy⟩
    rw [if_neg yx] at hq h1 ⊢
    rw [if_pos yp, if_pos yp, if_pos yp, decide_eq_false yx]
    by_cases xx : x < 0
    · rw [if_pos xx] at hq
      rw [decide_eq_true xx]
      refine .inr ⟨rfl, ?_⟩
      by_cases r0 : r = 0
      · exact .inl ⟨r0, fin (.inl ⟨yp, by rw [← Int.neg_neg x, hq, r0, Int.add_zero, Int.neg_mul, Int.add_zero], Int.le_refl _, yp⟩)⟩
      · exact .inr ⟨r0, fin (.inl ⟨yp, by rw [← Int.neg_neg x, hq, Int.neg_add, Int.sub_mul, Int.neg_mul, Int.one_mul, ← Int.add_sub_assoc, Int.sub_add_cancel, Int.sub_eq_add_neg], Int.sub_nonneg_of_le (Int.le_of_lt h1), Int.sub_lt_self _ (r1 r0)⟩)⟩
    · rw [if_neg xx] at hq
      rw [decide_eq_false xx]
      exact .inl ⟨rfl, fin (.inl ⟨yp, hq, h0, h1⟩)⟩
noncomputable abbrev rho77 (x y : Int) (h p : Nat) (d q r : Int) (b7 b8 : Bind) : PEnv := [.val (.int x), .val (.int y), .val (.int h), .val (.int p), .val (.int d), .val (.int q), .val (.int r), b7, b8]
noncomputable def H28' (Γ : Fx) (h : Nat) : Prop := ∀ a12 a3 b b1 b2 : Int, b = b1 * 2 ^ h + b2 → 0 < b1 ∧ b1 < 2 ^ h → 0 ≤ b2 ∧ b2 < 2 ^ h → 0 ≤ a12 ∧ a12 < b → 0 ≤ a3 ∧ a3 < 2 ^ h →
  Γ.K 28 [.int a12, .int a3, .int b, .int b1, .int b2, .int h] ∧ Γ.V 28 [.int a12, .int a3, .int b, .int b1, .int b2, .int h] = qr (a12 * 2 ^ h + a3) b
theorem long_step {V d g T : Int} (hd : 0 < d) : ((V.fmod d) * T + g).fdiv d + V.fdiv d * T = (V * T + g).fdiv d ∧ ((V.fmod d) * T + g).fmod d = (V * T + g).fmod d := by
  have e1 := Int.mul_fdiv_add_fmod V d
  have e2 := Int.mul_fdiv_add_fmod (V.fmod d * T + g) d
  obtain ⟨m1, m2⟩ := fmod_pos (x := V.fmod d * T + g) hd
  have e3 : V * T = d * V.fdiv d * T + V.fmod d * T := by rw [← Int.add_mul, e1]
  obtain ⟨u1, u2⟩ := div_unique (a := V * T + g) (q := (V.fmod d * T + g).fdiv d + V.fdiv d * T) (r := (V.fmod d * T + g).fmod d) hd (by
    rw [e3, Int.add_mul, Int.mul_comm _ d, Int.mul_right_comm (V.fdiv d), Int.mul_comm (V.fdiv d) d, Int.add_assoc, Int.add_comm (d * (V.fmod d * T + g).fdiv d), Int.add_assoc, e2]) m1 m2
  exact ⟨u1.symm, u2.symm⟩
theorem loop77 {x y d : Int} {h p : Nat} {Q : Fl → PEnv → Prop} (hh : 0 < h ∧ h ≤ 100) (hd : 0 < d) (hb1 : 0 < d / 2 ^ h ∧ d / 2 ^ h < 2 ^ h) (H : H28' Γ h) :
    ∀ (L : List Int) (V : Int) (m : Nat) (b7 b8 : Bind), 0 ≤ V → V < 2 ^ m → m + h * L.length ≤ 10000 → (∀ g ∈ L, 0 ≤ g ∧ g < 2 ^ h) →
    (∀ b7 b8, Q .next (rho77 x y h p d ((L.foldl (fun v g => v * 2 ^ h + g) V).fdiv d) ((L.foldl (fun v g => v * 2 ^ h + g) V).fmod d) b7 b8)) → fe (.one 7) (b77_10 Γ) (zs L) (rho77 x y h p d (V.fdiv d) (V.fmod d) b7 b8) Q
  | [], V, m, b7, b8, _, _, _, _, q => q b7 b8
  | g :: L, V, m, b7, b8, v0, v1, hm, hg, q => by
    obtain ⟨g0, g1⟩ := hg g (.head _)
    have hp0 : (0 : Int) < 2 ^ h := Int.pow_pos (by decide)
    obtain ⟨m1, m2⟩ := fmod_pos (x := V) hd
    have eb : d = d / 2 ^ h * 2 ^ h + d % 2 ^ h := by have := Int.mul_ediv_add_emod d (2 ^ h); rw [Int.mul_comm] at this; exact this.symm
    obtain ⟨k1, k2⟩ := H (V.fmod d) g d (d / 2 ^ h) (d % 2 ^ h) eb hb1 ⟨Int.emod_nonneg _ (Int.ne_of_gt hp0), Int.emod_lt_of_pos _ hp0⟩ ⟨m1, m2⟩ ⟨g0, g1⟩
    obtain ⟨s1, s2⟩ := long_step (V := V) (g := g) (T := 2 ^ h) hd
    obtain ⟨f1, f2⟩ := fdiv_pos (x := V) hd v0
    have bq : bits (V.fdiv d) ≤ m := bits_of_lt f1 (Int.lt_of_le_of_lt f2 v1)
    rw [List.length_cons, Nat.mul_succ] at hm
    have vp : 0 ≤ V * 2 ^ h := Int.mul_nonneg v0 (Int.le_of_lt hp0)
    have sh1 : okI (dBin .LShift (dInt 1) (dVar 2)) (rho77 x y h p d (V.fdiv d) (V.fmod d) (.val (.int g)) b8) (2 ^ h) := by
      have := k_op (a := dInt 1) (b := dVar 2) (ρ := rho77 x y h p d (V.fdiv d) (V.fmod d) (.val (.int g)) b8) k_int (k_var rfl) (shl_of2 (x := 1) (n := h) (m := 1) (by decide) (Nat.le_trans (Nat.add_le_add_left hh.2 1) (by decide)))
      rwa [Int.one_mul] at this
    have md : okI (dBin .Mod (dVar 4) (dBin .LShift (dInt 1) (dVar 2))) (rho77 x y h p d (V.fdiv d) (V.fmod d) (.val (.int g)) b8) (d % 2 ^ h) := by
      have := k_mod (a := dVar 4) (k_var rfl) sh1 (Int.ne_of_gt hp0)
      rwa [Int.fmod_eq_emod_of_nonneg _ (Int.le_of_lt hp0)] at this
    refine ⟨trivial, q_many (k_call (k_cons (k_var rfl) (k_cons (k_var rfl) (k_cons (k_var rfl) (k_cons (k_shrp (k_var rfl) (k_var rfl)) (k_cons md (k_cons (k_var rfl) k_nil)))))) k1 k2) rfl (q_set (k_add (k_op (k_var rfl) (k_var rfl) (shl_of2 bq (Nat.le_trans (Nat.add_le_add_left (Nat.le_add_left h _) m) (Nat.le_trans hm (by decide))))) (k_var rfl)) ?_)⟩
    rw [Int.add_comm (V.fdiv d * 2 ^ h), s1, s2]
    refine loop77 hh hd hb1 H L (V * 2 ^ h + g) (m + h) _ _ (Int.add_nonneg vp g0) ?_ (by rw [Nat.add_assoc, Nat.add_comm h]; exact hm) (fun z hz => hg z (.tail _ hz)) q
    rw [Int.pow_add]; exact add_mul_lt g1 v1 (Int.le_of_lt hp0)
theorem fold_worth {h : Nat} : ∀ L : List Int, L.reverse.foldl (fun v g => v * 2 ^ h + g) 0 = worth h L
  | [] => rfl
  | d :: L => by
    rw [List.reverse_cons, List.foldl_append, fold_worth L]
    exact Int.add_comm ..
theorem half_up {B n : Nat} (B0 : 0 < B) (hn : B ≤ n) (hn' : n ≤ 100) : ∃ h p, h = (B + 1) / 2 ∧ p = 2 * h - B ∧ B ≤ 2 * h ∧ B + p = h + h ∧ p ≤ 1 ∧ 0 < h ∧ h ≤ 100 := by
  have h1 : 2 * ((B + 1) / 2) ≤ B + 1 := Nat.mul_div_le ..
  have h2 : B + 1 < 2 * ((B + 1) / 2 + 1) := Nat.lt_mul_div_succ _ (by decide)
  have h3 : B ≤ 2 * ((B + 1) / 2) := Nat.le_of_lt_succ (Nat.lt_of_succ_lt_succ h2)
  exact ⟨_, _, rfl, rfl, h3, by rw [Nat.add_sub_cancel' h3, Nat.two_mul], Nat.sub_le_of_le_add (Nat.le_trans h1 (Nat.le_of_eq (Nat.add_comm B 1))), Nat.div_pos (Nat.succ_le_succ B0) (by decide), Nat.le_trans (Nat.div_le_div_right (Nat.succ_le_succ (Nat.le_trans hn hn'))) (by decide)⟩
/-- division by thirds -/
theorem r77 {x y : Int} {n : Nat} (hn : n ≤ 100) (hy : y ≠ 0) (h1 : x.natAbs < 2 ^ n) (h2 : y.natAbs < 2 ^ n) (H : ∀ h, 0 < h → h ≤ 100 → H28' Γ h)
    (H35 : ∀ (a : Int) (w : Nat) (ds : List Int), digP a w 18 = some ds → Γ.K 35 [.int a, .int w] ∧ Γ.V 35 [.int a, .int w] = .lst (zs ds)) :
    s77 Γ ([.val (.int x), .val (.int y)] ++ List.replicate 7 .undef) fun fl _ => fl = .ret (qr x y) := by
  have ay : 0 < ab y := by rw [ab_nat]; exact Int.natCast_pos.mpr (Int.natAbs_pos.mpr hy)
  have ax : 0 ≤ ab x := by rw [ab_nat]; exact Int.natCast_nonneg _
  have ny : (ab y).natAbs = y.natAbs := by rw [ab_nat, Int.natAbs_natCast]
  have nx : (ab x).natAbs = x.natAbs := by rw [ab_nat, Int.natAbs_natCast]
  have bx : bits (ab x) ≤ n := bits_abs (by rw [nx]; exact h1)
  have by' : bits (ab y) ≤ n := bits_abs (by rw [ny]; exact h2)
  have B0 := bits_pos ay
  generalize hB : bits (ab y) = B at by' B0
  obtain ⟨h, p, hh, hp, hBh, hB2⟩ := half_up B0 by' hn
  have eh : ((B : Int) + 1).fdiv 2 = (h : Int) := by rw [Int.fdiv_eq_ediv_of_nonneg _ (by decide), hh]; rfl
  have ep : 2 * (h : Int) - (B : Int) = (p : Int) := by rw [hp, Int.natCast_sub hBh]; rfl
  have np : n + p ≤ 101 := Nat.add_le_add hn hB2.2.1
  have hp0 : (0 : Int) < 2 ^ h := Int.pow_pos (by decide)
  have pp0 : (0 : Int) < 2 ^ p := Int.pow_pos (by decide)
  obtain ⟨d, hd⟩ : ∃ d, d = ab y * 2 ^ p := ⟨_, rfl⟩
  obtain ⟨z, hz⟩ : ∃ z, z = ab x * 2 ^ p := ⟨_, rfl⟩
  have d0 : 0 < d := hd ▸ Int.mul_pos ay pp0
  have z0 : 0 ≤ z := hz ▸ Int.mul_nonneg ax (Int.le_of_lt pp0)
  have yl := lt_of_bits (Int.le_of_lt ay) (Nat.le_of_eq hB)
  have yg := bits_ge ay hB B0
  have du : d < 2 ^ (h + h) := by
    rw [← hB2.1, Int.pow_add, hd]
    exact Int.mul_lt_mul_of_pos_right yl pp0
  have dl : (2 : Int) ^ h ≤ d := by
    have e1 : (2 : Int) ^ h ≤ 2 ^ (B - 1 + p) := by exact_mod_cast Nat.pow_le_pow_right (show 0 < 2 by decide) (show h ≤ B - 1 + p from Nat.le_of_succ_le_succ (by rw [Nat.succ_eq_add_one (B - 1 + p), Nat.add_right_comm, Nat.sub_add_cancel B0, hB2.1]; exact Nat.add_le_add_left hB2.2.2.1 h))
    rw [Int.pow_add] at e1
    rw [hd]
    exact Int.le_trans e1 (Int.mul_le_mul_of_nonneg_right yg (Int.le_of_lt pp0))
  have b1 : 0 < d / 2 ^ h ∧ d / 2 ^ h < 2 ^ h := ⟨Int.le_ediv_of_mul_le hp0 (by rw [Int.zero_add, Int.one_mul]; exact dl), Int.ediv_lt_of_lt_mul hp0 (by rw [← Int.pow_add]; exact du)⟩
  have bz : bits z ≤ n + p := by
    refine bits_of_lt z0 ?_
    rw [hz, Int.pow_add]
    exact Int.mul_lt_mul_of_pos_right (lt_of_bits ax bx) pp0
  obtain ⟨ds, g1, g2, g3, g4⟩ := digP_ok (w := h) (k := 17) hB2.2.2.1 z0 bz (Nat.le_trans np (by decide)) (Nat.le_trans hB2.2.2.2 (by decide)) (Nat.le_trans bz (Nat.le_trans np (by decide)))
  obtain ⟨kk, kv⟩ := H35 z h ds g1
  have hlen : h * ds.length ≤ 300 := by
    exact Nat.le_trans (len_le hB2.2.2.1 g4).1 (Nat.le_trans (Nat.sub_le _ _) (Nat.le_trans (Nat.add_le_add (Nat.le_trans bz np) hB2.2.2.2) (by decide)))
  have fv := fold_worth (h := h) ds
  rw [g2] at fv
  refine q_not (beq_eq_false_iff_ne.mpr hy ▸ k_eq (k_var rfl) k_int) (q_end ?_)
  refine q_set (u := .int h) (by
    have := k_fdiv (ρ := [.val (.int x), .val (.int y)] ++ List.replicate 7 .undef) (k_add (k_bits (k_abs (k_var (i := 1) rfl))) (k_int (x := 1))) (k_int (x := 2)) ⟨by decide, noPl (B := 2) (by decide) (by decide) (by decide)⟩
    rw [hB, eh] at this
    exact this) ?_
  refine q_set (u := .int p) (by
    have := k_sub (ρ := put ([.val (.int x), .val (.int y)] ++ List.replicate 7 .undef) 2 (.val (.int h))) (k_mul (k_int (x := 2)) (k_var (i := 2) rfl) (two_bits (n := 7) (by decide) (bits_natc (Nat.lt_of_le_of_lt hB2.2.2.2 (by decide))) (by decide))) (k_bits (k_abs (k_var (i := 1) rfl)))
    rw [hB, ep] at this
    exact this) ?_
  refine q_set (u := .int d) (hd ▸ k_op (k_abs (k_var rfl)) (k_var rfl) (shl_of2 (Nat.le_of_eq hB) (hB2.1 ▸ two_bits hB2.2.2.2 hB2.2.2.2 (by decide)))) ?_
  refine q_many (us := [.int 0, .int 0]) (k_tup (k_cons k_int (k_cons k_int k_nil))) rfl ?_
  refine q_for (k_revd (k_call (k_cons (hz ▸ k_op (k_abs (k_var rfl)) (k_var rfl) (shl_of2 bx (Nat.le_trans np (by decide)))) (k_cons (k_var rfl) k_nil)) kk kv)) ?_
  rw [show (zs ds).reverse = zs ds.reverse from List.map_reverse.symm]
  have e00 : (0 : Int).fdiv d = 0 ∧ (0 : Int).fmod d = 0 := ⟨Int.zero_fdiv d, Int.zero_fmod d⟩
  have fin : ∀ b7 b8, (onNext (fun ρ => sSeq (xSet 6 e77_11) (sSeq (xIf e77_12 (sSeq (xMany [5, 6] e77_13) sNil) sNil) (sSeq (xRet e77_14) sNil)) ρ fun fl _ => fl = .ret (qr x y)) fun fl _ => fl = .ret (qr x y)) .next (rho77 x y h p d ((ds.reverse.foldl (fun v g => v * 2 ^ h + g) 0).fdiv d) ((ds.reverse.foldl (fun v g => v * 2 ^ h + g) 0).fmod d) b7 b8) := by
    intro b7 b8
    rw [fv]
    have key : z.fdiv d = (ab x).fdiv (ab y) ∧ (z.fmod d) / 2 ^ p = (ab x).fmod (ab y) := by
      rcases Nat.le_one_iff_eq_zero_or_eq_one.mp hB2.2.1 with q | q
      · rw [hz, hd, q]
        simp
      · have := qr_twice (a := ab x) (b := ab y) ay
        rw [hz, hd, q]
        refine ⟨this.1, ?_⟩
        rw [← this.2, Int.fdiv_eq_ediv_of_nonneg _ (by decide)]; rfl
    obtain ⟨m1, m2⟩ := fmod_pos (x := ab x) ay
    have e := Int.mul_fdiv_add_fmod (ab x) (ab y)
    rw [Int.mul_comm] at e
    rw [key.1]
    refine q_set (key.2 ▸ k_shrp (k_var rfl) (k_var rfl)) ?_
    generalize (ab x).fdiv (ab y) = q at e
    generalize (ab x).fmod (ab y) = r at e m1 m2
    have tst : ∀ {ρ : PEnv}, get ρ 0 = .val (.int x) → get ρ 1 = .val (.int y) → okT e77_12 ρ (decide (x < 0) != decide (y < 0)) := fun h0 h1 => k_neb (k_cmpV (k_var h0) (k_int (x := 0)) rfl) (k_cmpV (k_var h1) (k_int (x := 0)) rfl)
    have ret : ∀ {ρ : PEnv} {u v : Int}, get ρ 1 = .val (.int y) → get ρ 5 = .val (.int u) → get ρ 6 = .val (.int v) → qr x y = .tup [.int u, .int (if 0 < y then v else -v)] → sSeq (xRet e77_14) sNil ρ fun fl _ => fl = .ret (qr x y) := fun {ρ u v} h1 h5 h6 hv => by
      refine q_ret (k_tup (k_cons (k_var h5) (k_cons ?_ k_nil))) (by rw [hv])
      by_cases yp : 0 < y
      · rw [if_pos yp]
        exact k_ift (decide_eq_true (show 0 < y from yp) ▸ k_gt (k_var h1) k_int) (k_var h6)
      · rw [if_neg yp]
        exact k_iff (decide_eq_false (show ¬ 0 < y from yp) ▸ k_gt (k_var h1) k_int) (k_neg (k_var h6))
    rcases thirds_end hy e.symm m1 m2 with ⟨t1, t2⟩ | ⟨t1, ⟨r0, t2⟩ | ⟨r0, t2⟩⟩
    · exact q_not (t1 ▸ tst rfl rfl) (q_end (ret rfl rfl rfl t2))
    · subst r0
      refine q_yes (t1 ▸ tst rfl rfl) (q_many (us := [.int (-q), .int 0]) (k_iff (k_tint (x := 0) (k_var rfl)) (k_tup (k_cons (k_neg (k_var rfl)) (k_cons k_int k_nil)))) rfl (q_end (ret rfl rfl rfl t2)))
    · refine q_yes (t1 ▸ tst rfl rfl) (q_many (us := [.int (-q - 1), .int (ab y - r)]) (k_ift ?_ (k_tup (k_cons (k_sub (k_neg (k_var rfl)) k_int) (k_cons (k_sub (k_abs (k_var rfl)) (k_var rfl)) k_nil)))) rfl (q_end (ret rfl rfl rfl t2)))
      have := k_tint (ρ := put (rho77 x y h p d q (z.fmod d) b7 b8) 6 (.val (.int r))) (a := dVar 6) (x := r) (k_var rfl)
      rwa [show (r != 0) = true from bne_iff_ne.mpr r0] at this
  have L := loop77 (Γ := Γ) (x := x) (y := y) (p := p) hB2.2.2 d0 b1 (H h hB2.2.2.1 hB2.2.2.2) ds.reverse 0 1 .undef .undef (Q := onNext (fun ρ => sSeq (xSet 6 e77_11) (sSeq (xIf e77_12 (sSeq (xMany [5, 6] e77_13) sNil) sNil) (sSeq (xRet e77_14) sNil)) ρ fun fl _ => fl = .ret (qr x y)) fun fl _ => fl = .ret (qr x y)) (Int.le_refl _) (by decide) (by rw [List.length_reverse]; exact Nat.le_trans (Nat.add_le_add_left hlen 1) (by decide)) (fun g hg => ⟨(g3 g (List.mem_reverse.mp hg)).1, (g3 g (List.mem_reverse.mp hg)).2.2⟩) fin
  rw [e00.1, e00.2] at L
  exact L
end

end
end Mine
namespace Mine
section
open PySem.Calls
/-- a function that divides -/
structure Dv4 (C : Cx) (X : Addr → List PV → PV) (f : Addr) (bare : Bool) : Prop where
  d : ∀ x y : Int, y ≠ 0 → x.natAbs < 2 ^ 60 → y.natAbs < 2 ^ 60 → ConAt C 30 160 f [.int x, .int y] (qr x y)
  z : ∀ x : Int, x.natAbs < 2 ^ 60 → RaisesAt C 30 160 f [.int x, .int 0] bare
  v : ∀ x y : Int, Vl X f [.int x, .int y] = qr x y
section
variable {C : Cx} {P : Params} {c d : PV} {o : Int → PV} {f : Addr} {bare : Bool}
theorem lt_up {a m n : Nat} (h : a < 2 ^ m) (k : m ≤ n) : a < 2 ^ n := Nat.lt_of_lt_of_le h (Nat.pow_le_pow_right (by decide) k)
theorem dv56 (hr : C.rb = C.base) (hK : C.K = hd.heap_39 P) (hG : GOk C G04) (Y : Pylong C G04 (X04 c d o) hG) : Dv4 C (X04 c d o) 56 true where
  d := fun x y hy h1 h2 => (Y.divmod hy (Nat.le_trans (bits_abs h1) (by decide)) (Nat.le_trans (bits_abs h2) (by decide))).mono (by decide) (by decide)
  z := fun x _ => (raise56 (D := 29) (U := 157) (by decide) hr hK hG x)
  v := fun x y => rfl
theorem dv70 (hr : C.rb = C.base) (hK : C.K = hd.heap_39 P) (hG : GOk C G04) : Dv4 C (X04 c d o) 70 false where
  d := fun x y hy h1 h2 => con70 (X := X04 c d o) (D := 29) (U := 157) hK hG (by decide) (r70 (n := 60) (by decide) hy h2)
  z := fun x _ => (raise70 (D := 29) (U := 157) (by decide) hr hK hG x)
  v := fun x y => rfl
theorem dv77 (hr : C.rb = C.base) (hK : C.K = hd.heap_39 P) (hG : GOk C G04) (Y : Pylong C G04 (X04 c d o) hG) : Dv4 C (X04 c d o) 77 false where
  d := fun x y hy h1 h2 => con77 (X := X04 c d o) (D := 29) (U := 157) hK hG (by decide) (r77 (n := 60) (by decide) hy h1 h2 (fun h h0 h1 a12 a3 b b1 b2 eb p1 p2 p3 p4 => by
      refine ⟨?_, by show qr (a12 * 2 ^ (h : Int).toNat + a3) b = _; rw [Int.toNat_natCast]⟩
      have e : Vl (X04 c d o) 28 [.int a12, .int a3, .int b, .int b1, .int b2, .int h] = qr (a12 * 2 ^ h + a3) b := by show qr (a12 * 2 ^ (h : Int).toNat + a3) b = _; rw [Int.toNat_natCast]
      show ConAt C 29 157 28 _ (Vl (X04 c d o) 28 _)
      rw [e]
      refine (Y.c28 (D := 20) (U := 124) (by decide) (r28 (Nat.le_trans h1 (by decide)) eb p1 p2 p3 p4 ⟨?_, rfl⟩)).mono (by decide) (by decide)
      show ConAt C 20 124 21 _ (qr a12 b1)
      have hbu : b < 2 ^ (h + h) := by
        have hp : (0 : Int) < 2 ^ h := Int.pow_pos (by decide)
        have := Int.mul_le_mul_of_nonneg_right (Int.le_sub_one_of_lt p1.2) (Int.le_of_lt hp)
        rw [Int.sub_mul, Int.one_mul] at this
        rw [Int.pow_add]; (first | lia | omega)
      have b12 := bits_of_lt p3.1 (Int.lt_trans p3.2 hbu)
      have bb1 := bits_of_lt (Int.le_of_lt p1.1) p1.2
      exact (Y.c21 (D := 19) (U := 121) (by decide) (r21 (by (first | lia | omega)) ⟨Int.ne_of_gt p1.1, noPl bb1 (Nat.le_trans h1 (by decide)) (Int.ne_of_gt p1.1)⟩)).mono (by decide) (by decide))
    fun a w ds hds => by
      have e : Vl (X04 c d o) 35 [.int a, .int w] = .lst (zs ds) := by show PV.lst (zs ((digP a w 18).getD [])) = _; rw [hds]; rfl
      refine ⟨?_, e⟩
      show ConAt C 29 157 35 _ (Vl (X04 c d o) 35 _)
      rw [e]
      exact (Y.c35 (D := 18) (U := 118) (by decide) (by decide) hds).mono (by decide) (by decide))
  z := fun x _ => (raise77 (D := 28) (U := 154) (by decide) hr hK hG x)
  v := fun x y => rfl
theorem Dv4.dv (E : Dv4 C (X04 c d o) f bare) {nm : List Str} {hG : GOk C G04} {h : 64 ≤ 160} {n : Nat} (hn : n ≤ 60) : Dv (fxOf C nm G04 (X04 c d o) hG 30 160 h) f bare n where
  d := fun x y hy h1 h2 => ⟨by show ConAt C 30 160 f _ (Vl _ f _); rw [E.v]; exact E.d x y hy (lt_up h1 hn) (lt_up h2 hn), E.v x y⟩
  z := fun x h1 => E.z x (lt_up h1 hn)
theorem m84 (hK : C.K = hd.heap_39 P) (hG : GOk C G04) (E : Dv4 C (X04 c d o) f bare) {x y : Int} (h1 : x.natAbs < 2 ^ 30) (h2 : y.natAbs < 2 ^ 30) : ConAt C 31 163 84 [.fn f, .int x, .int y] (.int (gcdI x y)) :=
  con84 (X := X04 c d o) bare hK hG (by decide) (r84 (n := 30) (by decide) (E.dv (by decide)) h1 h2)
theorem m91 (hK : C.K = hd.heap_39 P) (hG : GOk C G04) (E : Dv4 C (X04 c d o) f bare) {w p : Nat} {t : Int} (hp : 0 < p) (hd : p ∣ w) (h1 : w < 2 ^ 60) (h2 : p < 2 ^ 60) : ConAt C 31 163 91 [.fn f, .int w, .int p, .int t] (.int ((w : Int) / (p : Int))) :=
  con91 (X := X04 c d o) hK hG (by decide) (r91 (n := 60) (by decide) (E.dv (by decide)) hp hd h1 h2)
theorem cm_of (hK : C.K = hd.heap_39 P) (hG : GOk C G04) (E : Dv4 C (X04 c d o) f bare) {nm : List Str} {D U : Nat} {h : 64 ≤ U} (hD : 31 ≤ D) (hU : 163 ≤ U) : Cm (fxOf C nm G04 (X04 c d o) hG D U h) f 30 where
  m := fun x y h1 h2 => ⟨(m84 hK hG E h1 h2).mono hD hU, rfl⟩
  s := fun w p t h0 h1 h2 h3 => ⟨(m91 hK hG E h0 h1 h2 (lt_up h3 (by decide))).mono hD hU, rfl⟩
theorem m98 (hK : C.K = hd.heap_39 P) (hG : GOk C G04) (E : Dv4 C (X04 c d o) f bare) {l : List Nat} {t : Int} (hl : Row1 l (2 ^ 30)) : ConAt C 32 166 98 [.fn f, .lst (nzs l), .int t] (.int (commN l : Nat)) :=
  con98 (X := X04 c d o) hK hG (by decide) (r98 (n := 30) (by decide) (cm_of hK hG E (by decide) (by decide)) hl)
theorem v98 {l : List Nat} {t : Int} : Vl (X04 c d o) 98 [.fn f, .lst (nzs l), .int t] = .int (commN l : Nat) := by
  show PV.int ((commN (natL (nzs l)) : Nat) : Int) = _
  rw [natL_nzs]
theorem m103 (hK : C.K = hd.heap_39 P) (hG : GOk C G04) (E : Dv4 C (X04 c d o) f bare) {w : Nat} {I : List (List Nat) → Prop} (hI : Inv 30 w I) {rs : List (List Nat)} {hs : List Nat} {t : Int} (i : I rs) (hh : ∀ h ∈ hs, h < rs.length) : ConAt C 33 169 103 [.fn f, .lst (rowsP rs), .int w, .lst (nzs hs), .int t] (.lst (rowsP (lapF rs w hs))) :=
  con103 (X := X04 c d o) hK hG (by decide) (r103 (n := 30) (by decide) (cm_of hK hG E (by decide) (by decide)) (fun l t hl => by
    have e : Vl (X04 c d o) 98 [.fn f, .lst (nzs l), .int t] = .int (commN l : Nat) := v98
    exact ⟨by show ConAt C 32 166 98 _ (Vl (X04 c d o) 98 _); rw [e]; exact m98 hK hG E hl, e⟩) hI i hh)
theorem v103 {w : Nat} {rs : List (List Nat)} {hs : List Nat} {t : Int} : Vl (X04 c d o) 103 [.fn f, .lst (rowsP rs), .int w, .lst (nzs hs), .int t] = .lst (rowsP (lapF rs w hs)) := by
  show PV.lst (rowsP (lapF (natR (rowsP rs)) (w : Int).toNat (natL (nzs hs)))) = _
  rw [natR_rowsP, natL_nzs, Int.toNat_natCast]
end

end
end Mine
namespace Mine
section
open PySem.Calls
-- numbers above nought with lcm and product: fractions
theorem fr_solve {Pu Qu Pv Qv u v x P Q : Nat} (hu : Pu * u = Qu) (hv : Pv * v = Qv) (e : u * x = v) (p1 : 0 < Pv) (p2 : 0 < Qu) (h : Pv * Qu * Q = P * (Pu * Qv)) : P * x = Q := by
  refine Nat.eq_of_mul_eq_mul_left (Nat.mul_pos p1 p2) ?_
  rw [h, ← hv, ← e, ← hu]
  ac_rfl
theorem fr_lcm {P x y Q R : Nat} (h1 : P * x = Q) (h2 : P * y = R) : P * Nat.lcm x y = Nat.lcm Q R := by rw [← Nat.lcm_mul_left, h1, h2]
theorem fr_up {P x Q : Nat} (k : Nat) (h : P * x = Q) : P * k * x = Q * k := by rw [Nat.mul_right_comm, h]
theorem fr_mul {P x Q : Nat} (k : Nat) (h : P * x = Q) : P * (k * x) = k * Q := by rw [Nat.mul_left_comm, h]
theorem fr_two {P x Q R y S : Nat} (h : P * x = Q) (h' : R * y = S) : P * R * (x * y) = Q * S := by
  rw [← h, ← h']; ac_rfl
theorem one_fr (x : Nat) : 1 * x = x := Nat.one_mul x
/-- a lap of a triangle of two rows -/
structure Lap3 (w a1 a2 b a1' a2' b' : Nat) : Prop where
  b : b * b' = Nat.lcm a1 a2 * w
  a1 : a1 * a1' = b'
  a2 : a2 * a2' = b'
structure Pos3 (a1 a2 b : Nat) : Prop where
  a1 : 0 < a1
  a2 : 0 < a2
  b : 0 < b
theorem three {w a1 a2 b a1' a2' b' x1 x2 y x1' x2' y' : Nat} (hw : 0 < w) (p : Pos3 a1 a2 b) (q : Pos3 a1' a2' b') (r : Pos3 x1 x2 y) (L1 : Lap3 w a1 a2 b a1' a2' b') (L2 : Lap3 w a1' a2' b' x1 x2 y) (L3 : Lap3 w x1 x2 y x1' x2' y') : x1' = a2 ∧ x2' = a1 ∧ y' = b := by
  obtain ⟨p1, p2, p3⟩ := p
  obtain ⟨q1, q2, q3⟩ := q
  obtain ⟨r1, r2, r3⟩ := r
  have hA : 0 < Nat.lcm a1 a2 := Nat.lcm_pos p1 p2
  have eb := L1.b
  have e1 : (a1 * b) * a1' = Nat.lcm a1 a2 * w := fr_solve (one_fr a1) eb L1.a1 p3 p1 (by ac_rfl)
  have e2 : (a2 * b) * a2' = Nat.lcm a1 a2 * w := fr_solve (one_fr a2) eb L1.a2 p3 p2 (by ac_rfl)
  have l1 : (a1 * a2 * b) * Nat.lcm a1' a2' = Nat.lcm a1 a2 * (Nat.lcm a1 a2 * w) := by
    have := fr_lcm (P := a1 * a2 * b) (x := a1') (y := a2') (Q := a2 * (Nat.lcm a1 a2 * w)) (R := a1 * (Nat.lcm a1 a2 * w)) (by rw [← e1]; ac_rfl) (by rw [← e2]; ac_rfl)
    rw [this, Nat.lcm_mul_right, Nat.lcm_comm a2 a1]
  have e3 : (a1 * a2) * y = Nat.lcm a1 a2 * w := fr_solve eb (fr_mul w l1) (by rw [L2.b, Nat.mul_comm]) (Nat.mul_pos (Nat.mul_pos p1 p2) p3) (Nat.mul_pos hA hw) (by ac_rfl)
  have e4 : a2 * x1 = b := fr_solve e1 e3 L2.a1 (Nat.mul_pos p1 p2) (Nat.mul_pos hA hw) (by ac_rfl)
  have e5 : a1 * x2 = b := fr_solve e2 e3 L2.a2 (Nat.mul_pos p1 p2) (Nat.mul_pos hA hw) (by ac_rfl)
  have l2 : (a1 * a2) * Nat.lcm x1 x2 = Nat.lcm a1 a2 * b := by
    rw [fr_lcm (P := a1 * a2) (Q := a1 * b) (R := a2 * b) (by rw [← e4]; ac_rfl) (by rw [← e5]; ac_rfl), Nat.lcm_mul_right]
  have e6 : 1 * y' = b := fr_solve e3 (fr_mul w l2) (by rw [L3.b, Nat.mul_comm]) (Nat.mul_pos p1 p2) (Nat.mul_pos hA hw) (by ac_rfl)
  have e7 : 1 * x1' = a2 := fr_solve e4 e6 L3.a1 Nat.one_pos p3 (by ac_rfl)
  have e8 : 1 * x2' = a1 := fr_solve e5 e6 L3.a2 Nat.one_pos p3 (by ac_rfl)
  exact ⟨by rw [← e7, Nat.one_mul], by rw [← e8, Nat.one_mul], by rw [← e6, Nat.one_mul]⟩
/-- a lap of a triangle of three rows -/
structure Lap4 (w a1 a2 a3 b1 b2 c a1' a2' a3' b1' b2' c' : Nat) : Prop where
  c : c * c' = Nat.lcm b1 b2 * w
  b1 : b1 * b1' = Nat.lcm a1 a2 * c'
  b2 : b2 * b2' = Nat.lcm a2 a3 * c'
  a1 : a1 * a1' = b1'
  a2 : a2 * Nat.lcm b1' b2' * a2' = b1' * b2'
  a3 : a3 * a3' = b2'
structure Pos4 (a1 a2 a3 b1 b2 c : Nat) : Prop where
  a1 : 0 < a1
  a2 : 0 < a2
  a3 : 0 < a3
  b1 : 0 < b1
  b2 : 0 < b2
  c : 0 < c
/-- what the laps' forms lean on -/
structure Forms (a1 a2 a3 b1 b2 B A12 A23 D E1 E3 S : Nat) : Prop where
  d : Nat.lcm (A12 * b2) (A23 * b1) = D
  i1 : Nat.lcm (a2 * D) (a1 * b1 * A23) = A12 * E1
  i1' : Nat.lcm (a3 * b2 * A12) (a2 * D) = A23 * E3
  i2 : Nat.lcm (a3 * A12 * E1) (a1 * A23 * E3) = D * S
  i3 : Nat.lcm (b1 * S) (a2 * E3) = A12 * E1
  i3' : Nat.lcm (a2 * E1) (b2 * S) = A23 * E3
  i4 : Nat.lcm (a1 * E1) (a3 * E3) = B * S
  e1 : Nat.lcm (a2 * B) (a3 * b1) = E1
  e3 : Nat.lcm (a1 * b2) (a2 * B) = E3
  B0 : 0 < B
  A12 : 0 < A12
  A23 : 0 < A23
  D0 : 0 < D
  E1 : 0 < E1
  E3 : 0 < E3
  S0 : 0 < S
theorem lcm_l (m n k : Nat) : m * Nat.lcm n k = Nat.lcm (m * n) (m * k) := (Nat.lcm_mul_left ..).symm
theorem lcm_r (m n k : Nat) : Nat.lcm n k * m = Nat.lcm (n * m) (k * m) := (Nat.lcm_mul_right ..).symm
theorem forms {a1 a2 a3 b1 b2 : Nat} (p1 : 0 < a1) (p2 : 0 < a2) (p3 : 0 < a3) (p4 : 0 < b1) (p5 : 0 < b2) : ∃ D E1 E3 S, Forms a1 a2 a3 b1 b2 (Nat.lcm b1 b2) (Nat.lcm a1 a2) (Nat.lcm a2 a3) D E1 E3 S := by
  have hB := Nat.lcm_pos p4 p5
  have h12 := Nat.lcm_pos p1 p2
  have h23 := Nat.lcm_pos p2 p3
  have mp : ∀ {x y : Nat}, 0 < x → 0 < y → 0 < x * y := fun h h' => Nat.mul_pos h h'
  refine ⟨_, _, _, Nat.lcm (a1 * a2) (Nat.lcm (a2 * a3) (a1 * a3)), rfl, ?_, ?_, ?_, ?_, ?_, ?_, rfl, rfl, hB, h12, h23, Nat.lcm_pos (mp h12 p5) (mp h23 p4), Nat.lcm_pos (mp p2 hB) (mp p3 p4), Nat.lcm_pos (mp p1 p5) (mp p2 hB), Nat.lcm_pos (mp p1 p2) (Nat.lcm_pos (mp p2 p3) (mp p1 p3))⟩ <;> (simp only [lcm_l, lcm_r]; ac_rfl)
theorem fr_up1 {P x Q : Nat} (k : Nat) (h : P * x = Q) : P * (x * k) = Q * k := by rw [← Nat.mul_assoc, h]
theorem fr_add {P Px Py x y Qx Qy k l K r s R : Nat} (hx : Px * x = Qx) (hy : Py * y = Qy) (e1 : P = Px * k) (e2 : P = Py * l) (e3 : Qx * k = K * r) (e4 : Qy * l = K * s) (h : Nat.lcm r s = R) : P * Nat.lcm x y = K * R := by
  rw [← h, lcm_l K r s, ← e3, ← e4]
  refine fr_lcm ?_ ?_
  · rw [e1]; exact fr_up k hx
  · rw [e2]; exact fr_up l hy
/-- four laps mirror the triangle -/
theorem four {w a1 a2 a3 b1 b2 c d1 d2 d3 e1 e2 f g1 g2 g3 h1 h2 i j1 j2 j3 k1 k2 l m1 m2 m3 n1 n2 o B A12 A23 D E1 E3 S : Nat} (hw : 0 < w) (p : Pos4 a1 a2 a3 b1 b2 c) (hB : B = Nat.lcm b1 b2) (hA : A12 = Nat.lcm a1 a2) (hA' : A23 = Nat.lcm a2 a3) (F : Forms a1 a2 a3 b1 b2 B A12 A23 D E1 E3 S)
    (L1 : Lap4 w a1 a2 a3 b1 b2 c d1 d2 d3 e1 e2 f) (L2 : Lap4 w d1 d2 d3 e1 e2 f g1 g2 g3 h1 h2 i) (L3 : Lap4 w g1 g2 g3 h1 h2 i j1 j2 j3 k1 k2 l) (L4 : Lap4 w j1 j2 j3 k1 k2 l m1 m2 m3 n1 n2 o) : m1 = a3 ∧ m2 = a2 ∧ m3 = a1 ∧ n1 = b2 ∧ n2 = b1 ∧ o = c := by
  obtain ⟨p1, p2, p3, p4, p5, p6⟩ := p
  obtain ⟨F0, F1, F2, F3, F4, F5, F6⟩ := (⟨F.B0, F.A12, F.A23, F.D0, F.E1, F.E3, F.S0⟩ : 0 < B ∧ 0 < A12 ∧ 0 < A23 ∧ 0 < D ∧ 0 < E1 ∧ 0 < E3 ∧ 0 < S)
  rcases L1 with ⟨q1, q2, q3, q4, q5, q6⟩
  rw [← hB] at q1
  rw [← hA] at q2
  rw [← hA'] at q3
  have x1 : (b1 * c) * e1 = (A12 * (B * w)) := fr_solve (one_fr b1) (fr_mul A12 q1) q2 (by repeat' (first | assumption | exact Nat.one_pos | apply Nat.mul_pos)) (by repeat' (first | assumption | exact Nat.one_pos | apply Nat.mul_pos)) (by ac_rfl)
  have x2 : (b2 * c) * e2 = (A23 * (B * w)) := fr_solve (one_fr b2) (fr_mul A23 q1) q3 (by repeat' (first | assumption | exact Nat.one_pos | apply Nat.mul_pos)) (by repeat' (first | assumption | exact Nat.one_pos | apply Nat.mul_pos)) (by ac_rfl)
  have x3 : (a1 * b1 * c) * d1 = (A12 * (B * w)) := fr_solve (one_fr a1) x1 q4 (by repeat' (first | assumption | exact Nat.one_pos | apply Nat.mul_pos)) (by repeat' (first | assumption | exact Nat.one_pos | apply Nat.mul_pos)) (by ac_rfl)
  have x4 : (a3 * b2 * c) * d3 = (A23 * (B * w)) := fr_solve (one_fr a3) x2 q6 (by repeat' (first | assumption | exact Nat.one_pos | apply Nat.mul_pos)) (by repeat' (first | assumption | exact Nat.one_pos | apply Nat.mul_pos)) (by ac_rfl)
  have x5 : (b1 * b2 * c) * Nat.lcm e1 e2 = (B * w) * D := fr_add x1 x2 (k := b2) (l := b1) (K := (B * w)) (r := (A12 * b2)) (s := (A23 * b1)) (by ac_rfl) (by ac_rfl) (by ac_rfl) (by ac_rfl) F.d
  have x6 : (c * a2 * D) * d2 = (A12 * A23 * B * w) := fr_solve (fr_mul a2 x5) (fr_two x1 x2) q5 (by repeat' (first | assumption | exact Nat.one_pos | apply Nat.mul_pos)) (by repeat' (first | assumption | exact Nat.one_pos | apply Nat.mul_pos)) (by ac_rfl)
  have y1 : (b1 * b2) * i = (w * D) := fr_solve q1 (fr_up1 w x5) L2.c (by repeat' (first | assumption | exact Nat.one_pos | apply Nat.mul_pos)) (by repeat' (first | assumption | exact Nat.one_pos | apply Nat.mul_pos)) (by ac_rfl)
  have y2 : (a1 * b1 * c * a2 * D) * Nat.lcm d1 d2 = (A12 * B * w) * (A12 * E1) := fr_add x3 x6 (k := (a2 * D)) (l := (a1 * b1)) (K := (A12 * B * w)) (r := (a2 * D)) (s := (a1 * b1 * A23)) (by ac_rfl) (by ac_rfl) (by ac_rfl) (by ac_rfl) F.i1
  have y3 : (a3 * b2 * c * a2 * D) * Nat.lcm d2 d3 = (A23 * B * w) * (A23 * E3) := fr_add x6 x4 (k := (a3 * b2)) (l := (a2 * D)) (K := (A23 * B * w)) (r := (a3 * b2 * A12)) (s := (a2 * D)) (by ac_rfl) (by ac_rfl) (by ac_rfl) (by ac_rfl) F.i1'
  have y4 : (a1 * a2 * b1 * b2) * h1 = (A12 * E1 * w) := fr_solve x1 (fr_two y2 y1) L2.b1 (by repeat' (first | assumption | exact Nat.one_pos | apply Nat.mul_pos)) (by repeat' (first | assumption | exact Nat.one_pos | apply Nat.mul_pos)) (by ac_rfl)
  have y5 : (a2 * a3 * b1 * b2) * h2 = (A23 * E3 * w) := fr_solve x2 (fr_two y3 y1) L2.b2 (by repeat' (first | assumption | exact Nat.one_pos | apply Nat.mul_pos)) (by repeat' (first | assumption | exact Nat.one_pos | apply Nat.mul_pos)) (by ac_rfl)
  have y6 : (a2 * b2 * B) * g1 = (E1 * c) := fr_solve x3 y4 L2.a1 (by repeat' (first | assumption | exact Nat.one_pos | apply Nat.mul_pos)) (by repeat' (first | assumption | exact Nat.one_pos | apply Nat.mul_pos)) (by ac_rfl)
  have y7 : (a2 * b1 * B) * g3 = (E3 * c) := fr_solve x4 y5 L2.a3 (by repeat' (first | assumption | exact Nat.one_pos | apply Nat.mul_pos)) (by repeat' (first | assumption | exact Nat.one_pos | apply Nat.mul_pos)) (by ac_rfl)
  have y8 : (a1 * a2 * a3 * b1 * b2) * Nat.lcm h1 h2 = w * (D * S) := fr_add y4 y5 (k := a3) (l := a1) (K := w) (r := (a3 * A12 * E1)) (s := (a1 * A23 * E3)) (by ac_rfl) (by ac_rfl) (by ac_rfl) (by ac_rfl) F.i2
  have y9 : (b1 * b2 * B * S) * g2 = (E1 * E3 * c) := fr_solve (fr_two x6 y8) (fr_two y4 y5) L2.a2 (by repeat' (first | assumption | exact Nat.one_pos | apply Nat.mul_pos)) (by repeat' (first | assumption | exact Nat.one_pos | apply Nat.mul_pos)) (by ac_rfl)
  have z1 : (a1 * a2 * a3) * l = (w * S) := fr_solve y1 (fr_up1 w y8) L3.c (by repeat' (first | assumption | exact Nat.one_pos | apply Nat.mul_pos)) (by repeat' (first | assumption | exact Nat.one_pos | apply Nat.mul_pos)) (by ac_rfl)
  have z2 : (a2 * b2 * B * b1 * S) * Nat.lcm g1 g2 = (E1 * c) * (A12 * E1) := fr_add y6 y9 (k := (b1 * S)) (l := a2) (K := (E1 * c)) (r := (b1 * S)) (s := (a2 * E3)) (by ac_rfl) (by ac_rfl) (by ac_rfl) (by ac_rfl) F.i3
  have z3 : (a2 * b1 * B * b2 * S) * Nat.lcm g2 g3 = (E3 * c) * (A23 * E3) := fr_add y9 y7 (k := a2) (l := (b2 * S)) (K := (E3 * c)) (r := (a2 * E1)) (s := (b2 * S)) (by ac_rfl) (by ac_rfl) (by ac_rfl) (by ac_rfl) F.i3'
  have z4 : (a2 * a3 * B) * k1 = (E1 * c) := fr_solve y4 (fr_two z2 z1) L3.b1 (by repeat' (first | assumption | exact Nat.one_pos | apply Nat.mul_pos)) (by repeat' (first | assumption | exact Nat.one_pos | apply Nat.mul_pos)) (by ac_rfl)
  have z5 : (a1 * a2 * B) * k2 = (E3 * c) := fr_solve y5 (fr_two z3 z1) L3.b2 (by repeat' (first | assumption | exact Nat.one_pos | apply Nat.mul_pos)) (by repeat' (first | assumption | exact Nat.one_pos | apply Nat.mul_pos)) (by ac_rfl)
  have z6 : a3 * j1 = b2 := fr_solve y6 z4 L3.a1 (by repeat' (first | assumption | exact Nat.one_pos | apply Nat.mul_pos)) (by repeat' (first | assumption | exact Nat.one_pos | apply Nat.mul_pos)) (by ac_rfl)
  have z7 : a1 * j3 = b1 := fr_solve y7 z5 L3.a3 (by repeat' (first | assumption | exact Nat.one_pos | apply Nat.mul_pos)) (by repeat' (first | assumption | exact Nat.one_pos | apply Nat.mul_pos)) (by ac_rfl)
  have z8 : (a1 * a2 * a3 * B) * Nat.lcm k1 k2 = c * (B * S) := fr_add z4 z5 (k := a1) (l := a3) (K := c) (r := (a1 * E1)) (s := (a3 * E3)) (by ac_rfl) (by ac_rfl) (by ac_rfl) (by ac_rfl) F.i4
  have z9 : (a2 * B) * j2 = (b1 * b2) := fr_solve (fr_two y9 z8) (fr_two z4 z5) L3.a2 (by repeat' (first | assumption | exact Nat.one_pos | apply Nat.mul_pos)) (by repeat' (first | assumption | exact Nat.one_pos | apply Nat.mul_pos)) (by ac_rfl)
  have u1 : 1 * o = c := fr_solve z1 (fr_up1 w z8) L4.c (by repeat' (first | assumption | exact Nat.one_pos | apply Nat.mul_pos)) (by repeat' (first | assumption | exact Nat.one_pos | apply Nat.mul_pos)) (by ac_rfl)
  have u2 : (a3 * a2 * B) * Nat.lcm j1 j2 = b2 * E1 := fr_add z6 z9 (k := (a2 * B)) (l := a3) (K := b2) (r := (a2 * B)) (s := (a3 * b1)) (by ac_rfl) (by ac_rfl) (by ac_rfl) (by ac_rfl) F.e1
  have u3 : (a1 * a2 * B) * Nat.lcm j2 j3 = b1 * E3 := fr_add z9 z7 (k := a1) (l := (a2 * B)) (K := b1) (r := (a1 * b2)) (s := (a2 * B)) (by ac_rfl) (by ac_rfl) (by ac_rfl) (by ac_rfl) F.e3
  have u4 : 1 * n1 = b2 := fr_solve z4 (fr_two u2 u1) L4.b1 (by repeat' (first | assumption | exact Nat.one_pos | apply Nat.mul_pos)) (by repeat' (first | assumption | exact Nat.one_pos | apply Nat.mul_pos)) (by ac_rfl)
  have u5 : 1 * n2 = b1 := fr_solve z5 (fr_two u3 u1) L4.b2 (by repeat' (first | assumption | exact Nat.one_pos | apply Nat.mul_pos)) (by repeat' (first | assumption | exact Nat.one_pos | apply Nat.mul_pos)) (by ac_rfl)
  have u6 : 1 * m1 = a3 := fr_solve z6 u4 L4.a1 (by repeat' (first | assumption | exact Nat.one_pos | apply Nat.mul_pos)) (by repeat' (first | assumption | exact Nat.one_pos | apply Nat.mul_pos)) (by ac_rfl)
  have u7 : 1 * m3 = a1 := fr_solve z7 u5 L4.a3 (by repeat' (first | assumption | exact Nat.one_pos | apply Nat.mul_pos)) (by repeat' (first | assumption | exact Nat.one_pos | apply Nat.mul_pos)) (by ac_rfl)
  have u8 : 1 * Nat.lcm n1 n2 = B := by rw [Nat.one_mul, ← Nat.one_mul n1, ← Nat.one_mul n2, u4, u5, hB, Nat.lcm_comm]
  have u9 : 1 * m2 = a2 := fr_solve (fr_two z9 u8) (fr_two u4 u5) L4.a2 (by repeat' (first | assumption | exact Nat.one_pos | apply Nat.mul_pos)) (by repeat' (first | assumption | exact Nat.one_pos | apply Nat.mul_pos)) (by ac_rfl)
  simp only [Nat.one_mul] at u1 u4 u5 u6 u7 u9
  exact ⟨u6, u9, u7, u4, u5, u1⟩

end
end Mine
namespace Mine
section
open PySem.Calls
/-- a number between those below and above it, turned -/
structure Tn (lo x hi x' : Nat) : Prop where
  e : x * x' = lo * hi
  l : lo ∣ x'
  h : x' ∣ hi
  p : 0 < x'
  q : lo * hi / x = x'
  r : lo * hi / x' = x
theorem ttn {lo x hi : Nat} (h0 : 0 < hi) (h1 : lo ∣ x) (h2 : x ∣ hi) : Tn lo x hi (lo * hi / x) := by
  have hx : 0 < x := Nat.pos_of_dvd_of_pos h2 h0
  obtain ⟨u, rfl⟩ := h1
  obtain ⟨v, rfl⟩ := h2
  have hl : 0 < lo := Nat.pos_of_mul_pos_right hx
  have e : lo * (lo * u * v) / (lo * u) = lo * v := by
    rw [show lo * (lo * u * v) = lo * u * (lo * v) by ac_rfl]
    exact Nat.mul_div_cancel_left _ hx
  have hv : 0 < v := Nat.pos_of_ne_zero fun q => by rw [q, Nat.mul_zero] at h0; exact absurd h0 (Nat.lt_irrefl 0)
  rw [e]
  have hp : 0 < lo * v := Nat.mul_pos hl hv
  exact ⟨by ac_rfl, ⟨v, rfl⟩, ⟨u, by ac_rfl⟩, hp, e, by
    rw [show lo * (lo * u * v) = lo * v * (lo * u) by ac_rfl]
    exact Nat.mul_div_cancel_left _ hp⟩
noncomputable def mirN (rs : List (List Nat)) : List (List Nat) := rs.map List.reverse
structure T3 (w a1 a2 b : Nat) : Prop where
  w0 : 0 < w
  u1 : a1 ∣ b
  u2 : a2 ∣ b
  v : b ∣ w
structure T4 (w a1 a2 a3 b1 b2 c : Nat) : Prop where
  w0 : 0 < w
  u1 : a1 ∣ b1
  u2 : a2 ∣ b1
  u2' : a2 ∣ b2
  u3 : a3 ∣ b2
  v1 : b1 ∣ c
  v2 : b2 ∣ c
  t : c ∣ w
noncomputable def I3 (w : Nat) (rs : List (List Nat)) : Prop := ∃ a1 a2 b, rs = [[a1, a2], [b]] ∧ T3 w a1 a2 b
noncomputable def I4 (w : Nat) (rs : List (List Nat)) : Prop := ∃ a1 a2 a3 b1 b2 c, rs = [[a1, a2, a3], [b1, b2], [c]] ∧ T4 w a1 a2 a3 b1 b2 c
theorem dpos {a b : Nat} (h : a ∣ b) (p : 0 < b) : 0 < a := Nat.pos_of_dvd_of_pos h p
theorem row_1 {x c : Nat} (h : 0 < x ∧ x < c) : Row1 [x] c := ⟨.inl ⟨x, rfl⟩, fun y hy => by rw [List.mem_singleton.mp hy]; exact h⟩
theorem row_2 {x y c : Nat} (h : 0 < x ∧ x < c) (h' : 0 < y ∧ y < c) : Row1 [x, y] c := ⟨.inr ⟨x, y, rfl⟩, fun z hz => by
  rcases List.mem_cons.mp hz with rfl | hz
  · exact h
  · rw [List.mem_singleton.mp hz]; exact h'⟩
/-- all that is asked of a number that is turned -/
theorem tog_ok {w n : Nat} (h1 : 1 < 2 ^ n) (hw : w < 2 ^ n) (w0 : 0 < w) {bl al : List Nat} {old : Nat} (hb : bl = [1] ∨ (∃ x, bl = [x] ∧ x ∣ old) ∨ ∃ x y, bl = [x, y] ∧ x ∣ old ∧ y ∣ old) (ha : (∃ x, al = [x] ∧ old ∣ x ∧ x ∣ w) ∨ ∃ x y, al = [x, y] ∧ old ∣ x ∧ old ∣ y ∧ x ∣ w ∧ y ∣ w) :
    TogOk n bl al old ∧ commN bl ∣ old ∧ old ∣ measN al ∧ 0 < measN al := by
  have low : ∀ {z}, z ∣ w → 0 < z ∧ z < 2 ^ n := fun h => ⟨dpos h w0, Nat.lt_of_le_of_lt (Nat.le_of_dvd w0 h) hw⟩
  have A : Row1 al (2 ^ n) ∧ old ∣ measN al ∧ measN al ∣ w := by
    rcases ha with ⟨x, rfl, q1, q2⟩ | ⟨x, y, rfl, q1, q2, q3, q4⟩
    · exact ⟨row_1 (low q2), q1, q2⟩
    · exact ⟨row_2 (low q3) (low q4), Nat.dvd_gcd q1 q2, Nat.dvd_trans (Nat.gcd_dvd_left x y) q3⟩
  have ow := Nat.dvd_trans A.2.1 A.2.2
  have B : Row1 bl (2 ^ n) ∧ commN bl ∣ old := by
    rcases hb with rfl | ⟨x, rfl, q⟩ | ⟨x, y, rfl, q1, q2⟩
    · exact ⟨row_1 ⟨Nat.one_pos, h1⟩, Nat.one_dvd _⟩
    · exact ⟨row_1 (low (Nat.dvd_trans q ow)), q⟩
    · exact ⟨row_2 (low (Nat.dvd_trans q1 ow)) (low (Nat.dvd_trans q2 ow)), Nat.lcm_dvd q1 q2⟩
  exact ⟨⟨B.1, A.1, low ow, Nat.dvd_trans A.2.1 (Nat.dvd_mul_left _ _), (low (Nat.dvd_trans B.2 ow)).2, (low A.2.2).2⟩, B.2, A.2.1, dpos A.2.2 w0⟩
theorem inv3 {w : Nat} (hw : w < 2 ^ 30) : Inv 30 w (I3 w) where
  len := fun rs ⟨a1, a2, b, e, _⟩ => by
    subst e
    exact ⟨(by decide : 2 ≤ 16), fun r hr => by
      rcases List.mem_cons.mp hr with rfl | hr
      · exact (by decide : 2 ≤ 16)
      · rw [List.mem_singleton.mp hr]; exact (by decide : 1 ≤ 16)⟩
  tog := fun rs ⟨a1, a2, b, e, T⟩ h p xs old hx ho => by
    subst e
    have b0 := dpos T.v T.w0
    match h, hx with
    | 0, hx =>
      cases hx
      match p, ho with
      | 0, ho =>
        cases ho
        obtain ⟨k, k1, k2, k3⟩ := tog_ok (n := 30) (by decide) hw T.w0 (bl := [1]) (al := [b]) (old := old) (.inl rfl) (.inl ⟨b, rfl, T.u1, T.v⟩)
        exact ⟨k, _, a2, b, rfl, T.w0, (ttn b0 k1 k2).h, T.u2, T.v⟩
      | 1, ho =>
        cases ho
        obtain ⟨k, k1, k2, k3⟩ := tog_ok (n := 30) (by decide) hw T.w0 (bl := [1]) (al := [b]) (old := old) (.inl rfl) (.inl ⟨b, rfl, T.u2, T.v⟩)
        unfold tog
        rw [show abv [[a1, old], [b]] w 0 1 = [b] by kernel_rfl]
        exact ⟨k, a1, _, b, rfl, T.w0, T.u1, (ttn b0 k1 k2).h, T.v⟩
      | p + 2, ho => cases ho
    | 1, hx =>
      cases hx
      match p, ho with
      | 0, ho =>
        cases ho
        obtain ⟨k, k1, k2, k3⟩ := tog_ok (n := 30) (by decide) hw T.w0 (bl := [a1, a2]) (al := [w]) (old := old) (.inr (.inr ⟨a1, a2, rfl, T.u1, T.u2⟩)) (.inl ⟨w, rfl, T.v, Nat.dvd_refl _⟩)
        have t := ttn k3 k1 k2
        exact ⟨k, a1, a2, _, rfl, T.w0, Nat.dvd_trans (Nat.dvd_lcm_left a1 a2) t.l, Nat.dvd_trans (Nat.dvd_lcm_right a1 a2) t.l, t.h⟩
      | p + 1, ho => cases ho
    | h + 2, hx => cases hx
theorem inv4 {w : Nat} (hw : w < 2 ^ 30) : Inv 30 w (I4 w) where
  len := fun rs ⟨a1, a2, a3, b1, b2, c, e, _⟩ => by
    subst e
    exact ⟨(by decide : 3 ≤ 16), fun r hr => by
      rcases List.mem_cons.mp hr with rfl | hr
      · exact (by decide : 3 ≤ 16)
      · rcases List.mem_cons.mp hr with rfl | hr
        · exact (by decide : 2 ≤ 16)
        · rw [List.mem_singleton.mp hr]; exact (by decide : 1 ≤ 16)⟩
  tog := fun rs ⟨a1, a2, a3, b1, b2, c, e, T⟩ h p xs old hx ho => by
    subst e
    have c0 := dpos T.t T.w0
    have b10 := dpos T.v1 c0
    have b20 := dpos T.v2 c0
    have b1w := Nat.dvd_trans T.v1 T.t
    have b2w := Nat.dvd_trans T.v2 T.t
    match h, hx with
    | 0, hx =>
      cases hx
      match p, ho with
      | 0, ho =>
        cases ho
        obtain ⟨k, k1, k2, k3⟩ := tog_ok (n := 30) (by decide) hw T.w0 (bl := [1]) (al := [b1]) (old := old) (.inl rfl) (.inl ⟨b1, rfl, T.u1, b1w⟩)
        exact ⟨k, _, a2, a3, b1, b2, c, rfl, T.w0, (ttn k3 k1 k2).h, T.u2, T.u2', T.u3, T.v1, T.v2, T.t⟩
      | 1, ho =>
        cases ho
        obtain ⟨k, k1, k2, k3⟩ := tog_ok (n := 30) (by decide) hw T.w0 (bl := [1]) (al := [b1, b2]) (old := old) (.inl rfl) (.inr ⟨b1, b2, rfl, T.u2, T.u2', b1w, b2w⟩)
        have t := (ttn k3 k1 k2).h
        exact ⟨k, a1, _, a3, b1, b2, c, rfl, T.w0, T.u1, Nat.dvd_trans t (Nat.gcd_dvd_left b1 b2), Nat.dvd_trans t (Nat.gcd_dvd_right b1 b2), T.u3, T.v1, T.v2, T.t⟩
      | 2, ho =>
        cases ho
        obtain ⟨k, k1, k2, k3⟩ := tog_ok (n := 30) (by decide) hw T.w0 (bl := [1]) (al := [b2]) (old := old) (.inl rfl) (.inl ⟨b2, rfl, T.u3, b2w⟩)
        unfold tog
        rw [show abv [[a1, a2, old], [b1, b2], [c]] w 0 2 = [b2] by kernel_rfl]
        exact ⟨k, a1, a2, _, b1, b2, c, rfl, T.w0, T.u1, T.u2, T.u2', (ttn k3 k1 k2).h, T.v1, T.v2, T.t⟩
      | p + 3, ho => cases ho
    | 1, hx =>
      cases hx
      match p, ho with
      | 0, ho =>
        cases ho
        obtain ⟨k, k1, k2, k3⟩ := tog_ok (n := 30) (by decide) hw T.w0 (bl := [a1, a2]) (al := [c]) (old := old) (.inr (.inr ⟨a1, a2, rfl, T.u1, T.u2⟩)) (.inl ⟨c, rfl, T.v1, T.t⟩)
        have t := ttn k3 k1 k2
        exact ⟨k, a1, a2, a3, _, b2, c, rfl, T.w0, Nat.dvd_trans (Nat.dvd_lcm_left a1 a2) t.l, Nat.dvd_trans (Nat.dvd_lcm_right a1 a2) t.l, T.u2', T.u3, t.h, T.v2, T.t⟩
      | 1, ho =>
        cases ho
        obtain ⟨k, k1, k2, k3⟩ := tog_ok (n := 30) (by decide) hw T.w0 (bl := [a2, a3]) (al := [c]) (old := old) (.inr (.inr ⟨a2, a3, rfl, T.u2', T.u3⟩)) (.inl ⟨c, rfl, T.v2, T.t⟩)
        unfold tog
        rw [show abv [[a1, a2, a3], [b1, old], [c]] w 1 1 = [c] by kernel_rfl, show bel [[a1, a2, a3], [b1, old], [c]] 1 1 = [a2, a3] by kernel_rfl]
        have t := ttn k3 k1 k2
        exact ⟨k, a1, a2, a3, b1, _, c, rfl, T.w0, T.u1, T.u2, Nat.dvd_trans (Nat.dvd_lcm_left a2 a3) t.l, Nat.dvd_trans (Nat.dvd_lcm_right a2 a3) t.l, T.v1, t.h, T.t⟩
      | p + 2, ho => cases ho
    | 2, hx =>
      cases hx
      match p, ho with
      | 0, ho =>
        cases ho
        obtain ⟨k, k1, k2, k3⟩ := tog_ok (n := 30) (by decide) hw T.w0 (bl := [b1, b2]) (al := [w]) (old := old) (.inr (.inr ⟨b1, b2, rfl, T.v1, T.v2⟩)) (.inl ⟨w, rfl, T.t, Nat.dvd_refl _⟩)
        have t := ttn k3 k1 k2
        exact ⟨k, a1, a2, a3, b1, b2, _, rfl, T.w0, T.u1, T.u2, T.u2', T.u3, Nat.dvd_trans (Nat.dvd_lcm_left b1 b2) t.l, Nat.dvd_trans (Nat.dvd_lcm_right b1 b2) t.l, t.h⟩
      | p + 1, ho => cases ho
    | h + 3, hx => cases hx

end
end Mine
namespace Mine
section
open PySem.Calls
theorem lap_cons (rs : List (List Nat)) (w h : Nat) (hs : List Nat) (n : Nat) (e : (rs.getD h []).length = n) : lapF rs w (h :: hs) = lapF ((List.range n).foldl (fun rs p => tog rs w h p) rs) w hs := by subst e; rfl
theorem lap_nil (rs : List (List Nat)) (w : Nat) : lapF rs w [] = rs := rfl
theorem r3b (w a1 a2 b : Nat) : (List.range 1).foldl (fun rs p => tog rs w 1 p) [[a1, a2], [b]] = [[a1, a2], [Nat.lcm a1 a2 * w / b]] := by kernel_rfl
theorem r3a (w a1 a2 b : Nat) : (List.range 2).foldl (fun rs p => tog rs w 0 p) [[a1, a2], [b]] = [[1 * b / a1, 1 * b / a2], [b]] := by kernel_rfl
theorem r4c (w a1 a2 a3 b1 b2 c : Nat) : (List.range 1).foldl (fun rs p => tog rs w 2 p) [[a1, a2, a3], [b1, b2], [c]] = [[a1, a2, a3], [b1, b2], [Nat.lcm b1 b2 * w / c]] := by kernel_rfl
theorem r4b (w a1 a2 a3 b1 b2 c : Nat) : (List.range 2).foldl (fun rs p => tog rs w 1 p) [[a1, a2, a3], [b1, b2], [c]] = [[a1, a2, a3], [Nat.lcm a1 a2 * c / b1, Nat.lcm a2 a3 * c / b2], [c]] := by kernel_rfl
theorem r4a (w a1 a2 a3 b1 b2 c : Nat) : (List.range 3).foldl (fun rs p => tog rs w 0 p) [[a1, a2, a3], [b1, b2], [c]] = [[1 * b1 / a1, 1 * Nat.gcd b1 b2 / a2, 1 * b2 / a3], [b1, b2], [c]] := by kernel_rfl
theorem lap3_dn (w a1 a2 b : Nat) : lapF [[a1, a2], [b]] w [1, 0] = [[1 * (Nat.lcm a1 a2 * w / b) / a1, 1 * (Nat.lcm a1 a2 * w / b) / a2], [Nat.lcm a1 a2 * w / b]] := by
  rw [lap_cons _ _ _ _ 1 rfl, r3b, lap_cons _ _ _ _ 2 rfl, r3a, lap_nil]
theorem lap3_up (w a1 a2 b : Nat) : lapF [[a1, a2], [b]] w [0, 1] = [[1 * b / a1, 1 * b / a2], [Nat.lcm (1 * b / a1) (1 * b / a2) * w / b]] := by
  rw [lap_cons _ _ _ _ 2 rfl, r3a, lap_cons _ _ _ _ 1 rfl, r3b, lap_nil]
theorem lap4_dn (w a1 a2 a3 b1 b2 c d e1 e2 : Nat) (h1 : Nat.lcm b1 b2 * w / c = d) (h2 : Nat.lcm a1 a2 * d / b1 = e1) (h3 : Nat.lcm a2 a3 * d / b2 = e2) : lapF [[a1, a2, a3], [b1, b2], [c]] w [2, 1, 0] = [[1 * e1 / a1, 1 * Nat.gcd e1 e2 / a2, 1 * e2 / a3], [e1, e2], [d]] := by
  rw [lap_cons _ _ _ _ 1 rfl, r4c, lap_cons _ _ _ _ 2 rfl, r4b, lap_cons _ _ _ _ 3 rfl, r4a, lap_nil, h1, h2, h3]
theorem lap4_up (w a1 a2 a3 b1 b2 c d1 d2 d3 e1 e2 : Nat) (h1 : 1 * b1 / a1 = d1) (h2 : 1 * Nat.gcd b1 b2 / a2 = d2) (h3 : 1 * b2 / a3 = d3) (h4 : Nat.lcm d1 d2 * c / b1 = e1) (h5 : Nat.lcm d2 d3 * c / b2 = e2) : lapF [[a1, a2, a3], [b1, b2], [c]] w [0, 1, 2] = [[d1, d2, d3], [e1, e2], [Nat.lcm e1 e2 * w / c]] := by
  rw [lap_cons _ _ _ _ 3 rfl, r4a, lap_cons _ _ _ _ 2 rfl, r4b, lap_cons _ _ _ _ 1 rfl, r4c, lap_nil, h1, h2, h3, h4, h5]
theorem dn3 {w a1 a2 b : Nat} (T : T3 w a1 a2 b) : ∃ x1 x2 y, lapF [[a1, a2], [b]] w [1, 0] = [[x1, x2], [y]] ∧ Lap3 w a1 a2 b x1 x2 y ∧ T3 w x1 x2 y ∧ lapF [[x1, x2], [y]] w [0, 1] = [[a1, a2], [b]] := by
  have t := ttn T.w0 (Nat.lcm_dvd T.u1 T.u2) T.v
  have t1 := ttn t.p (Nat.one_dvd a1) (Nat.dvd_trans (Nat.dvd_lcm_left a1 a2) t.l)
  have t2 := ttn t.p (Nat.one_dvd a2) (Nat.dvd_trans (Nat.dvd_lcm_right a1 a2) t.l)
  refine ⟨_, _, _, lap3_dn .., ⟨t.e, t1.e.trans (Nat.one_mul _), t2.e.trans (Nat.one_mul _)⟩, ⟨T.w0, t1.h, t2.h, t.h⟩, ?_⟩
  rw [lap3_up, t1.r, t2.r, t.r]
theorem dn4 {w a1 a2 a3 b1 b2 c : Nat} (T : T4 w a1 a2 a3 b1 b2 c) : ∃ x1 x2 x3 y1 y2 z, lapF [[a1, a2, a3], [b1, b2], [c]] w [2, 1, 0] = [[x1, x2, x3], [y1, y2], [z]] ∧ Lap4 w a1 a2 a3 b1 b2 c x1 x2 x3 y1 y2 z ∧ T4 w x1 x2 x3 y1 y2 z ∧ lapF [[x1, x2, x3], [y1, y2], [z]] w [0, 1, 2] = [[a1, a2, a3], [b1, b2], [c]] := by
  have t := ttn T.w0 (Nat.lcm_dvd T.v1 T.v2) T.t
  have u1 := ttn t.p (Nat.lcm_dvd T.u1 T.u2) (Nat.dvd_trans (Nat.dvd_lcm_left b1 b2) t.l)
  have u2 := ttn t.p (Nat.lcm_dvd T.u2' T.u3) (Nat.dvd_trans (Nat.dvd_lcm_right b1 b2) t.l)
  have v1 := ttn u1.p (Nat.one_dvd a1) (Nat.dvd_trans (Nat.dvd_lcm_left a1 a2) u1.l)
  have v2 := ttn (Nat.gcd_pos_of_pos_left _ u1.p) (Nat.one_dvd a2) (Nat.dvd_gcd (Nat.dvd_trans (Nat.dvd_lcm_right a1 a2) u1.l) (Nat.dvd_trans (Nat.dvd_lcm_left a2 a3) u2.l))
  have v3 := ttn u2.p (Nat.one_dvd a3) (Nat.dvd_trans (Nat.dvd_lcm_right a2 a3) u2.l)
  refine ⟨_, _, _, _, _, _, lap4_dn _ _ _ _ _ _ _ _ _ _ rfl rfl rfl, ⟨t.e, u1.e, u2.e, v1.e.trans (Nat.one_mul _), ?_, v3.e.trans (Nat.one_mul _)⟩, ⟨T.w0, v1.h, Nat.dvd_trans v2.h (Nat.gcd_dvd_left ..), Nat.dvd_trans v2.h (Nat.gcd_dvd_right ..), v3.h, u1.h, u2.h, t.h⟩, ?_⟩
  · rw [Nat.mul_right_comm, v2.e, Nat.one_mul, Nat.gcd_mul_lcm]
  · rw [lap4_up _ _ _ _ _ _ _ _ _ _ _ _ v1.r v2.r v3.r u1.r u2.r, t.r]
theorem mir3 (w a1 a2 b : Nat) : lapF [[a2, a1], [b]] w [1, 0] = mirN (lapF [[a1, a2], [b]] w [1, 0]) := by
  rw [lap3_dn, lap3_dn, Nat.lcm_comm]; rfl
theorem mir4 (w a1 a2 a3 b1 b2 c : Nat) : lapF [[a3, a2, a1], [b2, b1], [c]] w [2, 1, 0] = mirN (lapF [[a1, a2, a3], [b1, b2], [c]] w [2, 1, 0]) := by
  rw [lap4_dn _ _ _ _ _ _ _ _ _ _ rfl rfl rfl, lap4_dn _ _ _ _ _ _ _ _ _ _ rfl rfl rfl, Nat.lcm_comm b2 b1, Nat.lcm_comm a3 a2, Nat.lcm_comm a2 a1, Nat.gcd_comm]; rfl
noncomputable def dnL (side : Nat) : List Nat := (List.range (side - 1)).reverse
/-- all that the law's walk asks of the triangles -/
structure Lw (side w : Nat) (I : List (List Nat) → Prop) (st : Nat → List (List Nat)) : Prop where
  s34 : side = 3 ∨ side = 4
  w0 : 0 < w ∧ w < 2 ^ 30
  inv : Inv 30 w I
  i0 : I (st 0)
  di : ∀ rs, I rs → I (lapF rs w (dnL side))
  dn : ∀ k, st (k + 1) = lapF (st k) w (dnL side)
  mir : st side = mirN (st 0)
  im : ∀ rs, I rs → I (mirN rs)
  dm : ∀ rs, I rs → lapF (mirN rs) w (dnL side) = mirN (lapF rs w (dnL side))
  up : ∀ rs, I rs → lapF (lapF rs w (dnL side)) w (List.range (side - 1)) = rs
  sh : ∀ rs, I rs → rs.length = side - 1 ∧ triF (side - 1) (rs.flatten ++ [w]) = rs ∧ rs.flatten.length = side * (side - 1) / 2 ∧ ∀ x ∈ rs.flatten, 0 < x ∧ x ≤ w
  top : ∀ rs, I rs → ∃ c, rs.getLast? = some [c] ∧ 0 < c ∧ c ∣ w
  ord : ∀ rs, I rs → ∀ (h : Nat) (xs : List Nat) (p x : Nat), 0 < h → rs[h]? = some xs → xs[p]? = some x → ∀ y ∈ slc (rs.getD (h - 1) []) (some (p : Int)) (some ((p : Int) + 2)) none, 0 < y ∧ y ∣ x
noncomputable def stF (w side : Nat) (rs : List (List Nat)) : Nat → List (List Nat)
  | 0 => rs
  | k + 1 => lapF (stF w side rs k) w (dnL side)
theorem lw3 {w a1 a2 b : Nat} (T : T3 w a1 a2 b) (hw : w < 2 ^ 30) : Lw 3 w (I3 w) (stF w 3 [[a1, a2], [b]]) where
  s34 := .inl rfl
  w0 := ⟨T.w0, hw⟩
  inv := inv3 hw
  i0 := ⟨_, _, _, rfl, T⟩
  di := fun rs ⟨a1, a2, b, e, T⟩ => by
    subst e
    obtain ⟨x1, x2, y, e, _, T', _⟩ := dn3 T
    exact ⟨x1, x2, y, e, T'⟩
  dn := fun k => rfl
  mir := by
    obtain ⟨x1, x2, y, e1, L1, T1, _⟩ := dn3 T
    obtain ⟨y1, y2, z, e2, L2, T2, _⟩ := dn3 T1
    obtain ⟨z1, z2, u, e3, L3, _, _⟩ := dn3 T2
    have ps : ∀ {a1 a2 b}, T3 w a1 a2 b → Pos3 a1 a2 b := fun T => have b0 := dpos T.v T.w0; ⟨dpos T.u1 b0, dpos T.u2 b0, b0⟩
    obtain ⟨r1, r2, r3⟩ := three T.w0 (ps T) (ps T1) (ps T2) L1 L2 L3
    show lapF (lapF (lapF [[_, _], [_]] w [1, 0]) w [1, 0]) w [1, 0] = _
    rw [e1, e2, e3, r1, r2, r3]; rfl
  im := fun rs ⟨a1, a2, b, e, T⟩ => by subst e; exact ⟨a2, a1, b, rfl, T.w0, T.u2, T.u1, T.v⟩
  dm := fun rs ⟨a1, a2, b, e, T⟩ => by subst e; exact mir3 ..
  up := fun rs ⟨a1, a2, b, e, T⟩ => by
    subst e
    obtain ⟨x1, x2, y, e1, _, _, e2⟩ := dn3 T
    show lapF (lapF _ w [1, 0]) w [0, 1] = _
    rw [e1, e2]
  sh := fun rs ⟨a1, a2, b, e, T⟩ => by
    subst e
    refine ⟨rfl, rfl, rfl, fun x hx => ?_⟩
    have key : ∀ {z}, z ∣ w → 0 < z ∧ z ≤ w := fun h => ⟨dpos h T.w0, Nat.le_of_dvd T.w0 h⟩
    have hx : x ∈ [a1, a2, b] := hx
    simp only [List.mem_cons, List.not_mem_nil, or_false] at hx
    rcases hx with rfl | rfl | rfl
    · exact key (Nat.dvd_trans T.u1 T.v)
    · exact key (Nat.dvd_trans T.u2 T.v)
    · exact key T.v
  top := fun rs ⟨a1, a2, b, e, T⟩ => by subst e; exact ⟨b, rfl, dpos T.v T.w0, T.v⟩
  ord := fun rs ⟨a1, a2, b, e, T⟩ h xs p x h0 hx hp y hy => by
    subst e
    have b0 := dpos T.v T.w0
    match h, h0, hx, hy with
    | 1, _, hx, hy =>
      cases hx
      match p, hp, hy with
      | 0, hp, hy =>
        cases hp
        have hy : y ∈ [a1, a2] := hy
        rcases List.mem_cons.mp hy with rfl | hy
        · exact ⟨dpos T.u1 b0, T.u1⟩
        · rw [List.mem_singleton.mp hy]; exact ⟨dpos T.u2 b0, T.u2⟩
      | p + 1, hp, _ => cases hp
    | h + 2, _, hx, _ => cases hx
theorem lw4 {w a1 a2 a3 b1 b2 c : Nat} (T : T4 w a1 a2 a3 b1 b2 c) (hw : w < 2 ^ 30) : Lw 4 w (I4 w) (stF w 4 [[a1, a2, a3], [b1, b2], [c]]) where
  s34 := .inr rfl
  w0 := ⟨T.w0, hw⟩
  inv := inv4 hw
  i0 := ⟨_, _, _, _, _, _, rfl, T⟩
  di := fun rs ⟨a1, a2, a3, b1, b2, c, e, T⟩ => by
    subst e
    obtain ⟨x1, x2, x3, y1, y2, z, e, _, T', _⟩ := dn4 T
    exact ⟨x1, x2, x3, y1, y2, z, e, T'⟩
  dn := fun k => rfl
  mir := by
    obtain ⟨p1, p2, p3, p4, p5, p6, e1, L1, T1, _⟩ := dn4 T
    obtain ⟨q1, q2, q3, q4, q5, q6, e2, L2, T2, _⟩ := dn4 T1
    obtain ⟨r1, r2, r3, r4, r5, r6, e3, L3, T9, _⟩ := dn4 T2
    obtain ⟨s1, s2, s3, s4, s5, s6, e4, L4, _, _⟩ := dn4 T9
    have c0 := dpos T.t T.w0
    have b10 := dpos T.v1 c0
    have b20 := dpos T.v2 c0
    have a1 := dpos T.u1 b10
    have a2 := dpos T.u2 b10
    have a3 := dpos T.u3 b20
    obtain ⟨D, E1, E3, S, F⟩ := forms a1 a2 a3 b10 b20
    obtain ⟨m1, m2, m3, n1, n2, o⟩ := four T.w0 ⟨a1, a2, a3, b10, b20, c0⟩ rfl rfl rfl F L1 L2 L3 L4
    show lapF (lapF (lapF (lapF [[_, _, _], [_, _], [_]] w [2, 1, 0]) w [2, 1, 0]) w [2, 1, 0]) w [2, 1, 0] = _
    rw [e1, e2, e3, e4, m1, m2, m3, n1, n2, o]; rfl
  im := fun rs ⟨a1, a2, a3, b1, b2, c, e, T⟩ => by subst e; exact ⟨a3, a2, a1, b2, b1, c, rfl, T.w0, T.u3, T.u2', T.u2, T.u1, T.v2, T.v1, T.t⟩
  dm := fun rs ⟨a1, a2, a3, b1, b2, c, e, T⟩ => by subst e; exact mir4 ..
  up := fun rs ⟨a1, a2, a3, b1, b2, c, e, T⟩ => by
    subst e
    obtain ⟨_, _, _, _, _, _, e1, _, _, e2⟩ := dn4 T
    show lapF (lapF _ w [2, 1, 0]) w [0, 1, 2] = _
    rw [e1, e2]
  sh := fun rs ⟨a1, a2, a3, b1, b2, c, e, T⟩ => by
    subst e
    refine ⟨rfl, rfl, rfl, fun x hx => ?_⟩
    have key : ∀ {z}, z ∣ c → 0 < z ∧ z ≤ w := fun h => have h := Nat.dvd_trans h T.t; ⟨dpos h T.w0, Nat.le_of_dvd T.w0 h⟩
    have hx : x ∈ [a1, a2, a3, b1, b2, c] := hx
    simp only [List.mem_cons, List.not_mem_nil, or_false] at hx
    rcases hx with rfl | rfl | rfl | rfl | rfl | rfl
    · exact key (Nat.dvd_trans T.u1 T.v1)
    · exact key (Nat.dvd_trans T.u2 T.v1)
    · exact key (Nat.dvd_trans T.u3 T.v2)
    · exact key T.v1
    · exact key T.v2
    · exact key (Nat.dvd_refl _)
  top := fun rs ⟨a1, a2, a3, b1, b2, c, e, T⟩ => by subst e; exact ⟨c, rfl, dpos T.t T.w0, T.t⟩
  ord := fun rs ⟨a1, a2, a3, b1, b2, c, e, T⟩ h xs p x h0 hx hp y hy => by
    subst e
    have c0 := dpos T.t T.w0
    have two : ∀ {u v z : Nat}, 0 < z → u ∣ z → v ∣ z → y ∈ [u, v] → 0 < y ∧ y ∣ z := fun z0 h1 h2 hy => by
      rcases List.mem_cons.mp hy with rfl | hy
      · exact ⟨dpos h1 z0, h1⟩
      · rw [List.mem_singleton.mp hy]; exact ⟨dpos h2 z0, h2⟩
    match h, h0, hx, hy with
    | 1, _, hx, hy =>
      cases hx
      match p, hp, hy with
      | 0, hp, hy => cases hp; exact two (dpos T.v1 c0) T.u1 T.u2 hy
      | 1, hp, hy => cases hp; exact two (dpos T.v2 c0) T.u2' T.u3 hy
      | p + 2, hp, _ => cases hp
    | 2, _, hx, hy =>
      cases hx
      match p, hp, hy with
      | 0, hp, hy => cases hp; exact two c0 T.v1 T.v2 hy
      | p + 1, hp, _ => cases hp
    | h + 3, _, hx, _ => cases hx
section
variable {side w : Nat} {I : List (List Nat) → Prop} {st : Nat → List (List Nat)}
theorem mir_mir (rs : List (List Nat)) : mirN (mirN rs) = rs := by
  unfold mirN
  rw [List.map_map]
  induction rs with
  | nil => rfl
  | cons r rs ih => rw [List.map_cons, ih]; exact congrArg (· :: rs) (List.reverse_reverse r)
theorem Lw.i (L : Lw side w I st) : ∀ k, I (st k)
  | 0 => L.i0
  | k + 1 => by rw [L.dn]; exact L.di _ (L.i k)
/-- the triangle after so many laps -/
noncomputable def tl (side : Nat) (st : Nat → List (List Nat)) (k : Int) : List (List Nat) := if (k.fdiv side).fmod 2 = 0 then st (k.fmod side).toNat else mirN (st (k.fmod side).toNat)
theorem Lw.s (L : Lw side w I st) : 3 ≤ side ∧ side ≤ 4 ∧ 0 < side ∧ side < 2 ^ 30 ∧ (0 : Int) < side := by rcases L.s34 with rfl | rfl <;> decide
theorem Lw.itl (L : Lw side w I st) (k : Int) : I (tl side st k) := by
  unfold tl
  split
  · exact L.i _
  · exact L.im _ (L.i _)
theorem fmod2_succ (q : Int) : (q + 1).fmod 2 = 0 ↔ ¬ q.fmod 2 = 0 := by
  rw [Int.fmod_eq_emod_of_nonneg _ (by decide), Int.fmod_eq_emod_of_nonneg _ (by decide)]; (first | lia | omega)
theorem Lw.tln (L : Lw side w I st) (k : Int) : lapF (tl side st k) w (dnL side) = tl side st (k + 1) := by
  have s0 := L.s.2.2.2.2
  obtain ⟨m1, m2⟩ := fmod_pos (x := k) s0
  have e := Int.mul_fdiv_add_fmod k side
  unfold tl
  by_cases h : k.fmod side + 1 < side
  · obtain ⟨u1, u2⟩ := div_unique (a := k + 1) (q := k.fdiv side) (r := k.fmod side + 1) s0 (by rw [Int.mul_comm, ← Int.add_assoc, e]) (Int.add_nonneg m1 (by decide)) h
    rw [u1, u2, Int.toNat_add m1 (by decide)]
    split
    · exact (L.dn _).symm
    · rw [L.dm _ (L.i _), ← L.dn]; rfl
  · have h1 : k.fmod side + 1 = side := Int.le_antisymm m2 (Int.not_lt.mp h)
    obtain ⟨u1, u2⟩ := div_unique (a := k + 1) (q := k.fdiv side + 1) (r := 0) s0 (by rw [Int.add_zero, Int.add_mul, Int.one_mul, Int.mul_comm (k.fdiv side)]; exact (congrArg (fun z => z + 1) e.symm).trans (by rw [Int.add_assoc, h1])) (Int.le_refl 0) s0
    have hs : (k.fmod side).toNat + 1 = side := Int.ofNat.inj (show (((k.fmod side).toNat + 1 : Nat) : Int) = (side : Int) from (congrArg (fun z => z + 1) (Int.toNat_of_nonneg m1)).trans h1)
    have e2 : lapF (st (k.fmod side).toNat) w (dnL side) = mirN (st 0) := by rw [← L.dn, hs, L.mir]
    rw [u1, u2]
    split
    · rename_i q
      rw [if_neg (fun z => (fmod2_succ _).mp z q), e2]; rfl
    · rename_i q
      rw [if_pos ((fmod2_succ _).mpr q), L.dm _ (L.i _), e2, mir_mir]; rfl
theorem Lw.tlp (L : Lw side w I st) (k : Int) : lapF (tl side st k) w (List.range (side - 1)) = tl side st (k - 1) := by
  have := L.up _ (L.itl (k - 1))
  rwa [L.tln, Int.sub_add_cancel] at this
end

end
end Mine
namespace Mine
section
open PySem.Calls
-- slices
theorem slc_rng {α : Type} (l : List α) (a : Nat) : ∀ n, (List.map (fun (k : Nat) => ((a : Int) + 1 * (k : Int)).toNat) (List.range n)).filterMap (fun i => l[i]?) = (l.drop a).take n
  | 0 => rfl
  | n + 1 => by
    rw [List.range_succ, List.map_append, List.filterMap_append, slc_rng l a n, List.take_add_one, List.getElem?_drop]
    congr 1
    have e : ((a : Int) + 1 * (n : Int)).toNat = a + n := by rw [Int.one_mul]; rfl
    rw [List.map_singleton, List.filterMap_cons, e]
    cases l[a + n]? <;> rfl
theorem slc_nat {α : Type} {l : List α} {a n : Nat} {hi : Option Int} (h : hi = some ((a : Int) + (n : Int)) ∨ hi = none ∧ a + n = l.length) (hl : a + n ≤ l.length) : slc l (some (a : Int)) hi none = (l.drop a).take n := by
  have e1 : (sliceBounds (some (a : Int)) hi none l.length) = ((a : Int), (a : Int) + n, 1) := by
    have mm : ∀ {b : Nat}, b ≤ l.length → max 0 (min (b : Int) l.length) = b := fun h => by rw [Int.min_eq_left (Int.ofNat_le.mpr h), Int.max_eq_right (Int.natCast_nonneg _)]
    have m := mm (Nat.le_trans (Nat.le_add_right a n) hl)
    have nn : ∀ b : Nat, ¬ (b : Int) < 0 := fun b => Int.not_lt.mpr (Int.natCast_nonneg b)
    unfold sliceBounds
    rcases h with rfl | ⟨rfl, h⟩
    · show (max 0 (min (if (a : Int) < 0 then (a : Int) + l.length else a) _), max 0 (min (if ((a + n : Nat) : Int) < 0 then ((a + n : Nat) : Int) + l.length else ((a + n : Nat) : Int)) _), (1 : Int)) = _
      rw [if_neg (nn _), if_neg (nn _), m, mm hl]; rfl
    · show (max 0 (min (if (a : Int) < 0 then (a : Int) + l.length else a) _), (l.length : Int), (1 : Int)) = _
      rw [if_neg (nn _), m, ← h]; rfl
  have e2 : sliceRange (a : Int) ((a : Int) + n) 1 = List.map (fun (k : Nat) => ((a : Int) + 1 * (k : Int)).toNat) (List.range n) := by
    have c : (if (a : Int) < (a : Int) + n then ((a : Int) + n - a + 1 - 1) / 1 else 0).toNat = n := by
      rcases Nat.eq_zero_or_pos n with rfl | h
      · rw [Int.natCast_zero, Int.add_zero, if_neg (Int.lt_irrefl _)]; rfl
      · rw [if_pos (Int.lt_add_of_pos_right _ (Int.natCast_pos.mpr h)), Int.add_sub_cancel, Int.ediv_one, Int.add_comm (a : Int), Int.add_sub_cancel]; rfl
    show List.map _ (List.range (if (a : Int) < (a : Int) + n then ((a : Int) + n - a + 1 - 1) / 1 else 0).toNat) = _
    rw [c]
  unfold slc
  rw [e1, e2, slc_rng]
-- equal things
theorem eqP_self {x : PV} {d : PyData} (h : toD x = some d) (hs : SeqAt.shaped d = true) : eqP x x = some true := by
  unfold eqP
  rw [h]
  show (if (SeqAt.shaped d && SeqAt.shaped d) = true then some (PyData.eqv d d) else none) = _
  rw [hs, SeqAt.eqv_refl d (SeqAt.canLay_of_shaped hs)]; rfl
theorem ne_self {x : PV} {b : Bool} (hi : ∀ i, x ≠ .int i) (y : PV) (hi' : ∀ i, y ≠ .int i) (e : eqP x y = some b) : kcmp .NotEq x y ∧ vcmp .NotEq x y = !b ∧ kcmp .Eq x y ∧ vcmp .Eq x y = b := by
  have k1 : vcmp .NotEq x y = !(eqP x y).getD false := by
    cases x <;> first | rfl | (cases y <;> first | rfl | exact absurd rfl (hi _))
  have k2 : vcmp .Eq x y = (eqP x y).getD false := by
    cases x <;> first | rfl | (cases y <;> first | rfl | exact absurd rfl (hi _))
  have c : ∀ op, cmpop op x y = cmpE x y op := fun op => by
    cases x <;> first | rfl | (cases y <;> first | rfl | exact absurd rfl (hi _))
  unfold kcmp
  rw [c, c, k1, k2]
  show (eqP x y).map (!·) = some _ ∧ _ ∧ eqP x y = some _ ∧ _
  rw [e]
  exact ⟨rfl, rfl, rfl, rfl⟩
section
variable {Γ : Fx} {ρ : PEnv} {a b : MV} {u w : PV} {t : Bool}
theorem k_neP (p : ok a ρ u) (q : ok b ρ w) (hi : ∀ i, u ≠ .int i) (hi' : ∀ i, w ≠ .int i) (e : eqP u w = some t) : okT (tCmp .NotEq a b) ρ (!t) := by
  obtain ⟨h1, h2, _, _⟩ := ne_self hi w hi' e
  exact h2 ▸ k_cmp p q h1
theorem k_eqP (p : ok a ρ u) (q : ok b ρ w) (hi : ∀ i, u ≠ .int i) (hi' : ∀ i, w ≠ .int i) (e : eqP u w = some t) : okT (tCmp .Eq a b) ρ t := by
  obtain ⟨_, _, h1, h2⟩ := ne_self hi w hi' e
  exact h2 ▸ k_cmp p q h1
theorem k_eqV (p : ok a ρ u) (q : ok b ρ w) (hi : ∀ i, u ≠ .int i) (hi' : ∀ i, w ≠ .int i) (e : eqP u w = some t) : ok (dCmp .Eq a b) ρ (.bool t) := by
  obtain ⟨_, _, h1, h2⟩ := ne_self hi w hi' e
  exact h2 ▸ k_cmpV p q h1
end
noncomputable def dInts (l : List Nat) : List PyData := l.map fun (n : Nat) => .int (n : Int)
theorem toDs_nzs : ∀ l : List Nat, toDs (nzs l) = some (dInts l)
  | [] => rfl
  | n :: l => by
    show (some (PyData.int n)).bind (fun d => (toDs (nzs l)).map (d :: ·)) = _
    rw [toDs_nzs l]; rfl
theorem lay_ints : ∀ l : List Nat, PyData.canLayAll0 (dInts l) = true ∧ PyData.depthAll (dInts l) = 0
  | [] => ⟨rfl, rfl⟩
  | n :: l => by
    obtain ⟨h1, h2⟩ := lay_ints l
    exact ⟨by show (PyData.canLay0 (.int n) && PyData.canLayAll0 (dInts l)) = true; rw [h1]; rfl, by show max (PyData.depth (.int n)) (PyData.depthAll (dInts l)) = 0; rw [h2]; rfl⟩
theorem toDs_rows : ∀ rs : List (List Nat), ∃ ds, toDs (rowsP rs) = some ds ∧ PyData.canLayAll0 ds = true ∧ PyData.depthAll ds ≤ 1
  | [] => ⟨[], rfl, rfl, Nat.zero_le _⟩
  | r :: rs => by
    obtain ⟨ds, h1, h2, h3⟩ := toDs_rows rs
    obtain ⟨l1, l2⟩ := lay_ints r
    refine ⟨.list (dInts r) :: ds, ?_, ?_, ?_⟩
    · show ((toDs (nzs r)).map PyData.list).bind (fun d => (toDs (rowsP rs)).map (d :: ·)) = _
      rw [toDs_nzs, h1]; rfl
    · show (PyData.canLayAll0 (dInts r) && PyData.canLayAll0 ds) = true
      rw [l1, h2]; rfl
    · show max (PyData.depthAll (dInts r) + 1) (PyData.depthAll ds) ≤ 1
      rw [l2]; exact Nat.max_le.mpr ⟨Nat.le_refl _, h3⟩
theorem eq_rows (rs : List (List Nat)) : eqP (.lst (rowsP rs)) (.lst (rowsP rs)) = some true := by
  obtain ⟨ds, h1, h2, h3⟩ := toDs_rows rs
  refine eqP_self (d := .list ds) (by show (toDs (rowsP rs)).map _ = _; rw [h1]; rfl) ?_
  show (PyData.canLayAll0 ds && decide (PyData.depthAll ds + 1 ≤ 64)) = true
  rw [h2, decide_eq_true (Nat.le_trans (Nat.succ_le_succ h3) (by decide))]; rfl
theorem eq_nil (r : List Nat) (rs : List (List Nat)) : eqP (.lst (rowsP (r :: rs))) (.lst []) = some false := by
  obtain ⟨ds, h1, h2, h3⟩ := toDs_rows (r :: rs)
  have hd : ∃ d ds', ds = d :: ds' := by
    have h1 : ((toDs (nzs r)).map PyData.list).bind (fun d => (toDs (rowsP rs)).map (d :: ·)) = some ds := h1
    rw [toDs_nzs] at h1
    cases h : toDs (rowsP rs) with
    | none => rw [h] at h1; cases h1
    | some z => rw [h] at h1; exact ⟨_, _, (Option.some.inj h1).symm⟩
  obtain ⟨d, ds', rfl⟩ := hd
  unfold eqP
  rw [show toD (.lst (rowsP (r :: rs))) = some (.list (d :: ds')) by show (toDs (rowsP (r :: rs))).map _ = _; rw [h1]; rfl]
  show (if (SeqAt.shaped (.list (d :: ds')) && SeqAt.shaped (.list [])) = true then _ else _) = _
  have s1 : SeqAt.shaped (.list (d :: ds')) = true := by
    show (PyData.canLayAll0 (d :: ds') && decide (PyData.depthAll (d :: ds') + 1 ≤ 64)) = true
    rw [h2, decide_eq_true (Nat.le_trans (Nat.succ_le_succ h3) (by decide))]; rfl
  rw [s1]; rfl
theorem eq_ints (l : List Nat) : eqP (.lst (nzs l)) (.lst (nzs l)) = some true := by
  obtain ⟨l1, l2⟩ := lay_ints l
  refine eqP_self (d := .list (dInts l)) (by show (toDs (nzs l)).map _ = _; rw [toDs_nzs]; rfl) ?_
  show (PyData.canLayAll0 (dInts l) && decide (PyData.depthAll (dInts l) + 1 ≤ 64)) = true
  rw [l1, l2]; rfl
theorem eq_pair (a b : Int) : eqP (.tup [.int a, .int b]) (.tup [.int a, .int b]) = some true := eqP_self (d := .tuple [.int a, .int b]) rfl rfl
-- figures again
theorem worth_inj {w : Nat} : ∀ {ds es : List Int}, ds.length = es.length → (∀ d ∈ ds, 0 ≤ d ∧ d < 2 ^ w) → (∀ d ∈ es, 0 ≤ d ∧ d < 2 ^ w) → worth w ds = worth w es → ds = es
  | [], [], _, _, _, _ => rfl
  | [], _ :: _, h, _, _, _ => by cases h
  | _ :: _, [], h, _, _, _ => by cases h
  | d :: ds, e :: es, h, hd, he, hw => by
    obtain ⟨d0, d1⟩ := hd d (.head _)
    obtain ⟨e0, e1⟩ := he e (.head _)
    have hp : (0 : Int) < 2 ^ w := Int.pow_pos (by decide)
    have key : ∀ {x y : Int}, 0 ≤ x → x < 2 ^ w → (x + y * 2 ^ w) % 2 ^ w = x ∧ (x + y * 2 ^ w) / 2 ^ w = y := fun {x y} h0 h1 => by
      refine ⟨by rw [Int.add_mul_emod_self_right]; exact Int.emod_eq_of_lt h0 h1, ?_⟩
      rw [Int.add_mul_ediv_right _ _ (Int.ne_of_gt hp), Int.ediv_eq_zero_of_lt h0 h1, Int.zero_add]
    have hw : d + worth w ds * 2 ^ w = e + worth w es * 2 ^ w := hw
    obtain ⟨p1, p2⟩ := key (y := worth w ds) d0 d1
    obtain ⟨q1, q2⟩ := key (y := worth w es) e0 e1
    rw [hw] at p1 p2
    rw [← q1, p1, worth_inj (ds := ds) (es := es) (by simpa using h) (fun z hz => hd z (.tail _ hz)) (fun z hz => he z (.tail _ hz)) (p2.symm.trans q2)]
theorem worth_hi {w : Nat} {t : Int} : ∀ {ds : List Int}, (∀ d ∈ ds, 0 ≤ d ∧ d < 2 ^ w) → worth w (ds ++ [t]) = worth w ds + t * 2 ^ (w * ds.length) ∧ 0 ≤ worth w ds ∧ worth w ds < 2 ^ (w * ds.length) := fun {ds} h => by
  refine ⟨by rw [worth_append, worth_one], ?_⟩
  induction ds with
  | nil => exact ⟨Int.le_refl _, by show (0 : Int) < 2 ^ (w * 0); rw [Nat.mul_zero]; decide⟩
  | cons d ds ih =>
    obtain ⟨i1, i2⟩ := ih fun z hz => h z (.tail _ hz)
    obtain ⟨d0, d1⟩ := h d (.head _)
    have hp : (0 : Int) < 2 ^ w := Int.pow_pos (by decide)
    refine ⟨Int.add_nonneg d0 (Int.mul_nonneg i1 (Int.le_of_lt hp)), ?_⟩
    show d + worth w ds * 2 ^ w < 2 ^ (w * (ds.length + 1))
    rw [Nat.mul_succ, Int.pow_add, Int.add_comm]
    exact add_mul_lt d1 i2 (Int.le_of_lt hp)
/-- a number's figures, put together and taken apart -/
theorem dig_back {t : Int} {w : Nat} {ds : List Int} (ht : 0 < t) (hw : bits t = w) (hd : ∀ d ∈ ds, 0 ≤ d ∧ d < 2 ^ w) (hl : ds.length ≤ 6) (hw2 : w ≤ 30) : digP (worth w (ds ++ [t])) w 18 = some (ds ++ [t]) ∧ bits (worth w (ds ++ [t])) ≤ w * ds.length + w := by
  obtain ⟨e, w0, w1⟩ := worth_hi (w := w) (t := t) hd
  have wp : 0 < w := hw ▸ bits_pos ht
  have t1 : t < 2 ^ w := lt_of_bits (Int.le_of_lt ht) (Nat.le_of_eq hw)
  have hp : (0 : Int) < 2 ^ (w * ds.length) := Int.pow_pos (by decide)
  have t2 := bits_ge ht hw wp
  have a0 : 0 ≤ worth w (ds ++ [t]) := by rw [e]; exact Int.add_nonneg w0 (Int.mul_nonneg (Int.le_of_lt ht) (Int.le_of_lt hp))
  have hlen : w * ds.length ≤ 180 := Nat.le_trans (Nat.mul_le_mul hw2 hl) (by decide)
  have lw : w * ds.length + w ≤ 210 := Nat.add_le_add hlen hw2
  have u : worth w (ds ++ [t]) < 2 ^ (w * ds.length + w) := by
    rw [e, Int.pow_add, Int.mul_comm (2 ^ (w * ds.length)), Int.add_comm]
    exact add_mul_lt w1 t1 (Int.le_of_lt hp)
  have l : (2 : Int) ^ (w * ds.length + (w - 1)) ≤ worth w (ds ++ [t]) := by
    rw [e, Int.pow_add, Int.mul_comm (2 ^ (w * ds.length))]
    exact Int.le_trans (Int.mul_le_mul_of_nonneg_right t2 (Int.le_of_lt hp)) (Int.le_add_of_nonneg_left w0)
  have b1 := bits_of_lt a0 u
  have b2 : w * ds.length + w ≤ bits (worth w (ds ++ [t])) := by
    have : w * ds.length + (w - 1) + 1 = w * ds.length + w := by rw [Nat.add_assoc, Nat.sub_add_cancel wp]
    exact this ▸ Nat.lt_of_not_le fun q => Int.not_lt.mpr l (lt_of_bits a0 q)
  obtain ⟨es, g1, g2, g3, g4⟩ := digP_ok (w := w) (k := 17) wp a0 b1 (Nat.le_trans lw (by decide)) (Nat.le_trans hw2 (by decide)) (Nat.le_trans b1 (Nat.le_trans lw (by decide)))
  have el : es.length = (ds ++ [t]).length := by
    rw [g4, List.length_append, List.length_singleton, Nat.le_antisymm b1 b2, ← Nat.mul_succ, Nat.add_sub_assoc wp, Nat.add_comm, Nat.add_mul_div_left _ _ wp, Nat.div_eq_of_lt (Nat.sub_lt wp Nat.one_pos), Nat.zero_add]
  have es' := worth_inj (w := w) el (fun z hz => ⟨(g3 z hz).1, (g3 z hz).2.2⟩) (fun z hz => by
    rcases List.mem_append.mp hz with hz | hz
    · exact hd z hz
    · rw [List.mem_singleton.mp hz]; exact ⟨Int.le_of_lt ht, t1⟩) g2
  exact ⟨es' ▸ g1, b1⟩

end
end Mine
namespace Mine
section
open PySem.Calls
section
variable {Γ : Fx} {ρ : PEnv} {a b : MV} {B : MB} {Q : Fl → PEnv → Prop}
theorem idx_nat {n i : Nat} (h : i < n) (hn : n ≤ 16777216) : idx n (i : Int) = some i := idx_nat' h (Nat.le_trans (Nat.le_of_lt h) hn)
theorem k_it {L : List Int} {i : Nat} (p : okB B ρ (zs L)) (q : okI b ρ (i : Int)) (h : i < L.length) (hL : L.length ≤ 100) : okI (dItem B b) ρ (L.getD i 0) := by
  refine k_item p q (idx_nat (by rw [List.length_map]; exact h) (by rw [List.length_map]; exact b100 hL)) (j := i) ?_
  rw [List.getElem?_map, List.getD_eq_getElem?_getD, List.getElem?_eq_getElem h]; rfl
-- the cells
noncomputable def cellsL : Nat → List Int → List Int → List Int
  | _, [], cs => cs
  | n, x :: l, cs => cellsL (n + 1) l (cs.set (n % 9) (cs.getD (n % 9) 0 + x.fmod 1000000))
theorem cells_len : ∀ (l : List Int) (n : Nat) (cs : List Int), (cellsL n l cs).length = cs.length
  | [], _, _ => rfl
  | x :: l, n, cs => by unfold cellsL; rw [cells_len l, List.length_set]
noncomputable def enumF : Nat → List Int → List PV
  | _, [] => []
  | n, x :: l => .tup [.int n, .int x] :: enumF (n + 1) l
theorem enum_eq : ∀ (l : List Int) (n : Nat), (List.range' n l.length).zipWith (fun (i : Nat) x => PV.tup [.int i, x]) (zs l) = enumF n l
  | [], _ => rfl
  | x :: l, n => congrArg (PV.tup [.int n, .int x] :: ·) (enum_eq l (n + 1))
theorem enum_zs (l : List Int) : enumL (zs l) = enumF 0 l := by
  unfold enumL
  rw [List.length_map, List.range_eq_range']
  exact enum_eq l 0
theorem loop63 {s : PV} : ∀ (l : List Int) (n : Nat) (cs : List Int) (b2 b3 : Bind), cs.length = 9 → (∀ b2 b3, Q .next [.val s, .own (zs (cellsL n l cs)), b2, b3]) → fe (.many [2, 3]) b63_4 (enumF n l) [.val s, .own (zs cs), b2, b3] Q
  | [], n, cs, b2, b3, _, q => q b2 b3
  | x :: l, n, cs, b2, b3, hc, q => by
    have hn : n % 9 < cs.length := by rw [hc]; exact Nat.mod_lt _ (by decide)
    refine ⟨⟨trivial, rfl⟩, q_augI (n := n % 9) (x := cs.getD (n % 9) 0) (y := x.fmod 1000000) rfl ?_ (k_mod (k_var rfl) (k_op (c := 1000000) k_int k_int (by rfl)) (by decide)) ?_ (by rw [List.length_map]; exact by rw [hc]; decide) rfl ?_⟩
    · have := k_mod (ρ := puts [.val s, .own (zs cs), b2, b3] [2, 3] [.int n, .int x]) (k_var (i := 2) rfl) (k_int (x := 9)) (by decide)
      rwa [Int.fmod_eq_emod_of_nonneg _ (by decide), show (n : Int) % 9 = ((n % 9 : Nat) : Int) by (first | lia | omega)] at this
    · rw [List.getElem?_map, List.getD_eq_getElem?_getD, List.getElem?_eq_getElem hn]; rfl
    · have := loop63 (s := s) l (n + 1) (cs.set (n % 9) (cs.getD (n % 9) 0 + x.fmod 1000000)) (.val (.int n)) (.val (.int x)) (by rw [List.length_set]; exact hc) q
      rwa [show zs (cs.set (n % 9) (cs.getD (n % 9) 0 + x.fmod 1000000)) = (zs cs).set (n % 9) (.int (cs.getD (n % 9) 0 + x.fmod 1000000)) from List.map_set] at this
noncomputable def cells0 : List Int := [3, 1, 5, 2, 1, 2, 4, 990, 0]
noncomputable def cellsF (l : List Int) : List Int := cellsL 0 (slc l none (some 60) none) cells0
theorem r63 {l : List Int} (hl : l.length ≤ 63) : s63 Γ ([.val (.lst (zs l))] ++ List.replicate 3 .undef) fun fl _ => fl = .ret (.lst (zs (cellsF l))) := by
  refine q_own (us := zs cells0) (k_list (k_cons k_int (k_cons k_int (k_cons k_int (k_cons k_int (k_cons k_int (k_cons k_int (k_cons k_int (k_cons k_int (k_cons k_int k_nil)))))))))) rfl ?_
  have e1 := k_slice (ρ := put ([.val (.lst (zs l))] ++ List.replicate 3 .undef) 1 (.own (zs cells0))) (k_bvar (i := 0) rfl) k_pnone (k_psome (k_int (x := 60))) k_pnone nofun (by rw [List.length_map]; exact b100 (Nat.le_trans hl (by decide)))
  rw [slc_map] at e1
  exact q_for (enum_zs _ ▸ k_enum e1) (loop63 _ 0 cells0 _ _ rfl fun b2 b3 => q_retO rfl rfl)
-- the mirror
theorem r118 {rs : List (List Nat)} (h : rs.length ≤ 16 ∧ ∀ r ∈ rs, r.length ≤ 16) : s118 Γ ([.val (.lst (rowsP rs))] ++ List.replicate 1 .undef) fun fl _ => fl = .ret (.lst (rowsP (mirN rs))) := by
  have key := k_map (ρ := [.val (.lst (rowsP rs))] ++ List.replicate 1 .undef) (ks := []) (g := .one 1) (a := dListRev (dVar 1)) (φ := fun r => .lst (asL r).reverse) (k_sval (one := true) (k_var (i := 0) (u := .lst (rowsP rs)) rfl)) (fun _ _ => trivial) (fun x hx => by
    obtain ⟨r, hr, rfl⟩ := List.mem_map.mp hx
    exact k_listRev (us := nzs r) (k_var rfl) (by rw [List.length_map, List.length_map]; have := h.2 r hr; exact b16 this)) (by unfold rowsP; rw [List.length_map]; exact b16 h.1)
  refine q_ret key ?_
  congr 2
  unfold rowsP mirN
  rw [List.map_map, List.map_map]
  refine List.map_congr_left fun r _ => ?_
  show PV.lst (nzs r).reverse = .lst (nzs r.reverse)
  rw [← List.map_reverse, ← List.map_reverse]
-- rows out of figures
noncomputable def lens {α : Type} (R : List (List α)) : Nat := (R.map List.length).sum
noncomputable def tri : Nat → Nat
  | 0 => 0
  | n + 1 => n + 1 + tri n
noncomputable abbrev lstP (R : List (List PV)) : List PV := R.map .lst
/-- the sum of the rows' lengths -/
theorem k_lens {i j : Nat} {R : List (List PV)} (h : get ρ i = .val (.lst (lstP R))) (hl : R.length ≤ 16) (hr : ∀ r ∈ R, r.length ≤ 16) : okI (dSum (dCompN [] (.one j) [] (sVal true (dVar i)) tYes (iLast (dLen (bVar j))))) ρ (lens R : Nat) := by
  have key := k_map (ρ := ρ) (ks := []) (g := .one j) (a := dLen (bVar j)) (φ := fun r => .int ((asL r).length : Nat)) (k_sval (one := true) (k_var h)) (fun _ _ => trivial) (fun x hx => by
    obtain ⟨r, hr', rfl⟩ := List.mem_map.mp hx
    exact k_len (us := r) (k_bvar (get_same ..)) (by have := hr r hr'; exact b16 this)) (by rw [List.length_map]; exact b16 hl)
  have e : (lstP R).map (fun r => PV.int ((asL r).length : Nat)) = zs (R.map fun r => (r.length : Int)) := by unfold zs; rw [List.map_map, List.map_map]; rfl
  rw [e] at key
  have := k_sum key
  have e2 : (R.map fun r => (r.length : Int)).sum = ((lens R : Nat) : Int) := by
    unfold lens
    clear e this key h hl hr
    induction R with
    | nil => rfl
    | cons r R ih => rw [List.map_cons, List.sum_cons, ih, List.map_cons, List.sum_cons, Int.natCast_add]
  rwa [e2] at this
noncomputable abbrev rho108 (us : List PV) (side : Nat) (R : List (List PV)) (b3 b4 b5 : Bind) : PEnv := [.val (.lst us), .val (.int side), .val (.lst (lstP R)), b3, b4, b5]
theorem loop108 {us : List PV} {side : Nat} (hu : us.length ≤ 100) (hs : side ≤ 8) : ∀ (n h : Nat) (R : List (List PV)) (b3 b4 b5 : Bind), h + n + 1 = side → R.length = h → (∀ r ∈ R, r.length ≤ 16) → lens R + tri n ≤ us.length → (∀ b3 b4 b5, Q .next (rho108 us side (R ++ triF n (us.drop (lens R))) b3 b4 b5)) →
    fe (.one 3) b108_5 (nzs (List.range' h n)) (rho108 us side R b3 b4 b5) Q
  | 0, h, R, b3, b4, b5, _, _, _, _, q => by
    have := q b3 b4 b5
    rw [show triF 0 (us.drop (lens R)) = [] from rfl, List.append_nil] at this
    exact this
  | n + 1, h, R, b3, b4, b5, hh, hR, hr, hl, q => by
    have hl : lens R + (n + 1 + tri n) ≤ us.length := hl
    have lu : lens R + (n + 1) ≤ us.length := Nat.le_trans (Nat.add_le_add_left (Nat.le_add_right _ _) _) hl
    have h1 : h + (n + 1) ≤ 8 := Nat.le_trans (Nat.le_succ _) (by rw [← Nat.succ_eq_add_one] at hh; rw [hh]; exact hs)
    have n16 : n + 1 ≤ 16 := Nat.le_trans (Nat.le_trans (Nat.le_add_left _ h) h1) (by decide)
    have R16 : R.length + 1 ≤ 16 := by rw [hR]; exact Nat.le_trans (Nat.add_le_add_left (Nat.succ_pos n) h) (Nat.le_trans h1 (by decide))
    have e : slc us (some ((lens R : Nat) : Int)) (some (((lens R : Nat) : Int) + (side : Int) - 1 - (h : Int))) none = (us.drop (lens R)).take (n + 1) := slc_nat (.inl (by rw [← hh]; congr 1; omega)) (lu)
    have tl : ((us.drop (lens R)).take (n + 1)).length = n + 1 := by rw [List.length_take, List.length_drop]; exact Nat.min_eq_left (Nat.le_sub_of_add_le (by rw [Nat.add_comm]; exact lu))
    refine ⟨trivial, q_set (k_lens rfl (Nat.le_of_succ_le R16) hr) (q_set (k_cat (k_var (i := 2) (u := .lst (lstP R)) rfl) (k_list (k_cons (e ▸ k_slice (k_bvar rfl) (k_psome (k_var rfl)) (k_psome (k_sub (k_sub (k_add (k_var rfl) (k_var rfl)) k_int) (k_var rfl))) k_pnone nofun (b100 hu)) k_nil)) ?_) ?_)⟩
    · show (lstP R).length + 1 ≤ _
      rw [List.length_map]; exact b16 R16
    · have eL : lens (R ++ [(us.drop (lens R)).take (n + 1)]) = lens R + (n + 1) := by
        unfold lens
        rw [List.map_append, List.sum_append]
        show _ + (((us.drop (lens R)).take (n + 1)).length + 0) = _
        rw [tl]
      have key := loop108 hu hs n (h + 1) (R ++ [(us.drop (lens R)).take (n + 1)]) (.val (.int h)) (.val (.int (lens R : Nat))) b5 (by rw [← hh, Nat.add_right_comm h 1 n, Nat.add_assoc h n 1]) (by rw [List.length_append, hR]; rfl) (fun r hr' => by
        rcases List.mem_append.mp hr' with z | z
        · exact hr r z
        · rw [List.mem_singleton.mp z, tl]; exact n16) (by rw [eL]; exact by rw [Nat.add_assoc]; exact hl) (fun c3 c4 c5 => by
          have := q c3 c4 c5
          rw [eL, List.append_assoc]
          rw [show triF (n + 1) (us.drop (lens R)) = (us.drop (lens R)).take (n + 1) :: triF n ((us.drop (lens R)).drop (n + 1)) from rfl, List.drop_drop] at this
          exact this)
      unfold rho108 at key
      rw [show lstP (R ++ [(us.drop (lens R)).take (n + 1)]) = lstP R ++ [.lst ((us.drop (lens R)).take (n + 1))] from List.map_append] at key
      exact key
theorem r108 {us : List PV} {side : Nat} (hu : us.length ≤ 100) (hs : 0 < side ∧ side ≤ 8) (ht : tri (side - 1) ≤ us.length) : s108 Γ ([.val (.lst us), .val (.int side)] ++ List.replicate 4 .undef) fun fl _ => fl = .ret (.lst (lstP (triF (side - 1) us))) := by
  refine q_set (u := .lst (lstP [])) (k_list k_nil) ?_
  obtain ⟨r1, r2⟩ := range_zs (side - 1) (Nat.le_trans (Nat.sub_le _ _) (Nat.le_trans hs.2 (by decide)))
  have e := k_sub (ρ := put ([.val (.lst us), .val (.int side)] ++ List.replicate 4 .undef) 2 (.val (.lst (lstP [])))) (k_var (i := 1) rfl) (k_int (x := 1))
  rw [show (side : Int) - 1 = ((side - 1 : Nat) : Int) from pred_cast hs.1] at e
  refine q_for (r2 ▸ k_range e r1) ?_
  rw [List.range_eq_range']
  refine loop108 hu hs.2 (side - 1) 0 [] _ _ _ (by rw [Nat.zero_add, Nat.sub_add_cancel hs.1]) rfl nofun (by rw [show lens ([] : List (List PV)) = 0 from rfl]; exact by rw [Nat.zero_add]; exact ht) fun b3 b4 b5 => q_ret (k_var rfl) ?_
  rw [show lens ([] : List (List PV)) = 0 from rfl]; rfl
theorem triF_map {α β : Type} (f : α → β) : ∀ (n : Nat) (l : List α), triF n (l.map f) = (triF n l).map (List.map f)
  | 0, _ => rfl
  | n + 1, l => by
    show (l.map f).take (n + 1) :: triF n ((l.map f).drop (n + 1)) = _
    rw [← List.map_take, ← List.map_drop, triF_map f n]; rfl
theorem tri_rows (m : Nat) (l : List Nat) : lstP (triF m (nzs l)) = rowsP (triF m l) := by
  rw [show nzs l = (nz l).map PV.int from rfl, triF_map, triF_map]
  unfold rowsP lstP
  rw [List.map_map, List.map_map]
  exact List.map_congr_left fun r _ => rfl
end

end
end Mine
namespace Mine
section
open PySem.Calls
-- the triangle drawn
/-- a cell's number, from 1 to 12 -/
noncomputable def kk (cs : List Int) (j : Nat) : Nat := 1 + ((cs.getD j 0).fmod 12).toNat
theorem kk_rng (cs : List Int) (j : Nat) : 1 ≤ kk cs j ∧ kk cs j ≤ 12 ∧ 1 + (cs.getD j 0).fmod 12 = ((kk cs j : Nat) : Int) := by
  obtain ⟨h1, h2⟩ := fmod_pos (x := cs.getD j 0) (b := 12) (by decide)
  exact ⟨Nat.le_add_right 1 _, Nat.add_le_add_left (Nat.le_of_lt_succ ((Int.toNat_lt h1).mpr h2)) 1, congrArg (1 + ·) (Int.toNat_of_nonneg h1).symm⟩
noncomputable def rowF (cs : List Int) (S n : Nat) (last : List Nat) : List Nat := (List.range n).map fun p => commN ((last.drop p).take 2) * kk cs (S + p)
section
variable {Γ : Fx} {Q : Fl → PEnv → Prop}
theorem lens_rows (R : List (List Nat)) : lens (R.map nzs) = lens R := by
  unfold lens
  rw [List.map_map]
  congr 1
  exact List.map_congr_left fun r _ => by show (nzs r).length = _; rw [List.length_map, List.length_map]
theorem rowsP_lst (R : List (List Nat)) : rowsP R = lstP (R.map nzs) := by
  unfold rowsP lstP
  rw [List.map_map]; rfl
noncomputable abbrev rho113 (cs : List Int) (side : Nat) (R : List (List Nat)) (b3 b4 b5 b6 b7 b8 : Bind) : PEnv := [.val (.lst (zs cs)), .val (.int side), .val (.lst (rowsP R)), b3, b4, b5, b6, b7, b8]
noncomputable def H98' (Γ : Fx) : Prop := ∀ l : List Nat, Row1 l (2 ^ 30) → Γ.K 98 [.fn 70, .lst (nzs l), .int 0] ∧ Γ.V 98 [.fn 70, .lst (nzs l), .int 0] = .int (commN l : Nat)
/-- numbers that a row may hold -/
noncomputable def inB (B : Nat) (l : List Nat) : Prop := ∀ x ∈ l, 0 < x ∧ x < B
theorem row1_of {B : Nat} {l : List Nat} {p : Nat} (h : inB B l) (hp : p + 2 ≤ l.length) : Row1 ((l.drop p).take 2) B := by
  have hl : ((l.drop p).take 2).length = 2 := by rw [List.length_take, List.length_drop]; exact Nat.min_eq_left (Nat.le_sub_of_add_le (by rw [Nat.add_comm]; exact hp))
  refine ⟨.inr ?_, fun x hx => h x (List.mem_of_mem_drop (List.mem_of_mem_take hx))⟩
  match (l.drop p).take 2, hl with
  | [x, y], _ => exact ⟨x, y, rfl⟩
theorem comm_lt {m : Nat} {l : List Nat} (h : Row1 l (2 ^ m)) : 0 < commN l ∧ commN l < 2 ^ (m + m) := by
  have pw : 2 ^ m ≤ 2 ^ (m + m) := Nat.pow_le_pow_right (by decide) (Nat.le_add_right m m)
  rcases h.one with ⟨x, rfl⟩ | ⟨x, y, rfl⟩
  · have := h.pos x (.head _)
    exact ⟨this.1, Nat.lt_of_lt_of_le this.2 pw⟩
  · obtain ⟨x0, x1⟩ := h.pos x (.head _)
    obtain ⟨y0, y1⟩ := h.pos y (.tail _ (.head _))
    exact ⟨Nat.lcm_pos x0 y0, Nat.lt_of_le_of_lt (Nat.le_of_dvd (Nat.mul_pos x0 y0) (Nat.lcm_dvd (Nat.dvd_mul_right x y) (Nat.dvd_mul_left y x))) (two_pow_lt x1 y1)⟩
theorem step113 (H : H98' Γ) {cs : List Int} (hc : cs.length ≤ 100) {side h n : Nat} {R : List (List Nat)} {last : List Nat} {b3 b5 b6 b7 b8 : Bind} (hh : h + n + 1 = side) (hs : side ≤ 8) (hR : R.length ≤ 16) (hr : ∀ r ∈ R, r.length ≤ 16) (hl : R.getLast? = some last) (hn : n + 1 = last.length) (hb : inB (2 ^ 30) last) (hS : lens R + n ≤ cs.length)
    (hq : ∀ b5 b7, Q .next (rho113 cs side (R ++ [rowF cs (lens R) n last]) b3 (.val (.int h)) b5 b6 b7 b8)) : b113_6 Γ (rho113 cs side R b3 (.val (.int h)) b5 b6 b7 b8) Q := by
  have n16 : n ≤ 16 := Nat.le_trans (Nat.le_trans (Nat.le_add_left n h) (Nat.le_trans (Nat.le_succ _) (by rw [← Nat.succ_eq_add_one] at hh; rw [hh]; exact hs))) (by decide)
  have kl := k_lens (ρ := rho113 cs side R b3 (.val (.int h)) b5 b6 b7 b8) (i := 2) (j := 6) (R := R.map nzs) (by rw [← rowsP_lst]; rfl) (by rw [List.length_map]; exact hR) (fun r hr' => by
    obtain ⟨r', h1, rfl⟩ := List.mem_map.mp hr'
    rw [List.length_map, List.length_map]; exact hr r' h1)
  rw [lens_rows] at kl
  obtain ⟨r1, r2⟩ := range_zs n (n16)
  refine q_set kl (q_set (u := .lst (nzs last)) (k_last (us := rowsP R) (k_bvar rfl) (by unfold rowsP; rw [List.getLast?_map, hl]; rfl) (by unfold rowsP; rw [List.length_map]; exact b16 hR)) (q_set (u := .lst (rowsP R ++ [.lst (nzs (rowF cs (lens R) n last))])) (k_cat (k_var rfl) (k_list (k_cons ?_ k_nil)) ?_) ?_))
  · have e : nzs (rowF cs (lens R) n last) = (nzs (List.range n)).map fun x => .int ((commN ((last.drop (asI x).toNat).take 2) * kk cs (lens R + (asI x).toNat) : Nat) : Int) := by
      unfold rowF nzs nz zs
      rw [List.map_map, List.map_map, List.map_map, List.map_map]
      exact List.map_congr_left fun p _ => rfl
    rw [e]
    refine k_map (r2 ▸ k_range ?_ r1) (fun _ _ => trivial) (fun x hx => ?_) (by rw [List.length_map, List.length_map, List.length_range]; exact b16 n16)
    · have := k_sub (k_sub (ρ := put (put (rho113 cs side R b3 (.val (.int h)) b5 b6 b7 b8) 5 (.val (.int (lens R : Nat)))) 7 (.val (.lst (nzs last)))) (k_var (i := 1) rfl) (k_int (x := 1))) (k_var (i := 4) rfl)
      rwa [show (side : Int) - 1 - (h : Int) = (n : Int) from (by rw [← hh]; omega)] at this
    · obtain ⟨z, hz, rfl⟩ := List.mem_map.mp hx
      obtain ⟨p, hp, rfl⟩ := List.mem_map.mp hz
      have hp : p < n := List.mem_range.mp hp
      have R1 := row1_of hb (p := p) (by rw [← hn]; exact Nat.succ_le_succ hp)
      obtain ⟨c1, c2⟩ := H _ R1
      have cl := comm_lt R1
      obtain ⟨_, k2, k3⟩ := kk_rng cs (lens R + p)
      have es : slc (nzs last) (some ((p : Nat) : Int)) (some ((p : Int) + 2)) none = nzs ((last.drop p).take 2) := by
        show slc (nzs last) (some ((p : Nat) : Int)) (some ((p : Int) + ((2 : Nat) : Int))) none = _
        rw [slc_nat (n := 2) (.inl rfl) (by rw [List.length_map, List.length_map]; exact by rw [← hn]; exact Nat.succ_le_succ hp), ← List.map_drop, ← List.map_take, ← List.map_drop, ← List.map_take]
      have key := k_mul (k_call (k_cons (a := dFn 70) k_fn (k_cons (es ▸ k_slice (ρ := turnE (.one 8) [] (.int p) (keepI [0, 5, 7] (put (put (rho113 cs side R b3 (.val (.int h)) b5 b6 b7 b8) 5 (.val (.int (lens R : Nat)))) 7 (.val (.lst (nzs last)))))) (k_bvar (i := 7) rfl) (k_psome (k_var (i := 8) rfl)) (k_psome (k_add (k_var (i := 8) rfl) (k_int (x := 2)))) k_pnone nofun (by rw [List.length_map, List.length_map]; have := hr last (List.mem_of_getLast? hl); exact b16 this)) (k_cons (k_int (x := 0)) k_nil))) c1 c2) (k_add (k_int (x := 1)) (k_mod (k_it (i := lens R + p) (k_bvar (i := 0) rfl) (by rw [Int.natCast_add]; exact k_add (k_var (i := 5) rfl) (k_var (i := 8) rfl)) (Nat.lt_of_lt_of_le (Nat.add_lt_add_left hp _) hS) hc) (k_int (x := 12)) (by decide))) (by
        rw [k3]
        have b1 : bits (commN ((last.drop p).take 2) : Int) ≤ 60 := bits_natc cl.2
        have b2 : bits (kk cs (lens R + p) : Int) ≤ 4 := bits_natc (Nat.lt_of_le_of_lt k2 (by decide))
        exact two_bits b1 (Nat.le_trans b2 (by decide)) (by decide))
      rw [k3, ← Int.natCast_mul] at key
      exact key
  · unfold rowsP
    rw [List.length_map]
    show R.length + 1 ≤ _
    exact Nat.le_trans (Nat.succ_le_succ hR) (by decide)
  · have := hq (.val (.int (lens R : Nat))) (.val (.lst (nzs last)))
    unfold rho113 rowsP at this
    rw [List.map_append] at this
    exact this
theorem slc_to {α : Type} {l : List α} {n : Nat} (h : n ≤ l.length) : slc l none (some (n : Int)) none = l.take n := by
  have e : slc l none (some (n : Int)) none = slc l (some ((0 : Nat) : Int)) (some (((0 : Nat) : Int) + (n : Int))) none := by
    have b : sliceBounds none (some (n : Int)) none l.length = sliceBounds (some ((0 : Nat) : Int)) (some (((0 : Nat) : Int) + (n : Int))) none l.length := by
      have z : (0 : Int) = max 0 (min (if ((0 : Nat) : Int) < 0 then ((0 : Nat) : Int) + l.length else ((0 : Nat) : Int)) l.length) := by
        rw [if_neg (by decide)]; exact (by rw [Int.min_eq_left (Int.natCast_nonneg l.length)]; rfl : (0 : Int) = max 0 (min (0 : Int) (l.length : Int)))
      rw [Int.natCast_zero, Int.zero_add]
      unfold sliceBounds
      exact congrArg (fun v => (v, _, (1 : Int))) z
    unfold slc
    rw [b]
  rw [e, slc_nat (n := n) (.inl rfl) (by rw [Nat.zero_add]; exact h)]; rfl
theorem take_map {f : Int → Int} (cs : List Int) : ∀ m, m ≤ cs.length → (cs.take m).map f = (List.range m).map fun j => f (cs.getD j 0)
  | 0, _ => rfl
  | m + 1, h => by
    rw [List.take_add_one, List.map_append, take_map cs m (Nat.le_of_succ_le h), List.range_succ, List.map_append, List.getElem?_eq_getElem (h), List.map_singleton, List.getD_eq_getElem?_getD, List.getElem?_eq_getElem (h)]; rfl
noncomputable def row0 (cs : List Int) (m : Nat) : List Nat := (List.range m).map (kk cs)
theorem k_row0 {ρ : PEnv} {cs : List Int} {m side : Nat} (hs : m + 1 = side) (hc : m ≤ cs.length) (hl : cs.length ≤ 100) (h0 : get ρ 0 = .val (.lst (zs cs))) (h1 : get ρ 1 = .val (.int side)) : ok e113_1 ρ (.lst (rowsP [row0 cs m])) := by
  have es : slc (zs cs) none (some (m : Int)) none = zs (cs.take m) := by
    rw [slc_to (by rw [List.length_map]; exact hc), ← List.map_take]
  have k1 := k_sub (k_var h1) (k_int (x := 1))
  rw [show (side : Int) - 1 = (m : Int) from (by rw [← hs]; exact Int.add_sub_cancel (m : Int) 1)] at k1
  have key := k_map (ks := []) (g := .one 3) (a := dBin .Add (dInt 1) (dBin .Mod (dVar 3) (dInt 12))) (φ := fun x => .int (1 + (asI x).fmod 12)) (k_sval (one := true) (es ▸ k_slice (k_bvar h0) k_pnone (k_psome k1) k_pnone nofun (by rw [List.length_map]; exact b100 hl))) (fun _ _ => trivial) (fun x hx => by
    obtain ⟨z, hz, rfl⟩ := List.mem_map.mp hx
    exact k_add k_int (k_mod (k_var (get_same ..)) k_int (by decide))) (by rw [List.length_map, List.length_take]; exact Nat.le_trans (Nat.min_le_right _ _) (b100 hl))
  have e : (zs (cs.take m)).map (fun x => PV.int (1 + (asI x).fmod 12)) = nzs (row0 cs m) := by
    have : (zs (cs.take m)).map (fun x => PV.int (1 + (asI x).fmod 12)) = zs ((cs.take m).map fun c => 1 + c.fmod 12) := by unfold zs; rw [List.map_map, List.map_map]; rfl
    rw [this, take_map cs m hc]
    unfold row0 nzs nz
    rw [List.map_map]
    exact congrArg zs (List.map_congr_left fun j _ => (kk_rng cs j).2.2)
  rw [e] at key
  exact k_list (k_cons key k_nil)
noncomputable def tr3 (cs : List Int) : List (List Nat) := [[kk cs 0, kk cs 1], [Nat.lcm (kk cs 0) (kk cs 1) * kk cs 2]]
noncomputable def tr4 (cs : List Int) : List (List Nat) := [[kk cs 0, kk cs 1, kk cs 2], [Nat.lcm (kk cs 0) (kk cs 1) * kk cs 3, Nat.lcm (kk cs 1) (kk cs 2) * kk cs 4], [Nat.lcm (Nat.lcm (kk cs 0) (kk cs 1) * kk cs 3) (Nat.lcm (kk cs 1) (kk cs 2) * kk cs 4) * kk cs 5]]
theorem kk_in (cs : List Int) (j : Nat) : 0 < kk cs j ∧ kk cs j < 13 := ⟨(kk_rng cs j).1, Nat.lt_succ_of_le (kk_rng cs j).2.1⟩
theorem lcm_in {x y k A B : Nat} (hx : 0 < x ∧ x < A) (hy : 0 < y ∧ y < B) (hk : 0 < k ∧ k < 13) : 0 < Nat.lcm x y * k ∧ Nat.lcm x y * k < A * B * 13 := by
  have l0 := Nat.lcm_pos hx.1 hy.1
  have l1 := Nat.le_of_dvd (Nat.mul_pos hx.1 hy.1) (Nat.lcm_dvd (Nat.dvd_mul_right x y) (Nat.dvd_mul_left y x))
  exact ⟨Nat.mul_pos l0 hk.1, Nat.mul_lt_mul'' (Nat.lt_of_le_of_lt l1 (Nat.mul_lt_mul'' hx.2 hy.2)) hk.2⟩
theorem in_2 {B x y : Nat} (h : 0 < x ∧ x < B) (h' : 0 < y ∧ y < B) : inB B [x, y] := fun z hz => by
  rcases List.mem_cons.mp hz with rfl | hz
  · exact h
  · rw [List.mem_singleton.mp hz]; exact h'
theorem in_up {x A B : Nat} (h : 0 < x ∧ x < A) (hAB : A ≤ B) : 0 < x ∧ x < B := ⟨h.1, Nat.lt_of_lt_of_le h.2 hAB⟩
theorem r113_3 (H : H98' Γ) {cs : List Int} (hc : cs.length = 9) : s113 Γ ([.val (.lst (zs cs)), .val (.int 3)] ++ List.replicate 7 .undef) fun fl _ => fl = .ret (.lst (rowsP (tr3 cs))) := by
  refine q_set (k_row0 (m := 2) (side := 3) rfl (by rw [hc]; decide) (by rw [hc]; decide) rfl rfl) ?_
  have e : zs (rng 1 1 (Builtin.Range.rangeSize 1 (3 - 1) 1).toNat) = nzs [1] := by rfl
  refine q_for (e ▸ k_range2 (k_int (x := 1)) (k_sub (k_var rfl) (k_int (x := 1))) ⟨by decide, by decide⟩) ?_
  refine ⟨trivial, ?_⟩
  refine step113 H (by rw [hc]; decide) (h := 1) (n := 1) (side := 3) (R := [row0 cs 2]) (last := row0 cs 2) rfl (by decide) (by decide : 1 ≤ 16) (fun r hr => by rw [List.mem_singleton.mp hr]; exact (by decide : 2 ≤ 16)) rfl rfl (in_2 (in_up (kk_in cs 0) (by decide)) (in_up (kk_in cs 1) (by decide))) (by rw [hc]; exact (by decide : 3 ≤ 9)) fun b5 b7 => q_ret (k_var rfl) rfl
theorem r113_4 (H : H98' Γ) {cs : List Int} (hc : cs.length = 9) : s113 Γ ([.val (.lst (zs cs)), .val (.int 4)] ++ List.replicate 7 .undef) fun fl _ => fl = .ret (.lst (rowsP (tr4 cs))) := by
  refine q_set (k_row0 (m := 3) (side := 4) rfl (by rw [hc]; decide) (by rw [hc]; decide) rfl rfl) ?_
  have e : zs (rng 1 1 (Builtin.Range.rangeSize 1 (4 - 1) 1).toNat) = nzs [1, 2] := by rfl
  refine q_for (e ▸ k_range2 (k_int (x := 1)) (k_sub (k_var rfl) (k_int (x := 1))) ⟨by decide, by decide⟩) ?_
  refine ⟨trivial, ?_⟩
  have i0 := kk_in cs 0
  have i1 := kk_in cs 1
  have i2 := kk_in cs 2
  have j1 := lcm_in i0 i1 (kk_in cs 3)
  have j2 := lcm_in i1 i2 (kk_in cs 4)
  refine step113 H (by rw [hc]; decide) (h := 1) (n := 2) (side := 4) (R := [row0 cs 3]) (last := row0 cs 3) rfl (by decide) (by decide : 1 ≤ 16) (fun r hr => by rw [List.mem_singleton.mp hr]; exact (by decide : 3 ≤ 16)) rfl rfl (fun x hx => by
    rcases List.mem_cons.mp hx with rfl | hx
    · exact in_up i0 (by decide)
    · exact in_2 (in_up i1 (by decide)) (in_up i2 (by decide)) x hx) (by rw [hc]; exact (by decide : 5 ≤ 9)) fun b5 b7 => ⟨trivial, ?_⟩
  refine step113 H (by rw [hc]; decide) (h := 2) (n := 1) (side := 4) (R := [row0 cs 3, rowF cs 3 2 (row0 cs 3)]) (last := rowF cs 3 2 (row0 cs 3)) rfl (by decide) (by decide : 2 ≤ 16) (fun r hr => by
    rcases List.mem_cons.mp hr with rfl | hr
    · exact (by decide : 3 ≤ 16)
    · rw [List.mem_singleton.mp hr]; exact (by decide : 2 ≤ 16)) rfl rfl (in_2 (in_up j1 (by decide)) (in_up j2 (by decide))) (by rw [hc]; exact (by decide : 6 ≤ 9)) fun b5 b7 => q_ret (k_var rfl) rfl
theorem t3_of (cs : List Int) : T3 (Nat.lcm (kk cs 0) (kk cs 1) * kk cs 2 * kk cs 6) (kk cs 0) (kk cs 1) (Nat.lcm (kk cs 0) (kk cs 1) * kk cs 2) ∧ Nat.lcm (kk cs 0) (kk cs 1) * kk cs 2 * kk cs 6 < 2 ^ 30 := by
  have j1 := lcm_in (kk_in cs 0) (kk_in cs 1) (kk_in cs 2)
  have k := kk_in cs 6
  refine ⟨⟨Nat.mul_pos j1.1 k.1, Nat.dvd_trans (Nat.dvd_lcm_left ..) (Nat.dvd_mul_right ..), Nat.dvd_trans (Nat.dvd_lcm_right ..) (Nat.dvd_mul_right ..), Nat.dvd_mul_right ..⟩, ?_⟩
  exact Nat.lt_of_lt_of_le (Nat.mul_lt_mul'' j1.2 k.2) (by decide)
theorem t4_of {cs : List Int} {b1 b2 c w : Nat} (h1 : Nat.lcm (kk cs 0) (kk cs 1) * kk cs 3 = b1) (h2 : Nat.lcm (kk cs 1) (kk cs 2) * kk cs 4 = b2) (h3 : Nat.lcm b1 b2 * kk cs 5 = c) (h4 : c * kk cs 6 = w) : T4 w (kk cs 0) (kk cs 1) (kk cs 2) b1 b2 c ∧ w < 2 ^ 30 := by
  have e1 : b1 ≤ 12 * 12 * 12 ∧ 0 < b1 := by
    have l0 := Nat.lcm_pos (kk_in cs 0).1 (kk_in cs 1).1
    have l1 := Nat.le_of_dvd (Nat.mul_pos (kk_in cs 0).1 (kk_in cs 1).1) (Nat.lcm_dvd (Nat.dvd_mul_right (kk cs 0) (kk cs 1)) (Nat.dvd_mul_left (kk cs 1) (kk cs 0)))
    rw [← h1]
    exact ⟨Nat.mul_le_mul (Nat.le_trans l1 (Nat.mul_le_mul (Nat.le_of_lt_succ (kk_in cs 0).2) (Nat.le_of_lt_succ (kk_in cs 1).2))) (Nat.le_of_lt_succ (kk_in cs 3).2), Nat.mul_pos l0 (kk_in cs 3).1⟩
  have e2 : b2 ≤ 12 * 12 * 12 ∧ 0 < b2 := by
    have l0 := Nat.lcm_pos (kk_in cs 1).1 (kk_in cs 2).1
    have l1 := Nat.le_of_dvd (Nat.mul_pos (kk_in cs 1).1 (kk_in cs 2).1) (Nat.lcm_dvd (Nat.dvd_mul_right (kk cs 1) (kk cs 2)) (Nat.dvd_mul_left (kk cs 2) (kk cs 1)))
    rw [← h2]
    exact ⟨Nat.mul_le_mul (Nat.le_trans l1 (Nat.mul_le_mul (Nat.le_of_lt_succ (kk_in cs 1).2) (Nat.le_of_lt_succ (kk_in cs 2).2))) (Nat.le_of_lt_succ (kk_in cs 4).2), Nat.mul_pos l0 (kk_in cs 4).1⟩
  have e3 : c ≤ 12 * 12 * 12 * (12 * 12 * 12) * 12 ∧ 0 < c := by
    have l0 := Nat.lcm_pos e1.2 e2.2
    have l1 := Nat.le_of_dvd (Nat.mul_pos e1.2 e2.2) (Nat.lcm_dvd (Nat.dvd_mul_right b1 b2) (Nat.dvd_mul_left b2 b1))
    rw [← h3]
    exact ⟨Nat.mul_le_mul (Nat.le_trans l1 (Nat.mul_le_mul e1.1 e2.1)) (Nat.le_of_lt_succ (kk_in cs 5).2), Nat.mul_pos l0 (kk_in cs 5).1⟩
  refine ⟨⟨h4 ▸ Nat.mul_pos e3.2 (kk_in cs 6).1, h1 ▸ Nat.dvd_trans (Nat.dvd_lcm_left ..) (Nat.dvd_mul_right ..), h1 ▸ Nat.dvd_trans (Nat.dvd_lcm_right ..) (Nat.dvd_mul_right ..), h2 ▸ Nat.dvd_trans (Nat.dvd_lcm_left ..) (Nat.dvd_mul_right ..), h2 ▸ Nat.dvd_trans (Nat.dvd_lcm_right ..) (Nat.dvd_mul_right ..), h3 ▸ Nat.dvd_trans (Nat.dvd_lcm_left ..) (Nat.dvd_mul_right ..), h3 ▸ Nat.dvd_trans (Nat.dvd_lcm_right ..) (Nat.dvd_mul_right ..), h4 ▸ Nat.dvd_mul_right ..⟩, ?_⟩
  rw [← h4]
  exact Nat.lt_of_le_of_lt (Nat.mul_le_mul e3.1 (Nat.le_of_lt_succ (kk_in cs 6).2)) (by decide)
end

end
end Mine
namespace Mine
section
open PySem.Calls
section
variable {Γ : Fx} {Q : Fl → PEnv → Prop} {side w : Nat} {I : List (List Nat) → Prop} {st : Nat → List (List Nat)}
/-- a triangle's number -/
noncomputable def encF (w : Nat) (rs : List (List Nat)) : Int := worth (bits (w : Int)) (nz (rs.flatten ++ [w]))
noncomputable def keptF (w : Nat) (st : Nat → List (List Nat)) (n : Nat) : List Int := (List.range n).map fun j => encF w (st j)
theorem nz_append (a b : List Nat) : nz (a ++ b) = nz a ++ nz b := List.map_append
/-- a triangle's number gives back its figures -/
theorem Lw.fig (L : Lw side w I st) {rs : List (List Nat)} (h : I rs) : digP (encF w rs) (bits (w : Int) : Nat) 18 = some (nz (rs.flatten ++ [w])) ∧ (∀ d ∈ nz (rs.flatten ++ [w]), 0 ≤ d ∧ d ≤ (w : Int)) ∧ bits (w : Int) ≤ 30 ∧ 0 < bits (w : Int) ∧ (nz (rs.flatten ++ [w])).length ≤ 7 := by
  obtain ⟨s1, s2, s3, s4⟩ := L.sh rs h
  obtain ⟨w0, w1⟩ := L.w0
  have hb : bits (w : Int) ≤ 30 := bits_natc w1
  have wl : (w : Int) < 2 ^ bits (w : Int) := lt_of_bits (Int.natCast_nonneg _) (Nat.le_refl _)
  have hd : ∀ d ∈ nz rs.flatten, 0 ≤ d ∧ d ≤ (w : Int) := fun d hd => by
    obtain ⟨x, hx, rfl⟩ := List.mem_map.mp hd
    have := s4 x hx
    exact ⟨Int.natCast_nonneg x, Int.ofNat_le.mpr this.2⟩
  have hl : (nz rs.flatten).length ≤ 6 := by
    rw [List.length_map, s3]
    rcases L.s34 with e | e <;> rw [e] <;> decide
  refine ⟨?_, fun d hd' => ?_, hb, bits_pos (Int.natCast_pos.mpr w0), ?_⟩
  · unfold encF
    rw [nz_append]
    exact (dig_back (t := (w : Int)) (ds := nz rs.flatten) (Int.natCast_pos.mpr w0) rfl (fun d h => ⟨(hd d h).1, Int.lt_of_le_of_lt (hd d h).2 wl⟩) hl hb).1
  · rw [nz_append] at hd'
    rcases List.mem_append.mp hd' with z | z
    · exact hd d z
    · rw [List.mem_singleton.mp z]; exact ⟨Int.natCast_nonneg w, Int.le_refl _⟩
  · rw [nz_append, List.length_append]
    show _ + 1 ≤ 7
    exact Nat.succ_le_succ hl
/-- what the telling asks of other functions -/
structure Tc (Γ : Fx) (side w : Nat) (I : List (List Nat) → Prop) : Prop where
  c56 : ∀ a b : Int, b ≠ 0 → a.natAbs < 2 ^ 30 → b.natAbs < 2 ^ 30 → Γ.K 56 [.int a, .int b] ∧ Γ.V 56 [.int a, .int b] = qr a b
  c35 : ∀ (a : Int) (n : Nat) (ds : List Int), digP a n 18 = some ds → Γ.K 35 [.int a, .int n] ∧ Γ.V 35 [.int a, .int n] = .lst (zs ds)
  c108 : ∀ us : List PV, us.length ≤ 100 → tri (side - 1) ≤ us.length → Γ.K 108 [.lst us, .int side] ∧ Γ.V 108 [.lst us, .int side] = .lst (lstP (triF (side - 1) us))
  c118 : ∀ rs, I rs → Γ.K 118 [.lst (rowsP rs)] ∧ Γ.V 118 [.lst (rowsP rs)] = .lst (rowsP (mirN rs))
theorem r125 (L : Lw side w I st) (T : Tc Γ side w I) {k : Int} (hk : k.natAbs < 2 ^ 20) : s125 Γ ([.val (.lst (zs (keptF w st side))), .val (.int w), .val (.int k), .val (.int side)] ++ List.replicate 4 .undef) fun fl _ => fl = .ret (.lst (rowsP (tl side st k))) := by
  have s34 : 3 ≤ side ∧ side ≤ 4 := ⟨L.s.1, L.s.2.1⟩
  have s0 : (0 : Int) < side := (L.s.2.2.2.2)
  obtain ⟨m1, m2⟩ := fmod_pos (x := k) s0
  have em := Int.mul_fdiv_add_fmod k side
  obtain ⟨j, hj⟩ : ∃ j : Nat, k.fmod side = (j : Int) := ⟨(k.fmod side).toNat, ((Int.toNat_of_nonneg m1).symm)⟩
  have hjs : j < side := (Int.ofNat_lt.mp (hj ▸ m2))
  obtain ⟨f1, f2, f3, f4, f5⟩ := L.fig (L.i j)
  obtain ⟨h1, h2, h3, h4⟩ := L.sh (st j) (L.i j)
  obtain ⟨a1, a2⟩ := T.c56 k side (Int.ne_of_gt s0) (Nat.lt_trans hk (by decide)) (L.s.2.2.2.1)
  obtain ⟨b1, b2⟩ := T.c56 (-k) (-side) (Int.neg_ne_zero.mpr (Int.ne_of_gt s0)) (by rw [Int.natAbs_neg]; exact Nat.lt_trans hk (by decide)) (by rw [Int.natAbs_neg]; exact L.s.2.2.2.1)
  obtain ⟨d1, d2⟩ := T.c35 _ _ _ f1
  have ht : tri (side - 1) ≤ (nzs ((st j).flatten ++ [w])).length := by
    rw [List.length_map, List.length_map, List.length_append, h3]
    rcases L.s34 with e | e <;> rw [e]
    · exact (by decide : tri 2 ≤ 3 + 1)
    · exact (by decide : tri 3 ≤ 6 + 1)
  obtain ⟨g1, g2⟩ := T.c108 (nzs ((st j).flatten ++ [w])) (by rw [List.length_map]; exact Nat.le_trans f5 (by decide)) ht
  have e0 : qr k side = .tup [.int (k.fdiv side), .int j] := by unfold qr; rw [hj]
  have e1 : qr (-k) (-side) = .tup [.int (k.fdiv side), .int (-(j : Int))] := by
    unfold qr
    rw [Int.neg_fdiv_neg, ← hj, fmod_neg k side, Int.neg_neg]
  rw [e0] at a2
  rw [e1] at b2
  rw [hj] at em m2
  have qb : bits (k.fdiv side) ≤ 21 := bits_abs (by have := fd_abs (x := k) (y := side) (Int.ne_of_gt s0); exact Nat.lt_of_le_of_lt this (Nat.lt_of_le_of_lt hk (by decide)))
  have sb : bits (side : Int) ≤ 3 := bits_abs (Nat.lt_of_le_of_lt s34.2 (by decide))
  refine q_many (us := [.int (k.fdiv side), .int j]) (k_call (k_cons (k_var (i := 2) rfl) (k_cons (k_var (i := 3) rfl) k_nil)) a1 a2) rfl ?_
  refine q_set (u := .lst (nzs ((st j).flatten ++ [w]))) (k_call (k_cons (k_item (us := zs (keptF w st side)) (w := .int (encF w (st j))) (j := j) (k_bvar rfl) (k_mod (k_var (i := 5) (u := .int j) rfl) (k_var (i := 3) (u := .int side) rfl) (Int.ne_of_gt s0)) ?_ ?_) (k_cons (k_bits (k_var (i := 1) rfl)) k_nil)) d1 d2) ?_
  · rw [Int.fmod_eq_emod_of_nonneg _ (Int.le_of_lt s0), Int.emod_eq_of_lt (Int.natCast_nonneg j) (Int.ofNat_lt.mpr hjs)]
    refine idx_nat ?_ ?_ <;> (unfold keptF; rw [List.length_map, List.length_map, List.length_range]; first | exact hjs | exact Nat.le_trans s34.2 (by decide))
  · unfold keptF
    rw [List.getElem?_map, List.getElem?_map, List.getElem?_range hjs]; rfl
  refine q_not (k_or ?_ (k_or ?_ (k_or ?_ (k_or ?_ k_no)))) (q_end ?_)
  · have := k_ne (ρ := put (puts ([.val (.lst (zs (keptF w st side))), .val (.int w), .val (.int k), .val (.int side)] ++ List.replicate 4 .undef) [4, 5] [.int (k.fdiv side), .int j]) 6 (.val (.lst (nzs ((st j).flatten ++ [w]))))) (k_var (i := 2) rfl) (k_add (k_mul (k_var (i := 4) rfl) (k_var (i := 3) rfl) (two_bits (n := 21) qb (Nat.le_trans sb (by decide)) (by decide))) (k_var (i := 5) rfl))
    rwa [show (k != k.fdiv side * side + j) = false from bne_eq_false_iff_eq.mpr (by rw [Int.mul_comm]; exact em.symm)] at this
  · have := k_not (k_chI (ρ := put (puts ([.val (.lst (zs (keptF w st side))), .val (.int w), .val (.int k), .val (.int side)] ++ List.replicate 4 .undef) [4, 5] [.int (k.fdiv side), .int j]) 6 (.val (.lst (nzs ((st j).flatten ++ [w]))))) (o1 := .LtE) (o2 := .Lt) (q1 := true) (q2 := true) (k_int (x := 0)) (k_var (i := 5) (u := .int j) rfl) (k_var (i := 3) (u := .int side) rfl) (congrArg some (decide_eq_true (Int.natCast_nonneg j))) (congrArg some (decide_eq_true m2)))
    exact this
  · exact k_neP (t := true) (k_call (k_cons (k_neg (k_var (i := 2) rfl)) (k_cons (k_neg (k_var (i := 3) rfl)) k_nil)) b1 b2) (k_tup (k_cons (k_var (i := 4) rfl) (k_cons (k_neg (k_var (i := 5) rfl)) k_nil))) nofun nofun (eq_pair _ _)
  · have es : slc (nzs ((st j).flatten ++ [w])) (some (((side : Int) * (side - 1)).fdiv 2)) none none = nzs [w] := by
      have e2 : ((side : Int) * (side - 1)).fdiv 2 = (((st j).flatten.length : Nat) : Int) := by
        rw [h3]
        rcases L.s34 with e | e <;> rw [e] <;> rfl
      rw [e2, slc_nat (n := 1) (.inr ⟨rfl, by rw [List.length_map, List.length_map, List.length_append]; rfl⟩) (by rw [List.length_map, List.length_map, List.length_append]; exact Nat.le_refl _), ← List.map_drop, ← List.map_take, ← List.map_drop, ← List.map_take, List.drop_left]; rfl
    have sb2 : bits ((side : Int) - 1) ≤ 3 := by rw [pred_cast L.s.2.2.1]; exact bits_natc (Nat.lt_of_le_of_lt (Nat.sub_le _ _) (Nat.lt_of_le_of_lt s34.2 (by decide)))
    exact k_neP (t := true) (u := .lst (nzs [w])) (w := .lst (nzs [w])) (es ▸ k_slice (k_bvar (i := 6) rfl) (k_psome (k_fdiv (k_mul (k_var (i := 3) (u := .int side) rfl) (k_sub (k_var (i := 3) (u := .int side) rfl) (k_int (x := 1))) (two_bits sb sb2 (by decide))) (k_int (x := 2)) ⟨by decide, noPl (B := 2) (by decide) (by decide) (by decide)⟩)) k_pnone k_pnone nofun (by rw [List.length_map]; exact Nat.le_trans f5 (by decide))) (k_list (k_cons (k_var (i := 1) rfl) k_nil)) nofun nofun (eq_ints [w])
  · rw [tri_rows, h2] at g2
    refine q_set (k_call (k_cons (k_var (i := 6) rfl) (k_cons (k_var (i := 3) rfl) k_nil)) g1 g2) ?_
    obtain ⟨c1, c2⟩ := T.c118 (st j) (L.i j)
    have q2 := k_tint (k_mod (ρ := put (put (puts ([.val (.lst (zs (keptF w st side))), .val (.int w), .val (.int k), .val (.int side)] ++ List.replicate 4 .undef) [4, 5] [.int (k.fdiv side), .int j]) 6 (.val (.lst (nzs ((st j).flatten ++ [w]))))) 7 (.val (.lst (rowsP (st j))))) (k_var (i := 4) (u := .int (k.fdiv side)) rfl) (k_int (x := 2)) (by decide))
    unfold tl
    rw [hj, Int.toNat_natCast]
    by_cases hq : (k.fdiv side).fmod 2 = 0
    · rw [if_pos hq]
      rw [hq] at q2
      exact q_ret (k_iff q2 (k_var (i := 7) rfl)) rfl
    · rw [if_neg hq]
      rw [show ((k.fdiv side).fmod 2 != 0) = true from bne_iff_ne.mpr hq] at q2
      exact q_ret (k_ift q2 (k_call (k_cons (k_var (i := 7) rfl) k_nil) c1 c2)) rfl
end

end
end Mine
namespace Mine
section
open PySem.Calls
section
variable {Γ : Fx} {Q : Fl → PEnv → Prop} {side w : Nat} {I : List (List Nat) → Prop} {st : Nat → List (List Nat)} {cs : List Int} {s : PV}
/-- the calls that the law makes -/
structure Lc (Γ : Fx) (side w : Nat) (I : List (List Nat) → Prop) (st : Nat → List (List Nat)) (cs : List Int) (s : PV) : Prop where
  c63 : Γ.K 63 [s] ∧ Γ.V 63 [s] = .lst (zs cs)
  c113 : Γ.K 113 [.lst (zs cs), .int side] ∧ Γ.V 113 [.lst (zs cs), .int side] = .lst (rowsP (st 0))
  c103 : ∀ (f : Addr) (t : Int) (rs : List (List Nat)) (hs : List Nat), f = 56 ∨ f = 77 ∨ f = 70 → I rs → (∀ h ∈ hs, h < rs.length) → Γ.K 103 [.fn f, .lst (rowsP rs), .int w, .lst (nzs hs), .int t] ∧ Γ.V 103 [.fn f, .lst (rowsP rs), .int w, .lst (nzs hs), .int t] = .lst (rowsP (lapF rs w hs))
  c42 : ∀ rs, I rs → Γ.K 42 [.lst (nzs (rs.flatten ++ [w])), .int (bits (w : Int))] ∧ Γ.V 42 [.lst (nzs (rs.flatten ++ [w])), .int (bits (w : Int))] = .int (encF w rs)
  c118 : ∀ rs, I rs → Γ.K 118 [.lst (rowsP rs)] ∧ Γ.V 118 [.lst (rowsP rs)] = .lst (rowsP (mirN rs))
  c125 : ∀ k : Int, k.natAbs < 2 ^ 20 → Γ.K 125 [.lst (zs (keptF w st side)), .int w, .int k, .int side] ∧ Γ.V 125 [.lst (zs (keptF w st side)), .int w, .int k, .int side] = .lst (rowsP (tl side st k))
  c56 : Γ.K 56 [.int w, .int side] ∧ Γ.V 56 [.int w, .int side] = qr w side
  c70 : Γ.K 70 [.int w, .int side] ∧ Γ.V 70 [.int w, .int side] = qr w side
  z56 : ∀ x : Int, RaisesAt Γ.C Γ.D Γ.U 56 [.int x, .int 0] true
theorem flat_rows : ∀ rs : List (List Nat), (rowsP rs).flatMap asL = nzs rs.flatten
  | [] => rfl
  | r :: rs => by
    show nzs r ++ (rowsP rs).flatMap asL = _
    rw [flat_rows rs, List.flatten_cons]
    unfold nzs nz zs
    rw [List.map_append, List.map_append]
theorem flat_id : ∀ us : List PV, us.flatMap (fun x => [x]) = us
  | [] => rfl
  | x :: us => by rw [List.flatMap_cons, flat_id us]; rfl
theorem flat_no : ∀ us : List PV, us.flatMap (fun _ => ([] : List PV)) = []
  | [] => rfl
  | x :: us => by rw [List.flatMap_cons, flat_no us]; rfl
/-- the numbers, row by row -/
theorem k_flat {ρ : PEnv} {rs : List (List Nat)} (h : get ρ 5 = .val (.lst (rowsP rs))) (hl : rs.flatten.length ≤ 100) : ok (dCompN [] (.one 9) [10] (sVal true (dVar 5)) tYes (iMore (.one 10) [] (sVal true (dVar 9)) tYes (iLast (dVar 10)))) ρ (.lst (nzs rs.flatten)) := by
  rw [← flat_rows]
  refine k_compN (φ := asL) (k_sval (k_var h)) (fun x hx => ?_) (by rw [flat_rows, List.length_map, List.length_map]; exact b100 hl)
  obtain ⟨r, hr, rfl⟩ := List.mem_map.mp hx
  refine tu_yes trivial k_yes ?_
  have := k_iMore (ρ := turnE (.one 9) [10] (.lst (nzs r)) (keepI [] ρ)) (g := .one 10) (ids := []) (cc := tYes) (f := iLast (dVar 10)) (φ := fun x => [x]) (k_sval (one := true) (k_var (i := 9) (u := .lst (nzs r)) (by unfold turnE bindT; exact get_same ..))) (fun x _ => tu_yes trivial k_yes (k_iLast (k_var (get_same ..))))
  rwa [flat_id] at this
noncomputable abbrev rho130 (s : PV) (cs : List Int) (side : Nat) (R0 : List (List Nat)) (w : Nat) (R : List (List Nat)) (kept : List Int) (b8 b10 b11 b15 b16 b17 : Bind) : PEnv :=
  [.val s, .val (.lst (zs cs)), .val (.int side), .val (.lst (rowsP R0)), .val (.int w), .val (.lst (rowsP R)), .val (.lst (zs kept)), .val (.lst (nzs (dnL side))), b8, .undef, b10, b11, .undef, .undef, .undef, b15, b16, b17]
theorem k_top {ρ : PEnv} {i : Nat} {R : List (List Nat)} {c : Nat} (h : get ρ i = .val (.lst (rowsP R))) (hc : R.getLast? = some [c]) (hl : R.length ≤ 16) : okI (dItem (bVal (dLast (bVar i))) (dInt 0)) ρ (c : Int) :=
  k_item (us := [.int c]) (j := 0) (k_bval (k_last (us := rowsP R) (k_bvar h) (by unfold rowsP; rw [List.getLast?_map, hc]; rfl) (by unfold rowsP; rw [List.length_map]; exact b16 hl))) (k_int (x := 0)) (idx_nat (n := 1) (i := 0) (by decide) (by decide)) rfl
theorem range_one (m : Nat) (h : 1 ≤ m ∧ m ≤ 5) : krange2 1 (m : Int) ∧ zs (rng 1 1 (Builtin.Range.rangeSize 1 (m : Int) 1).toNat) = nzs (List.range' 1 (m - 1)) := by
  have : ∀ m : Nat, m ≤ 5 → 1 ≤ m → (Builtin.Range.small 1 (m : Int) 1 = true ∧ 0 ≤ Builtin.Range.rangeSize 1 (m : Int) 1) ∧ rng 1 1 (Builtin.Range.rangeSize 1 (m : Int) 1).toNat = nz (List.range' 1 (m - 1)) := by decide
  exact ⟨(this m h.2 h.1).1, congrArg zs (this m h.2 h.1).2⟩
/-- nothing is out of order -/
theorem k_odd {ρ : PEnv} (L : Lw side w I st) {rs : List (List Nat)} (hI : I rs) (h2 : get ρ 2 = .val (.int side)) (h5 : get ρ 5 = .val (.lst (rowsP rs))) : ok e130_11 ρ (.lst []) := by
  have s34 : 3 ≤ side ∧ side ≤ 4 := ⟨L.s.1, L.s.2.1⟩
  have s1 : 1 ≤ side - 1 := Nat.le_sub_of_add_le (Nat.le_trans (by decide) s34.1)
  obtain ⟨l1, l2⟩ := L.inv.len rs hI
  obtain ⟨q1, _, _, _⟩ := L.sh rs hI
  obtain ⟨g1, g2⟩ := range_one (side - 1) (⟨s1, Nat.le_trans (Nat.sub_le _ _) (Nat.le_trans s34.2 (by decide))⟩)
  have k1 := k_sub (k_var h2) (k_int (x := 1))
  rw [show (side : Int) - 1 = ((side - 1 : Nat) : Int) from (pred_cast L.s.2.2.1)] at k1
  rw [← flat_no (nzs (List.range' 1 (side - 1 - 1)))]
  refine k_compN (φ := fun _ => []) (g2 ▸ k_range2 (k_int (x := 1)) k1 g1) (fun x hx => ?_) (by rw [flat_no]; exact Nat.zero_le _)
  obtain ⟨z, hz, rfl⟩ := List.mem_map.mp hx
  obtain ⟨h, hh, rfl⟩ := List.mem_map.mp hz
  obtain ⟨hh1, hh2⟩ := List.mem_range'_1.mp hh
  have hl1 : h < rs.length := by rw [q1, ← Nat.add_sub_cancel' s1]; exact hh2
  obtain ⟨xs, hxs⟩ : ∃ xs, rs[h]? = some xs := ⟨_, List.getElem?_eq_getElem (hl1)⟩
  obtain ⟨ys, hys⟩ : ∃ ys, rs[h - 1]? = some ys := ⟨_, List.getElem?_eq_getElem (Nat.lt_of_le_of_lt (Nat.sub_le h 1) hl1)⟩
  have hxl := l2 xs (List.mem_of_getElem? hxs)
  have hyl := l2 ys (List.mem_of_getElem? hys)
  refine tu_yes trivial k_yes ?_
  obtain ⟨ρ1, e1⟩ : ∃ ρ1, ρ1 = turnE (.one 12) [13, 14] (.int h) (keepI [5] ρ) := ⟨_, rfl⟩
  have r5 : get ρ1 5 = .val (.lst (rowsP rs)) := by
    rw [e1]
    show get (put (eraseI [12, 13, 14] (keepI [5] ρ)) 12 _) 5 = _
    rw [get_other (by decide), get_eraseI, if_neg (by decide)]
    show get (keepG [5] 0 ρ) 5 = _
    rw [get_keepG, h5]; rfl
  have r12 : get ρ1 12 = .val (.int h) := by rw [e1]; exact get_same ..
  have rowk : ∀ {ρ : PEnv} {b : MV} {m : Nat} {zs' : List Nat}, get ρ 5 = .val (.lst (rowsP rs)) → okI b ρ (m : Int) → rs[m]? = some zs' → ok (dItem (bVar 5) b) ρ (.lst (nzs zs')) := fun g5 gb hm =>
    k_item (us := rowsP rs) (k_bvar g5) gb (idx_nat (by unfold rowsP; rw [List.length_map]; exact (List.getElem?_eq_some_iff.mp hm).1) (by unfold rowsP; rw [List.length_map]; exact b16 l1)) (by unfold rowsP; rw [List.getElem?_map, hm]; rfl)
  rw [← e1, ← flat_no (nzs (List.range xs.length))]
  obtain ⟨v1, v2⟩ := range_zs xs.length hxl
  have kl := k_len (k_bval (rowk r5 (k_var r12) hxs)) (by rw [List.length_map, List.length_map]; exact b16 hxl)
  rw [List.length_map, List.length_map] at kl
  refine k_iMore (φ := fun _ => []) (v2 ▸ k_range kl v1) (fun x hx => ?_)
  obtain ⟨z, hz, rfl⟩ := List.mem_map.mp hx
  obtain ⟨p, hp, rfl⟩ := List.mem_map.mp hz
  have hp : p < xs.length := List.mem_range.mp hp
  obtain ⟨ρ2, e2⟩ : ∃ ρ2, ρ2 = turnE (.one 13) [14] (.int p) ρ1 := ⟨_, rfl⟩
  have o2 : ∀ j, j ≠ 13 → j ≠ 14 → get ρ2 j = get ρ1 j := fun j h1 h2 => by
    rw [e2]
    show get (put (eraseI [13, 14] ρ1) 13 _) j = _
    rw [get_other h1, get_eraseI, if_neg (by simp; exact ⟨h1, h2⟩)]
  have r13 : get ρ2 13 = .val (.int p) := by rw [e2]; exact get_same ..
  have r5' := (o2 5 (by decide) (by decide)).trans r5
  have r12' := (o2 12 (by decide) (by decide)).trans r12
  refine tu_yes trivial k_yes ?_
  have kh := k_sub (k_var r12') (k_int (x := 1))
  rw [show (h : Int) - 1 = ((h - 1 : Nat) : Int) from (pred_cast hh1)] at kh
  have ord := L.ord rs hI h xs p (xs[p]'hp) (hh1) hxs (List.getElem?_eq_getElem hp)
  have ks := k_slice (k_bval (rowk r5' kh hys)) (k_psome (k_var r13)) (k_psome (k_add (k_var r13) (k_int (x := 2)))) k_pnone nofun (by rw [List.length_map, List.length_map]; exact b16 hyl)
  rw [show nzs ys = (ys.map (fun (n : Nat) => (n : Int))).map PV.int from rfl, slc_map, slc_map] at ks
  rw [List.getD_eq_getElem?_getD, hys] at ord
  rw [← e2, ← flat_no (((slc ys (some (p : Int)) (some ((p : Int) + 2)) none).map (fun (n : Nat) => (n : Int))).map PV.int)]
  refine k_iMore (φ := fun _ => []) (k_sval ks) (fun x hx => ?_)
  obtain ⟨z, hz, rfl⟩ := List.mem_map.mp hx
  obtain ⟨y, hy, rfl⟩ := List.mem_map.mp hz
  obtain ⟨y0, yd⟩ := ord y hy
  obtain ⟨ρ3, e3⟩ : ∃ ρ3, ρ3 = turnE (.one 14) [] (.int (y : Int)) ρ2 := ⟨_, rfl⟩
  have o3 : ∀ j, j ≠ 14 → get ρ3 j = get ρ2 j := fun j h1 => by
    rw [e3]
    show get (put (eraseI [14] ρ2) 14 _) j = _
    rw [get_other h1, get_eraseI, if_neg (by simp; exact h1)]
  have r14 : get ρ3 14 = .val (.int y) := by rw [e3]; exact get_same ..
  refine tu_no trivial ?_
  rw [← e3]
  have km := k_tint (k_mod (k_item (us := nzs xs) (k_bval (rowk ((o3 5 (by decide)).trans r5') (k_var ((o3 12 (by decide)).trans r12')) hxs)) (k_var ((o3 13 (by decide)).trans r13)) (idx_nat (by rw [List.length_map, List.length_map]; exact hp) (by rw [List.length_map, List.length_map]; exact b16 hxl)) (w := .int (xs[p]'hp : Nat)) (by rw [List.getElem?_map, List.getElem?_map, List.getElem?_eq_getElem hp]; rfl)) (k_var r14) (Int.ne_of_gt (Int.natCast_pos.mpr y0)))
  rw [Int.fmod_eq_emod_of_nonneg _ (Int.natCast_nonneg _), Int.emod_eq_zero_of_dvd (Int.natCast_dvd_natCast.mpr yd)] at km
  have ke := k_eq (k_var r14) (k_int (x := 0))
  rw [show ((y : Int) == 0) = false from beq_eq_false_iff_ne.mpr (Int.ne_of_gt (Int.natCast_pos.mpr y0))] at ke
  have ko := k_or ke (k_or km k_no)
  exact ⟨⟨ko.1, fun _ => trivial⟩, by show (_ && true) = false; rw [show (tOr (tCmp .Eq (dVar 14) (dInt 0)) (tOr (tVal (dBin .Mod (dItem (bVal (dItem (bVar 5) (dVar 12))) (dVar 13)) (dVar 14))) tNo)).v ρ3 = false from ko.2]; rfl⟩
end

end
end Mine
namespace Mine
section
open PySem.Calls
section
variable {Γ : Fx} {Q : Fl → PEnv → Prop} {side w : Nat} {I : List (List Nat) → Prop} {st : Nat → List (List Nat)} {cs : List Int} {s : PV}
theorem kept_succ (w : Nat) (st : Nat → List (List Nat)) (k : Nat) : keptF w st (k + 1) = keptF w st k ++ [encF w (st k)] := by
  unfold keptF
  rw [List.range_succ, List.map_append]; rfl
theorem dn_lt (L : Lw side w I st) {rs : List (List Nat)} (h : I rs) : ∀ z ∈ dnL side, z < rs.length := fun z hz => by
  rw [(L.sh rs h).1]
  exact List.mem_range.mp (List.mem_reverse.mp hz)
/-- the laps -/
theorem loop130 (L : Lw side w I st) (C : Lc Γ side w I st cs s) {b15 b16 b17 : Bind} : ∀ (n k : Nat) (b8 b11 : Bind), k + n = side → (∀ b8 b11, Q .next (rho130 s cs side (st 0) w (st side) (keptF w st side) b8 .undef b11 b15 b16 b17)) →
    fe (.one 8) (b130_14 Γ) (nzs (List.range' k n)) (rho130 s cs side (st 0) w (st k) (keptF w st k) b8 .undef b11 b15 b16 b17) Q
  | 0, k, b8, b11, h, q => by
    rw [show k = side from h]
    exact q b8 b11
  | n + 1, k, b8, b11, h, q => by
    have hI := L.i k
    have hI' := L.i (k + 1)
    have s34 : 3 ≤ side ∧ side ≤ 4 := ⟨L.s.1, L.s.2.1⟩
    obtain ⟨_, f2, f3, f4, f5⟩ := L.fig hI
    have fl : (st k).flatten.length ≤ 6 := by
      rw [List.length_map, List.length_append] at f5
      exact Nat.le_of_succ_le_succ f5
    obtain ⟨d1, d2⟩ := C.c42 (st k) hI
    obtain ⟨e1, e2⟩ := C.c103 56 k (st k) (dnL side) (.inl rfl) hI (dn_lt L hI)
    rw [← L.dn] at e2
    obtain ⟨c, t1, t2, t3⟩ := L.top _ hI'
    have hlen : (st (k + 1)).length ≤ 16 := (L.inv.len _ hI').1
    refine ⟨trivial, ?_⟩
    refine q_set (u := .lst (zs (keptF w st (k + 1)))) ?_ ?_
    · have e : nzs (st k).flatten ++ [PV.int w] = nzs ((st k).flatten ++ [w]) := by
        unfold nzs nz zs
        rw [List.map_append, List.map_append]; rfl
      have len : (nzs (st k).flatten).length + 1 ≤ 16777216 := by rw [List.length_map, List.length_map]; exact Nat.le_trans (Nat.succ_le_succ fl) (by decide)
      have k1 : ok (dBin .Add (dCompN [] (.one 9) [10] (sVal true (dVar 5)) tYes (iMore (.one 10) [] (sVal true (dVar 9)) tYes (iLast (dVar 10)))) (dList (lCons (dVar 4) lNil))) (bindT (.one 8) (.int (k : Int)) (rho130 s cs side (st 0) w (st k) (keptF w st k) b8 .undef b11 b15 b16 b17)) (.lst (nzs ((st k).flatten ++ [w]))) :=
        e ▸ k_cat (k_flat rfl (Nat.le_trans fl (by decide))) (k_list (k_cons (k_var (i := 4) (u := .int w) rfl) k_nil)) len
      have len2 : (zs (keptF w st k)).length + 1 ≤ 16777216 := by
        unfold keptF
        rw [List.length_map, List.length_map, List.length_range]; exact Nat.le_trans (Nat.le_trans (Nat.add_le_add_left (Nat.succ_pos n) k) (Nat.le_of_eq h)) (Nat.le_trans s34.2 (by decide))
      have key := k_cat (k_var (i := 6) (u := .lst (zs (keptF w st k))) (ρ := bindT (.one 8) (.int (k : Int)) (rho130 s cs side (st 0) w (st k) (keptF w st k) b8 .undef b11 b15 b16 b17)) rfl) (k_list (k_cons (k_call (k_cons k1 (k_cons (k_bits (k_var (i := 4) (u := .int w) rfl)) k_nil)) d1 d2) k_nil)) len2
      have ek : zs (keptF w st (k + 1)) = zs (keptF w st k) ++ [.int (encF w (st k))] := by rw [kept_succ]; exact List.map_append
      rw [ek]
      exact key
    refine q_set (k_call (k_cons k_fn (k_cons (k_var rfl) (k_cons (k_var rfl) (k_cons (k_var rfl) (k_cons (k_var rfl) k_nil))))) e1 e2) ?_
    refine q_set (k_odd L hI' rfl rfl) ?_
    refine q_not (k_or (k_neP (t := true) (u := .lst []) (w := .lst []) (k_var rfl) (k_list k_nil) nofun nofun rfl) (k_or ?_ k_no)) (q_end (q_end ?_))
    · have km := k_tint (k_mod (ρ := put (put (put (bindT (.one 8) (.int (k : Int)) (rho130 s cs side (st 0) w (st k) (keptF w st k) b8 .undef b11 b15 b16 b17)) 6 (.val (.lst (zs (keptF w st (k + 1)))))) 5 (.val (.lst (rowsP (st (k + 1)))))) 11 (.val (.lst []))) (k_var (i := 4) (u := .int w) rfl) (k_top (i := 5) rfl t1 hlen) (Int.ne_of_gt (Int.natCast_pos.mpr t2)))
      rwa [Int.fmod_eq_emod_of_nonneg _ (Int.natCast_nonneg _), Int.emod_eq_zero_of_dvd (Int.natCast_dvd_natCast.mpr t3)] at km
    · exact loop130 L C n (k + 1) (.val (.int k)) (.val (.lst [])) (by rw [Nat.add_right_comm, Nat.add_assoc]; exact h) q
theorem down_ok {ρ : PEnv} (hs : side = 3 ∨ side = 4) (h : get ρ 2 = .val (.int side)) : ok e130_7 ρ (.lst (nzs (dnL side))) := by
  have m1 : okI (dUn .USub (dInt 1)) ρ (-1) := k_neg k_int
  rcases hs with rfl | rfl
  · exact k_listR3 (k_sub (k_var h) (k_int (x := 2))) m1 m1 (by decide) (by decide) (by decide) (by decide) (by decide)
  · exact k_listR3 (k_sub (k_var h) (k_int (x := 2))) m1 m1 (by decide) (by decide) (by decide) (by decide) (by decide)
theorem upto_ok {ρ : PEnv} (hs : side = 3 ∨ side = 4) (h : get ρ 2 = .val (.int side)) : ok (dListR1 (dBin .Sub (dVar 2) (dInt 1))) ρ (.lst (nzs (List.range (side - 1)))) := by
  have k1 := k_sub (k_var h) (k_int (x := 1))
  rw [show (side : Int) - 1 = ((side - 1 : Nat) : Int) from (pred_cast (by rcases hs with rfl | rfl <;> decide))] at k1
  obtain ⟨r1, r2⟩ := range_zs (side - 1) (by rcases hs with rfl | rfl <;> decide)
  have := k_listR1 k1 r1 (by rcases hs with rfl | rfl <;> decide)
  rwa [r2] at this
theorem ret_and {ρ : PEnv} {a b : MV} (p : ok a ρ (.bool true)) (q : ok b ρ (.bool true)) : sSeq (xRet (dAnd a b)) sNil ρ fun fl _ => fl = .ret (.bool true) := q_ret (k_and p q) rfl
/-- the law -/
theorem r130 (L : Lw side w I st) (C : Lc Γ side w I st cs s) (hc : cs.length = 9) (hs : 3 + cs.sum.fmod 2 = (side : Int)) {c : Nat} (ht : (st 0).getLast? = some [c]) (hw : c * kk cs 6 = w) : s130 Γ ([.val s] ++ List.replicate 17 .undef) fun fl _ => fl = .ret (.bool true) := by
  have s34 : 3 ≤ side ∧ side ≤ 4 := ⟨L.s.1, L.s.2.1⟩
  have hI0 := L.i0
  have l0 : (st 0).length ≤ 16 := (L.inv.len _ hI0).1
  obtain ⟨w0, w1⟩ := L.w0
  obtain ⟨c', t1, t2, t3⟩ := L.top _ hI0
  have ec : c' = c := by rw [ht] at t1; injection t1 with t1; injection t1 with t1; exact t1.symm
  subst ec
  have cl := Nat.le_of_dvd w0 t3
  obtain ⟨_, k2, k3⟩ := kk_rng cs 6
  refine q_set (k_call (k_cons (k_var rfl) k_nil) C.c63.1 C.c63.2) ?_
  refine q_set (u := .int side) (hs ▸ k_add k_int (k_mod (k_sum (k_var rfl)) k_int (by decide))) ?_
  refine q_set (k_call (k_cons (k_var (i := 1) rfl) (k_cons (k_var (i := 2) rfl) k_nil)) C.c113.1 C.c113.2) ?_
  refine q_set (u := .int w) ?_ ?_
  · have := k_mul (k_top (ρ := put (put (put ([.val s] ++ List.replicate 17 .undef) 1 (.val (.lst (zs cs)))) 2 (.val (.int side))) 3 (.val (.lst (rowsP (st 0))))) (i := 3) rfl t1 l0) (k_add (k_int (x := 1)) (k_mod (k_it (L := cs) (i := 6) (k_bvar (i := 1) rfl) (k_int (x := 6)) (by rw [hc]; decide) (by rw [hc]; decide)) (k_int (x := 12)) (by decide))) (by
      rw [k3]
      have b1 : bits (c' : Int) ≤ 30 := bits_natc (Nat.lt_of_le_of_lt cl w1)
      have b2 : bits (kk cs 6 : Int) ≤ 4 := bits_natc (Nat.lt_of_le_of_lt k2 (by decide))
      exact two_bits b1 (Nat.le_trans b2 (by decide)) (by decide))
    rw [k3, ← Int.natCast_mul, hw] at this
    exact this
  refine q_set (u := .lst (rowsP (st 0))) (k_var rfl) (q_set (u := .lst []) (k_list k_nil) (q_set (down_ok L.s34 rfl) ?_))
  obtain ⟨r1, r2⟩ := range_zs side (Nat.le_trans s34.2 (by decide))
  refine q_for (r2 ▸ k_range (k_var (i := 2) rfl) r1) ?_
  rw [List.range_eq_range']
  refine loop130 L C side 0 .undef .undef (Nat.zero_add _) fun b8 b11 => ?_
  obtain ⟨mk, mv⟩ := C.c118 (st 0) hI0
  refine q_not (?_) (q_end ?_)
  · exact k_neP (t := true) (u := .lst (rowsP (st side))) (w := .lst (rowsP (mirN (st 0)))) (k_var (i := 5) rfl) (k_call (k_cons (k_var (i := 3) rfl) k_nil) mk mv) nofun nofun (L.mir ▸ eq_rows _)
  obtain ⟨lp, hlp⟩ : ∃ lp, lp = (cs.getD 7 0).fmod 2001 - 1000 := ⟨_, rfl⟩
  have lr : lp.natAbs ≤ 3001 := by
    have := fmod_pos (x := cs.getD 7 0) (b := 2001) (by decide)
    rw [hlp]
    exact Nat.le_trans (Int.natAbs_sub_le _ _) (Nat.add_le_add (Nat.le_of_lt (Int.natAbs_lt_natAbs_of_nonneg_of_lt this.1 this.2)) (Nat.le_refl 1000))
  refine q_set (u := .int lp) (hlp ▸ k_sub (k_mod (k_it (L := cs) (i := 7) (k_bvar (i := 1) rfl) (k_int (x := 7)) (by rw [hc]; decide) (by rw [hc]; decide)) (k_int (x := 2001)) (by decide)) k_int) ?_
  obtain ⟨a1, a2⟩ := C.c125 lp (Nat.lt_of_le_of_lt lr (by decide))
  obtain ⟨a3, a4⟩ := C.c125 (lp + 1) (Nat.lt_of_le_of_lt (Nat.le_trans (Int.natAbs_add_le _ _) (Nat.add_le_add_right lr _)) (by decide))
  obtain ⟨a5, a6⟩ := C.c125 (lp - 1) (Nat.lt_of_le_of_lt (Nat.le_trans (Int.natAbs_sub_le _ _) (Nat.add_le_add_right lr _)) (by decide))
  have hI := L.itl lp
  obtain ⟨d1, d2⟩ := C.c103 77 2 _ (dnL side) (.inr (.inl rfl)) hI (dn_lt L hI)
  obtain ⟨u1, u2⟩ := C.c103 70 0 _ (List.range (side - 1)) (.inr (.inr rfl)) hI (fun z hz => by rw [(L.sh _ hI).1]; exact List.mem_range.mp hz)
  rw [L.tln] at d2
  rw [L.tlp] at u2
  obtain ⟨r, rs, er⟩ : ∃ r rs, tl side st lp = r :: rs := by
    have := (L.sh _ hI).1
    cases h : tl side st lp with
    | nil => rw [h] at this; exact absurd this (by show (0 : Nat) ≠ _; exact Nat.ne_of_lt (Nat.sub_pos_of_lt (Nat.lt_of_lt_of_le (by decide) s34.1)))
    | cons r rs => exact ⟨r, rs, rfl⟩
  refine q_set (k_call (k_cons (k_var (i := 6) rfl) (k_cons (k_var (i := 4) rfl) (k_cons (k_var (i := 15) rfl) (k_cons (k_var (i := 2) rfl) k_nil)))) a1 a2) ?_
  refine q_not (k_or ?_ (k_or ?_ k_no)) (q_end ?_)
  · exact k_eqP (t := false) (u := .lst (rowsP (tl side st lp))) (w := .lst []) (k_var (i := 16) rfl) (k_list k_nil) nofun nofun (er ▸ eq_nil r rs)
  · exact k_neP (t := true) (u := .lst (rowsP (tl side st (lp + 1)))) (w := .lst (rowsP (tl side st (lp + 1)))) (k_call (k_cons k_fn (k_cons (k_var (i := 16) rfl) (k_cons (k_var (i := 4) rfl) (k_cons (k_var (i := 7) rfl) (k_cons (k_int (x := 2)) k_nil))))) d1 d2) (k_call (k_cons (k_var (i := 6) rfl) (k_cons (k_var (i := 4) rfl) (k_cons (k_add (k_var (i := 15) rfl) (k_int (x := 1))) (k_cons (k_var (i := 2) rfl) k_nil)))) a3 a4) nofun nofun (eq_rows _)
  refine q_not ?_ (q_end ?_)
  · exact k_neP (t := true) (u := .lst (rowsP (tl side st (lp - 1)))) (w := .lst (rowsP (tl side st (lp - 1)))) (k_call (k_cons k_fn (k_cons (k_var (i := 16) rfl) (k_cons (k_var (i := 4) rfl) (k_cons (upto_ok L.s34 rfl) (k_cons (k_int (x := 0)) k_nil))))) u1 u2) (k_call (k_cons (k_var (i := 6) rfl) (k_cons (k_var (i := 4) rfl) (k_cons (k_sub (k_var (i := 15) rfl) (k_int (x := 1))) (k_cons (k_var (i := 2) rfl) k_nil)))) a5 a6) nofun nofun (eq_rows _)
  refine q_set (u := .lst []) (k_list k_nil) ?_
  refine q_for (k_stup (k_tup (k_cons (k_var (i := 4) (u := .int w) rfl) (k_cons (k_neg (k_var (i := 4) (u := .int w) rfl)) (k_cons (k_int (x := 0)) k_nil))))) ?_
  refine ⟨trivial, q_try2 (ws := []) (k_cons (k_var (i := 10) rfl) (k_cons (k_int (x := 0)) k_nil)) (C.z56 _) rfl (by decide) ⟨trivial, q_try2 (ws := [.str Str.empty]) (k_cons (k_var (i := 10) rfl) (k_cons (k_int (x := 0)) k_nil)) (C.z56 _) rfl (by decide) ⟨trivial, q_try2 (ws := [.str Str.empty, .str Str.empty]) (k_cons (k_var (i := 10) rfl) (k_cons (k_int (x := 0)) k_nil)) (C.z56 _) rfl (by decide) ?_⟩⟩⟩
  refine ret_and (k_eqV (t := true) (u := .lst [.str Str.empty, .str Str.empty, .str Str.empty]) (w := .lst [.str Str.empty, .str Str.empty, .str Str.empty]) (k_var (i := 17) rfl) (k_list (k_cons k_str (k_cons k_str (k_cons k_str k_nil)))) nofun nofun (eqP_self (d := .list [.str Str.empty, .str Str.empty, .str Str.empty]) rfl (by decide +kernel))) ?_
  exact k_eqV (t := true) (u := qr w side) (w := qr w side) (k_call (k_cons (k_var (i := 4) rfl) (k_cons (k_var (i := 2) rfl) k_nil)) C.c56.1 C.c56.2) (k_call (k_cons (k_var (i := 4) rfl) (k_cons (k_var (i := 2) rfl) k_nil)) C.c70.1 C.c70.2) nofun nofun (eq_pair _ _)
end

end
end Mine
namespace Mine
section
open PySem.Calls
section
variable {C : Cx} {P : Params} {c d : PV} {o : Int → PV} {D U : Nat} {h64 : 64 ≤ U} {nm : List Str} {side w : Nat} {I : List (List Nat) → Prop} {st : Nat → List (List Nat)} {cs xs : List Int}
theorem v118 (rs : List (List Nat)) : Vl (X04 c d o) 118 [.lst (rowsP rs)] = .lst (rowsP (mirN rs)) := by
  show PV.lst ((rowsP rs).map fun r => .lst (asL r).reverse) = _
  congr 1
  unfold rowsP mirN
  rw [List.map_map, List.map_map]
  refine List.map_congr_left fun r _ => ?_
  show PV.lst (nzs r).reverse = .lst (nzs r.reverse)
  rw [← List.map_reverse, ← List.map_reverse]
theorem m118 (hK : C.K = hd.heap_39 P) (hG : GOk C G04) (hD : 1 ≤ D) (hU : 67 ≤ U) {rs : List (List Nat)} (h : rs.length ≤ 16 ∧ ∀ r ∈ rs, r.length ≤ 16) : (fxOf C nm G04 (X04 c d o) hG D U h64).K 118 [.lst (rowsP rs)] ∧ (fxOf C nm G04 (X04 c d o) hG D U h64).V 118 [.lst (rowsP rs)] = .lst (rowsP (mirN rs)) := by
  have e := v118 (c := c) (d := d) (o := o) rs
  refine ⟨?_, e⟩
  show ConAt C D U 118 _ (Vl (X04 c d o) 118 _)
  rw [e]
  exact (con118 (X := X04 c d o) (D := 0) (U := 64) hK hG (by decide) (r118 h)).mono hD hU
theorem m56 (hG : GOk C G04) (Y : Pylong C G04 (X04 c d o) hG) (hD : 30 ≤ D) (hU : 160 ≤ U) {a b : Int} (hb : b ≠ 0) (h1 : a.natAbs < 2 ^ 30) (h2 : b.natAbs < 2 ^ 30) : (fxOf C nm G04 (X04 c d o) hG D U h64).K 56 [.int a, .int b] ∧ (fxOf C nm G04 (X04 c d o) hG D U h64).V 56 [.int a, .int b] = qr a b :=
  ⟨(Y.divmod hb (Nat.le_trans (bits_abs h1) (by decide)) (Nat.le_trans (bits_abs h2) (by decide))).mono (Nat.le_trans (by decide) hD) (Nat.le_trans (by decide) hU), rfl⟩
theorem tc_of (hK : C.K = hd.heap_39 P) (hG : GOk C G04) (Y : Pylong C G04 (X04 c d o) hG) (L : Lw side w I st) (hD : 30 ≤ D) (hU : 160 ≤ U) : Tc (fxOf C nm G04 (X04 c d o) hG D U h64) side w I where
  c56 := fun a b hb h1 h2 => m56 hG Y hD hU hb h1 h2
  c35 := fun a n ds hds => by
    have e : Vl (X04 c d o) 35 [.int a, .int n] = .lst (zs ds) := by show PV.lst (zs ((digP a n 18).getD [])) = _; rw [hds]; rfl
    refine ⟨?_, e⟩
    show ConAt C D U 35 _ (Vl (X04 c d o) 35 _)
    rw [e]
    exact (Y.c35 (D := 18) (U := 118) (by decide) (by decide) hds).mono (Nat.le_trans (by decide) hD) (Nat.le_trans (by decide) hU)
  c108 := fun us hu ht => by
    have e : Vl (X04 c d o) 108 [.lst us, .int side] = .lst (lstP (triF (side - 1) us)) := by
      show PV.lst ((triF ((side : Int) - 1).toNat us).map .lst) = _
      rw [show ((side : Int) - 1).toNat = side - 1 from (Int.toNat_sub side 1)]
    refine ⟨?_, e⟩
    show ConAt C D U 108 _ (Vl (X04 c d o) 108 _)
    rw [e]
    exact (con108 (X := X04 c d o) (D := 0) (U := 64) hK hG (by decide) (r108 hu ⟨L.s.2.2.1, Nat.le_trans L.s.2.1 (by decide)⟩ ht)).mono (Nat.le_trans (by decide) hD) (Nat.le_trans (by decide) hU)
  c118 := fun rs h => m118 hK hG (Nat.le_trans (by decide) hD) (Nat.le_trans (by decide) hU) (L.inv.len rs h)
theorem h98_of (hr : C.rb = C.base) (hK : C.K = hd.heap_39 P) (hG : GOk C G04) (hD : 32 ≤ D) (hU : 166 ≤ U) : H98' (fxOf C nm G04 (X04 c d o) hG D U h64) := fun l hl => by
  have e : Vl (X04 c d o) 98 [.fn 70, .lst (nzs l), .int 0] = .int (commN l : Nat) := v98
  refine ⟨?_, e⟩
  show ConAt C D U 98 _ (Vl (X04 c d o) 98 _)
  rw [e]
  exact (m98 hK hG (dv70 (c := c) (d := d) (o := o) hr hK hG) hl).mono hD hU
theorem k103_of (hK : C.K = hd.heap_39 P) (hG : GOk C G04) {f : Addr} {bare : Bool} (E : Dv4 C (X04 c d o) f bare) (hI : Inv 30 w I) (hD : 33 ≤ D) (hU : 169 ≤ U) {rs : List (List Nat)} {hs : List Nat} {t : Int} (i : I rs) (hh : ∀ h ∈ hs, h < rs.length) : (fxOf C nm G04 (X04 c d o) hG D U h64).K 103 [.fn f, .lst (rowsP rs), .int w, .lst (nzs hs), .int t] ∧ (fxOf C nm G04 (X04 c d o) hG D U h64).V 103 [.fn f, .lst (rowsP rs), .int w, .lst (nzs hs), .int t] = .lst (rowsP (lapF rs w hs)) := by
  have e : Vl (X04 c d o) 103 [.fn f, .lst (rowsP rs), .int w, .lst (nzs hs), .int t] = .lst (rowsP (lapF rs w hs)) := v103
  refine ⟨?_, e⟩
  show ConAt C D U 103 _ (Vl (X04 c d o) 103 _)
  rw [e]
  exact (m103 hK hG E hI i hh).mono hD hU
/-- the law's calls -/
theorem lc_of (hr : C.rb = C.base) (hK : C.K = hd.heap_39 P) (hG : GOk C G04) (Y : Pylong C G04 (X04 (.lst (zs cs)) (.lst (rowsP (st 0))) fun k => .lst (rowsP (tl side st k))) hG) (L : Lw side w I st) (hl : xs.length ≤ 63) (hcs : cs = cellsF xs)
    (h113 : ∀ Γ : Fx, H98' Γ → s113 Γ ([.val (.lst (zs cs)), .val (.int side)] ++ List.replicate 7 .undef) fun fl _ => fl = .ret (.lst (rowsP (st 0)))) :
    Lc (fxOf C nm G04 (X04 (.lst (zs cs)) (.lst (rowsP (st 0))) fun k => .lst (rowsP (tl side st k))) hG 40 300 (by decide)) side w I st cs (.lst (zs xs)) where
  c63 := ⟨con63 (X := fun _ _ => .none) (D := 39) (U := 297) hK hG (by decide) (hcs ▸ r63 hl), rfl⟩
  c113 := ⟨con113 (D := 39) (U := 297) hK hG (by decide) (h113 _ (h98_of (c := .none) (d := .none) (o := fun _ => .none) hr hK hG (by decide) (by decide))), rfl⟩
  c103 := fun f t rs hs hf hI hh => by
    rcases hf with rfl | rfl | rfl
    · exact k103_of hK hG (dv56 hr hK hG Y) L.inv (by decide) (by decide) hI hh
    · exact k103_of hK hG (dv77 hr hK hG Y) L.inv (by decide) (by decide) hI hh
    · exact k103_of hK hG (dv70 hr hK hG) L.inv (by decide) (by decide) hI hh
  c42 := fun rs hI => by
    obtain ⟨_, f2, f3, f4, f5⟩ := L.fig hI
    have e : ∀ X, Vl X 42 [.lst (nzs (rs.flatten ++ [w])), .int (bits (w : Int))] = .int (encF w rs) := fun X => by
      show PV.int (worth ((bits (w : Int) : Nat) : Int).toNat ((zs (nz (rs.flatten ++ [w]))).map asI)) = _
      rw [zs_asI, Int.toNat_natCast]; rfl
    refine ⟨?_, e (X04 (.lst (zs cs)) (.lst (rowsP (st 0))) fun k => .lst (rowsP (tl side st k)))⟩
    show ConAt C 40 300 42 _ (Vl (X04 (.lst (zs cs)) (.lst (rowsP (st 0))) fun k => .lst (rowsP (tl side st k))) 42 _)
    rw [e]
    have hm : bits (w : Int) * (nz (rs.flatten ++ [w])).length ≤ 30 * 7 := Nat.mul_le_mul f3 f5
    exact (Y.c42 (D := 4) (U := 76) (k := 3) (M := (w : Int)) (B := 30) f4 (Int.natCast_nonneg _) f3 f2 (Nat.le_trans f5 (by decide)) (Nat.le_trans (Nat.add_le_add_left (Nat.mul_le_mul_left 2 hm) 30) (by decide)) (Nat.le_trans f5 (by decide)) (by decide) (by decide)).mono (by decide) (by decide)
  c118 := fun rs h => m118 hK hG (by decide) (by decide) (L.inv.len rs h)
  c125 := fun k hk => ⟨con125 (D := 39) (U := 297) hK hG (by decide) (r125 L (tc_of hK hG Y L (by decide) (by decide)) hk), rfl⟩
  c56 := m56 hG Y (by decide) (by decide) (Int.ne_of_gt L.s.2.2.2.2) L.w0.2 L.s.2.2.2.1
  c70 := ⟨con70 (X := fun _ _ => .none) (D := 39) (U := 297) hK hG (by decide) (r70 (n := 30) (by decide) (Int.ne_of_gt L.s.2.2.2.2) L.s.2.2.2.1), rfl⟩
  z56 := fun x => raise56 (D := 39) (U := 297) (by decide) hr hK hG x
/-- whatever the script, the law gives True -/
theorem law130 (hr : C.rb = C.base) (hK : C.K = hd.heap_39 P) (hG : GOk C G04) (Y : ∀ X, Pylong C G04 X hG) (hl : xs.length ≤ 63) : ∃ X, s130 (fxOf C nm130 G04 X hG 40 300 (by decide)) ([.val (.lst (zs xs))] ++ List.replicate 17 .undef) fun fl _ => fl = .ret (.bool true) := by
  obtain ⟨cs, hcs⟩ : ∃ cs, cs = cellsF xs := ⟨_, rfl⟩
  have h9 : cs.length = 9 := by rw [hcs]; exact cells_len _ _ _
  rcases fmod2 cs.sum with e | e
  · have T := t3_of cs
    exact ⟨_, r130 (lw3 T.1 T.2) (lc_of (st := stF _ 3 (tr3 cs)) (side := 3) hr hK hG (Y _) (lw3 T.1 T.2) hl hcs fun Γ H => r113_3 H h9) h9 (by rw [e]; rfl) rfl rfl⟩
  · have T := t4_of (cs := cs) rfl rfl rfl rfl
    exact ⟨_, r130 (lw4 T.1 T.2) (lc_of (st := stF _ 4 (tr4 cs)) (side := 4) hr hK hG (Y _) (lw4 T.1 T.2) hl hcs fun Γ H => r113_4 H h9) h9 (by rw [e]; rfl) rfl rfl⟩
end

end
end Mine
namespace Mine
section
open PySem.Calls
noncomputable def tabsL (C : Cx) : List (Addr × Addr) := C.tabs.map fun t => (t.c, t.P)
theorem tabsL_snd (C : Cx) : (tabsL C).map (·.2) = C.Ps := by unfold tabsL Cx.Ps; rw [List.map_map]; rfl
variable {Γ : Fx} {st : Bool} {S : SS}
/-- the law itself is called -/
theorem law_call {p : Program} {loose : List Str} {name : Str} {params : Arguments} {body : List Stmt} {sc : Scope} {pm cd doc : Value} {f : Addr} {o : Obj} {s : Shared} {args : List Value} {ps : List Str} {is : List Nat} {pvs : List PV} {r : PV} {R : Result → Shared → Prop}
    (ho : s.heap.get? f = some o) (hd : o.data = .func (Calls.docDef name params body sc pm cd doc)) (hcd : s.heap.CodeRec cd name) (hT : TabsAt (tabsL Γ.C) s.heap) (kin : Γ.C.K.In s.heap) (hnt : noTabs Γ.C.K = true) (top : Top p loose Γ.C.mean Γ.C.mg Γ.C.mb s.heap)
    (hbase : Γ.C.base = hideAll s.heap Γ.C.Ps) (hrb : Γ.C.rb = Γ.C.base) (hp : Γ.C.p = topProg) (hlo : Γ.C.loose = loose ++ (recsOf p).map (·.name) ++ (litsOf p).map (·.1) ++ (clssOf p loose).map (·.name))
    (hsc : topScope sc ps = true) (hbind : bindArgs (Calls.docDef name params body sc pm cd doc) ⟨args, []⟩ = pure (ps.zip args))
    (hv : varsOf Γ.nm ps = some is) (hD : 301 + (Γ.D + 1) < recursionLimit) (hU : 4 + (Γ.U + 3) < cLine) (hS : GoodStms Γ sc st body S) (m : Nat) (hr : S (puts [] is pvs ++ List.replicate m .undef) fun fl _ => fl = .ret r)
    (hrep : RepL s.heap [] pvs args)
    (post : ∀ h' tk v, Rep h' [] r v → (∀ b o, (hideAll s.heap Γ.C.Ps).get? b = some o → h'.get? b = some o) → TabsOk Γ.C h' → R (.ok (.ret v)) { s with heap := h', toks := tk }) :
    codeAny Γ.C.M callerA (.call (.ref f) ⟨args, []⟩) R s := by
  have hsc' := hsc
  unfold topScope at hsc'
  simp only [Bool.and_eq_true, Bool.not_eq_true', decide_eq_true_eq, List.all_eq_true, Bool.or_eq_true, beq_iff_eq] at hsc'
  obtain ⟨⟨⟨⟨⟨hkind, hco⟩, hgen⟩, _⟩, hps⟩, hnd⟩ := hsc'
  have hT' : ∀ t ∈ Γ.C.tabs, CodeHd s.heap t.c t.P ∧ s.heap.get? t.P = some (tabObj #[]) := fun t ht => hT (t.c, t.P) (List.mem_map.mpr ⟨t, ht, rfl⟩)
  have tab : TabsOk Γ.C s.heap := ⟨fun t ht => ⟨#[], (hT' t ht).2, .inl rfl⟩, fun b o q => of_hideAll _ (hbase ▸ q)⟩
  have hg : ghostOf s.heap (tabsL Γ.C) = hideAll s.heap Γ.C.Ps := by show hideAll _ _ = _; rw [tabsL_snd]
  have T0 := ghost_top hT top
  have K0 := ghost_K hT kin hnt
  have C0 := ghost_code hT
  rw [hg, ← hbase] at T0 K0 C0
  rw [← hp, ← hlo] at T0
  have code : ∀ t ∈ Γ.C.tabs, CodeHd Γ.C.base t.c t.P := by
    have key : ∀ (l : List (Addr × Addr)) (h : Heap), CodeAll l h → ∀ q ∈ l, CodeHd h q.1 q.2 := fun l => by
      induction l with
      | nil => intro h _ q hq; cases hq
      | cons a l ih =>
        intro h x q hq
        rcases List.mem_cons.mp hq with rfl | hq
        · exact x.1
        · exact ih h x.2 q hq
    exact fun t ht => key _ _ C0 (t.c, t.P) (List.mem_map.mpr ⟨t, ht, rfl⟩)
  refine codeAny_call_function (by show 301 < recursionLimit; (first | lia | omega)) ho hd hco hgen rfl hcd (BindsTo.of_eq (s := s) hbind _ _ _ _ ?_)
  refine wpAny_newFunctionEnv_cells hkind (fun x hx => ?_) fun env' he s' x => ?_
  · have hx' : x.1 ∈ ps := zip_fst (List.mem_map.mpr ⟨x, hx, rfl⟩)
    rcases hps x.1 hx' with q | q
    · exact .inl q
    · exact .inr ⟨q, cellsFrom_some _ _ _ (.inl q)⟩
  · subst he
    refine ⟨top.nolimit.keeps x.toInCall.keep, codeAny_func ?_⟩
    have E := enter0 (A := callerA) (X := []) (qual := name) (f := f) (cdv := cd) hsc rfl rfl (fun _ q => nomatch q) (by rw [hrb, hbase, hideAll_size]; exact Nat.le_refl _) (by rw [hbase, hideAll_size]; exact Nat.le_refl _) K0 T0 tab (fun b q => by rw [hbase]; exact hideAll_none _ q) code hD hU (fun _ q => nomatch q) hv hrep x
    obtain ⟨h1, tk1, rfl, _⟩ := x.done
    exact (ret_of hS hr (E.congr (get_pad m _))).go fun fl h2 tk2 ⟨v, e, rv, act2⟩ => by
      subst e
      exact post h2 tk2 v rv (fun b o q => act2.1.base b o (by rw [hbase]; exact q)) act2.1

end
end Mine
namespace Mine
section
open PySem.Calls
set_option maxRecDepth 100000
section
variable {P : Params} {p : Program} {loose : List Str} {mean : ExcName → Option Value} {mg mb : Str → Option Value} {h : Heap}
/-- what a name is, in the module or among the built-ins -/
noncomputable def NameIs (mg mb : Str → Option Value) (x : Str) (v : Option Value) : Prop := ∀ u, v = some u → mg x = some u ∨ (mg x = none ∧ mb x = some u)
theorem names_ok : ∀ {l : List (Str × GKind)}, (∀ q ∈ l, NameIs mg mb q.1 (gVal q.2)) → ∀ x v, gVal ((l.lookup x).getD .no) = some v → mg x = some v ∨ (mg x = none ∧ mb x = some v)
  | [], _, x, v, e => by cases e
  | (y, k) :: l, hl, x, v, e => by
    rw [List.lookup_cons] at e
    cases hx : x == y with
    | true =>
      rw [hx] at e
      rw [eq_of_beq hx]
      exact hl _ (.head _) v e
    | false =>
      rw [hx] at e
      exact names_ok (fun q hq => hl q (.tail _ hq)) x v e
theorem is_mg {x : Str} {v : Value} (e : mg x = some v) : NameIs mg mb x (some v) := fun u q => .inl (q ▸ e)
theorem is_mb {x : Str} {v : Value} (e1 : mg x = none) (e2 : mb x = some v) : NameIs mg mb x (some v) := fun u q => .inr ⟨e1, q ▸ e2⟩
theorem gok04 (X : (hd.heap_39 P).In h) (T : Top p loose mean mg mb h) : ∀ x v, G04 x = some v → mg x = some v ∨ (mg x = none ∧ mb x = some v) := names_ok fun q hq => by
  simp only [gl04, List.mem_cons, List.not_mem_nil, or_false] at hq
  rcases hq with rfl | rfl | rfl | rfl | rfl | rfl | rfl | rfl | rfl | rfl | rfl | rfl | rfl | rfl | rfl | rfl | rfl | rfl | rfl | rfl | rfl | rfl | rfl | rfl | rfl | rfl | rfl | rfl | rfl
  all_goals first | exact is_mg (mg_of X T.g (by rfl)) | exact is_mb (mg_none_of X T.g (by rfl)) ((T.builtins _ (by decide)).trans (by rfl))
end
noncomputable def C04 (w : World) (s₀ : Shared) (mg mb : Str → Option Value) (p : Program) (loose : List Str) (base : Heap) : Cx where
  prog := PySem.Challenge.rw_wb0119_04.row.prog
  w := w
  K := hd.heap_39 w.params
  p := topProg
  loose := loose ++ (recsOf p).map (·.name) ++ (litsOf p).map (·.1) ++ (clssOf p loose).map (·.name)
  mean := ExcName.means s₀.heap
  mg := mg
  mb := mb
  tabs := [t34, t41]
  base := base
  rb := base
theorem uniq04 : ∀ t ∈ [t34, t41], ∀ t' ∈ [t34, t41], t'.P = t.P → t' = t := fun t h t' h' e => by
  simp only [List.mem_cons, List.not_mem_nil, or_false] at h h'
  rcases h with rfl | rfl <;> rcases h' with rfl | rfl <;> first | rfl | (exact absurd e (by decide))
theorem law04 {p : Program} {loose : List Str} {w : World} {s₀ s : Shared} {mg mb : Str → Option Value} {f la : Addr} {o : Obj} {pm cd doc : Value} {xs : List Int} {lv : List Value} {body : List Stmt} {params : Arguments} {sc : Scope} {R : Result → Shared → Prop}
    (ho : s.heap.get? f = some o) (hd' : o.data = .func (Calls.docDef "law" params body sc pm cd doc)) (hcd : s.heap.CodeRec cd "law") (hT : TabsAt [(34, 30), (41, 37)] s.heap) (kin : (hd.heap_39 w.params).In s.heap) (T : Top p loose (ExcName.means s₀.heap) mg mb s.heap)
    (hb : bindArgs (Calls.docDef "law" params body sc pm cd doc) ⟨[Value.ref la], []⟩ = pure ([("script", .ref la)] : List (Str × Value))) (hsc : topScope sc ["script"] = true)
    (hS : ∀ (base : Heap) (X : Addr → List PV → PV) (hG : GOk (C04 w s₀ mg mb p loose base) G04), GoodStms (fxOf (C04 w s₀ mg mb p loose base) nm130 G04 X hG 40 300 (by decide)) sc true body (s130 (fxOf (C04 w s₀ mg mb p loose base) nm130 G04 X hG 40 300 (by decide)))) (hL : s.heap.IsList la lv.toArray) (hI : IntsAre lv xs) (hlen : xs.length ≤ 63)
    (post : ∀ h' tk, (∀ b o, (hideAll s.heap [30, 37]).get? b = some o → h'.get? b = some o) → GrownAll [(34, 30), (41, 37)] h' → R (.ok (.ret (.bool true))) { s with heap := h', toks := tk }) :
    codeAny (model PySem.Challenge.rw_wb0119_04.row.prog w) callerA (.call (.ref f) ⟨[Value.ref la], []⟩) R s := by
  obtain ⟨base, hbase⟩ : ∃ base, base = hideAll s.heap [30, 37] := ⟨_, rfl⟩
  have hG : GOk (C04 w s₀ mg mb p loose base) G04 := gok04 kin T
  have Y := fun X => pylong04 (C := C04 w s₀ mg mb p loose base) (P := w.params) (X := X) rfl (.tail _ (.head _)) (.head _) uniq04 hG
  obtain ⟨X, hX⟩ := law130 (C := C04 w s₀ mg mb p loose base) (P := w.params) (xs := xs) rfl rfl hG Y hlen
  refine law_call (Γ := fxOf (C04 w s₀ mg mb p loose base) nm130 G04 X hG 40 300 (by decide)) (ps := ["script"]) (is := [0]) (pvs := [.lst (zs xs)]) (r := .bool true) ho hd' hcd hT kin (by kernel_rfl) T hbase rfl rfl rfl
    hsc hb (by rfl) (by show 301 + (40 + 1) < recursionLimit; decide) (by show 4 + (300 + 3) < cLine; decide) (hS base X hG) 17 hX ⟨Value.ref la, [], rfl, ⟨la, lv, rfl, (fun h => nomatch h), hL, RepL.of_ints hI⟩, rfl⟩ fun h' tk v rv keep tab => ?_
  cases rv
  exact post h' tk keep ⟨let ⟨ps, h, _⟩ := tab.tabs t34 (.head _); ⟨ps, h⟩, let ⟨ps, h, _⟩ := tab.tabs t41 (.tail _ (.head _)); ⟨ps, h⟩, trivial⟩

end
end Mine
set_option maxRecDepth 100000 in
set_option maxHeartbeats 8000000 in
theorem PySem.Challenge.cw_wb0119_04_holds : PySem.Challenge.rw_wb0119_04.Holds := by
  refine Mine.hd ?_
  k_fill
  intro w s₀ s₁ mg mb G Y fa o pm cd doc dV kV ho hd hcd hD hmg hg args vals as hpre hlay hrd hwl hlo
  have KX := km_in_of Y
  km_tabs Y
  have X := (Ground.X G).1
  have V := (Ground.X G).2
  refine Ground.open G ?_
  intro T B D TE TW
  try (refine guard_noD D (by decide +kernel) ?_; clear D)
  km_lay T hmg ho hd cd
  clear hmg
  wrow_args hpre hlay hrd hwl hlo
  all_goals (
    first | refine callC_kw (enter_call ?_) | refine enter_call ?_
    w_top on
    kn_posts
    have he := Dflts.none hD rfl; subst he
    have he := Dflts.noKw hD; subst he
    rename_i xs hs1 hlay0 hL1 hr1 hl2 as1 as2 la lv as3 hL ra w1 r0 hI hr hc1 hc2
    refine Mine.law04 (xs := xs) (lv := lv) ho (fd_plain hd) hcd hT9 KX T rfl (by rfl) (fun base X hG => Mine.good_of (o := Mine.compSs _ _ (Mine.compS2 _ Mine.g04 [] _ true (fun _ _ e => e) 20) _) (by rfl)) hL hI (by (first | lia | omega)) fun h' tk keep grown => ⟨⟨.inl ⟨_, _, [], rfl, raisesW_false ?_, ReadsW.bool _, ?_, unshared_nil⟩, keep, rfl, hg⟩, grown⟩
    · wrow_none_raised
    · wrow_post)
